import JvmDerived
import JvmDerived.Pilot.@@N@@Statement
import JvmDerived.Pilot.@@N@@Code
set_option linter.unusedVariables false
set_option linter.unusedSimpArgs false
namespace Jvm.Pilot.@@N@@
open Jvm Jvm.ClassFile Sem Op Lib Jvm.Free Jvm.Stand Jvm.LawKit Jvm.RoadKit Bundle Jvm.Pilot.@@N@@.Jvm.D

section OwnWalk
variable {p : Program} {l : Launch} {e : Env} {R : Room} {s : State} {m : MethodId} {args : Array Value} {below : List Frame} {meth : Method} {c : Code} {T : State} {locs : List Loc} {cells slots : Nat} {Z : State} {h : Heap} {Q : Option Value → Heap → List Loc → Prop} {ce sl : Nat} {pc q q' : Nat} {ls : Array Slot} {st : List Value} {a0 : Array Value}
/-- the rest of a body's run, from the frame g on -/
def Go (p : Program) (e : Env) (below : List Frame) (s : State) (Q : Option Value → Heap → List Loc → Prop) (ce sl : Nat) (T : State) (g : JFrame) : Prop :=
  ∃ s₂ o, Steps p.tables e below (T.setTop g) s₂ ∧ s₂.status = .running ∧ Ended s₂ below o ∧ ∃ v L, o = .returned v ∧ Q v s₂.heap L ∧ FrameEnd s o s₂ L ce sl
theorem Go.to {T' : State} {g g' : JFrame} (k : Go p e below s Q ce sl T' g') (f : ∀ t, Steps p.tables e below (T'.setTop g') t → Steps p.tables e below (T.setTop g) t) : Go p e below s Q ce sl T g := by
  obtain ⟨s2, o, h1, r⟩ := k
  exact ⟨s2, o, f _ h1, r⟩
theorem Go.cast {g g' : JFrame} (w : g = g') (k : Go p e below s Q ce sl T g') : Go p e below s Q ce sl T g := w ▸ k
/-- a body's contract: from these arguments, over this heap, it returns with Q -/
abbrev Con (l : Launch) (y : MethodName) (bytes : ByteArray) (maxL : Nat) (ret : Option FieldType) (ws : List Jvm.Cond) (rm : Room) (Z : State) (as' : Array Value) (h : Heap) (Q : Option Value → Heap → List Loc → Prop) : Prop :=
  MetFree l y (head1 (Jvm.Cond.code y bytes maxL ret :: ws) rm) (fun a U => a = as' ∧ Z.Warmed39 U.vm ∧ U.heap = h) (fun _ _ _ _ _ => True) (fun _ U o U' => ∃ v L, o = .returned v ∧ Q v U'.heap L ∧ FrameEnd U o U' L rm.cells rm.slots)
theorem con_of {y : MethodName} {bytes : ByteArray} {maxL : Nat} {ret : Option FieldType} {ws : List Jvm.Cond} {rm : Room} {as' : Array Value} (hpl : plainFor y = true)
    (body : ∀ (p : Program) (e : Env) (s : State) (m : MethodId) (below : List Frame) (meth : Method) (c : Code) (s₁ : State), Stand p l e rm s m as' below meth c s₁ [] 0 0 → p.tables.exec = Jvm.exec → c.code = bytes → c.maxLocals = maxL → meth.sig.returnType = ret → meth.locks = false → s.vm.findClass y.cls = some m.cls → meth.name = y.name → Z.Warmed39 s.vm → s₁.heap = h → Go p e below s Q rm.cells rm.slots s₁ (entryFrame m as' maxL)) :
    Con l y bytes maxL ret ws rm Z as' h Q := by
  refine MetFree.of_bodySF hpl hisR ?_
  intro p e s m args below meth c s₁ Bd hml0 hP hK
  obtain ⟨rfl, hZ, hh⟩ := hP
  exact body p e s m below meth c s₁ (Stand.of_body Bd) Bd.exec Bd.bytes hml0 Bd.returns Bd.notSynchronized (findClass_of_methodNamed Bd.named) (name_of_methodNamed Bd.named Bd.method).1 hZ (by rw [← hh, Bd.state]; rfl)
theorem go_iload (X : Stand p l e R s m args below meth c T locs cells slots) (hx : p.tables.exec = Jvm.exec) {k : Nat} {v : Int32} (hd : decode c.code pc = .ok (.iload k, 2)) (hp : pc + 2 = q) (hl : ls[k]? = some (.val (.int v))) (K : Go p e below s Q ce sl T (mkF m q ls (.int v :: st))) : Go p e below s Q ce sl T (mkF m pc ls st) := by
  subst hp
  exact K.to fun _ r => XS.iload X.here hx rfl hd hl r
theorem go_iloadN (X : Stand p l e R s m args below meth c T locs cells slots) (hx : p.tables.exec = Jvm.exec) {k : Fin 4} {v : Int32} (hd : decode c.code pc = .ok (.iload_n k, 1)) (hp : pc + 1 = q) (hl : ls[k.val]? = some (.val (.int v))) (K : Go p e below s Q ce sl T (mkF m q ls (.int v :: st))) : Go p e below s Q ce sl T (mkF m pc ls st) := by
  subst hp
  exact K.to fun _ r => XS.iloadN X.here hx rfl hd hl r
theorem go_istore (X : Stand p l e R s m args below meth c T locs cells slots) (hx : p.tables.exec = Jvm.exec) {k : Nat} {v : Int32} {l' : Array Slot} (hd : decode c.code pc = .ok (.istore k, 2)) (hp : pc + 2 = q) (hl : storeLocals ls k (.int v) = some l') (K : Go p e below s Q ce sl T (mkF m q l' st)) : Go p e below s Q ce sl T (mkF m pc ls (.int v :: st)) := by
  subst hp
  exact K.to fun _ r => XS.istore X.here hx rfl hd rfl hl r
theorem go_istoreN (X : Stand p l e R s m args below meth c T locs cells slots) (hx : p.tables.exec = Jvm.exec) {k : Fin 4} {v : Int32} {l' : Array Slot} (hd : decode c.code pc = .ok (.istore_n k, 1)) (hp : pc + 1 = q) (hl : storeLocals ls k.val (.int v) = some l') (K : Go p e below s Q ce sl T (mkF m q l' st)) : Go p e below s Q ce sl T (mkF m pc ls (.int v :: st)) := by
  subst hp
  exact K.to fun _ r => XS.istoreN X.here hx rfl hd rfl hl r
theorem go_lload (X : Stand p l e R s m args below meth c T locs cells slots) (hx : p.tables.exec = Jvm.exec) {k : Nat} {v : Int64} (hd : decode c.code pc = .ok (.lload k, 2)) (hp : pc + 2 = q) (hl : ls[k]? = some (.val (.long v))) (K : Go p e below s Q ce sl T (mkF m q ls (.long v :: st))) : Go p e below s Q ce sl T (mkF m pc ls st) := by
  subst hp
  exact K.to fun _ r => XS.lload X.here hx rfl hd hl r
theorem go_lloadN (X : Stand p l e R s m args below meth c T locs cells slots) (hx : p.tables.exec = Jvm.exec) {k : Fin 4} {v : Int64} (hd : decode c.code pc = .ok (.lload_n k, 1)) (hp : pc + 1 = q) (hl : ls[k.val]? = some (.val (.long v))) (K : Go p e below s Q ce sl T (mkF m q ls (.long v :: st))) : Go p e below s Q ce sl T (mkF m pc ls st) := by
  subst hp
  exact K.to fun _ r => XS.lloadN X.here hx rfl hd hl r
theorem go_lstore (X : Stand p l e R s m args below meth c T locs cells slots) (hx : p.tables.exec = Jvm.exec) {k : Nat} {v : Int64} {l' : Array Slot} (hd : decode c.code pc = .ok (.lstore k, 2)) (hp : pc + 2 = q) (hl : storeLocals ls k (.long v) = some l') (K : Go p e below s Q ce sl T (mkF m q l' st)) : Go p e below s Q ce sl T (mkF m pc ls (.long v :: st)) := by
  subst hp
  exact K.to fun _ r => XS.lstore X.here hx rfl hd rfl hl r
theorem go_lstoreN (X : Stand p l e R s m args below meth c T locs cells slots) (hx : p.tables.exec = Jvm.exec) {k : Fin 4} {v : Int64} {l' : Array Slot} (hd : decode c.code pc = .ok (.lstore_n k, 1)) (hp : pc + 1 = q) (hl : storeLocals ls k.val (.long v) = some l') (K : Go p e below s Q ce sl T (mkF m q l' st)) : Go p e below s Q ce sl T (mkF m pc ls (.long v :: st)) := by
  subst hp
  exact K.to fun _ r => XS.lstoreN X.here hx rfl hd rfl hl r
theorem go_dload (X : Stand p l e R s m args below meth c T locs cells slots) (hx : p.tables.exec = Jvm.exec) {k : Nat} {v : UInt64} (hd : decode c.code pc = .ok (.dload k, 2)) (hp : pc + 2 = q) (hl : ls[k]? = some (.val (.double v))) (K : Go p e below s Q ce sl T (mkF m q ls (.double v :: st))) : Go p e below s Q ce sl T (mkF m pc ls st) := by
  subst hp
  exact K.to fun _ r => XS.dload X.here hx rfl hd hl r
theorem go_dloadN (X : Stand p l e R s m args below meth c T locs cells slots) (hx : p.tables.exec = Jvm.exec) {k : Fin 4} {v : UInt64} (hd : decode c.code pc = .ok (.dload_n k, 1)) (hp : pc + 1 = q) (hl : ls[k.val]? = some (.val (.double v))) (K : Go p e below s Q ce sl T (mkF m q ls (.double v :: st))) : Go p e below s Q ce sl T (mkF m pc ls st) := by
  subst hp
  exact K.to fun _ r => XS.dloadN X.here hx rfl hd hl r
theorem go_dstore (X : Stand p l e R s m args below meth c T locs cells slots) (hx : p.tables.exec = Jvm.exec) {k : Nat} {v : UInt64} {l' : Array Slot} (hd : decode c.code pc = .ok (.dstore k, 2)) (hp : pc + 2 = q) (hl : storeLocals ls k (.double v) = some l') (K : Go p e below s Q ce sl T (mkF m q l' st)) : Go p e below s Q ce sl T (mkF m pc ls (.double v :: st)) := by
  subst hp
  exact K.to fun _ r => XS.dstore X.here hx rfl hd rfl hl r
theorem go_dstoreN (X : Stand p l e R s m args below meth c T locs cells slots) (hx : p.tables.exec = Jvm.exec) {k : Fin 4} {v : UInt64} {l' : Array Slot} (hd : decode c.code pc = .ok (.dstore_n k, 1)) (hp : pc + 1 = q) (hl : storeLocals ls k.val (.double v) = some l') (K : Go p e below s Q ce sl T (mkF m q l' st)) : Go p e below s Q ce sl T (mkF m pc ls (.double v :: st)) := by
  subst hp
  exact K.to fun _ r => XS.dstoreN X.here hx rfl hd rfl hl r
theorem go_fload (X : Stand p l e R s m args below meth c T locs cells slots) (hx : p.tables.exec = Jvm.exec) {k : Nat} {v : UInt32} (hd : decode c.code pc = .ok (.fload k, 2)) (hp : pc + 2 = q) (hl : ls[k]? = some (.val (.float v))) (K : Go p e below s Q ce sl T (mkF m q ls (.float v :: st))) : Go p e below s Q ce sl T (mkF m pc ls st) := by
  subst hp
  exact K.to fun _ r => XS.fload X.here hx rfl hd hl r
theorem go_floadN (X : Stand p l e R s m args below meth c T locs cells slots) (hx : p.tables.exec = Jvm.exec) {k : Fin 4} {v : UInt32} (hd : decode c.code pc = .ok (.fload_n k, 1)) (hp : pc + 1 = q) (hl : ls[k.val]? = some (.val (.float v))) (K : Go p e below s Q ce sl T (mkF m q ls (.float v :: st))) : Go p e below s Q ce sl T (mkF m pc ls st) := by
  subst hp
  exact K.to fun _ r => XS.floadN X.here hx rfl hd hl r
theorem go_fstore (X : Stand p l e R s m args below meth c T locs cells slots) (hx : p.tables.exec = Jvm.exec) {k : Nat} {v : UInt32} {l' : Array Slot} (hd : decode c.code pc = .ok (.fstore k, 2)) (hp : pc + 2 = q) (hl : storeLocals ls k (.float v) = some l') (K : Go p e below s Q ce sl T (mkF m q l' st)) : Go p e below s Q ce sl T (mkF m pc ls (.float v :: st)) := by
  subst hp
  exact K.to fun _ r => XS.fstore X.here hx rfl hd rfl hl r
theorem go_fstoreN (X : Stand p l e R s m args below meth c T locs cells slots) (hx : p.tables.exec = Jvm.exec) {k : Fin 4} {v : UInt32} {l' : Array Slot} (hd : decode c.code pc = .ok (.fstore_n k, 1)) (hp : pc + 1 = q) (hl : storeLocals ls k.val (.float v) = some l') (K : Go p e below s Q ce sl T (mkF m q l' st)) : Go p e below s Q ce sl T (mkF m pc ls (.float v :: st)) := by
  subst hp
  exact K.to fun _ r => XS.fstoreN X.here hx rfl hd rfl hl r
theorem go_aload (X : Stand p l e R s m args below meth c T locs cells slots) (hx : p.tables.exec = Jvm.exec) {k : Nat} {v : Value} (hd : decode c.code pc = .ok (.aload k, 2)) (hp : pc + 2 = q) (hl : ls[k]? = some (.val v)) (hv : v.isRef = true) (K : Go p e below s Q ce sl T (mkF m q ls (v :: st))) : Go p e below s Q ce sl T (mkF m pc ls st) := by
  subst hp
  exact K.to fun _ r => XS.aload X.here hx rfl hd hl hv r
theorem go_aloadN (X : Stand p l e R s m args below meth c T locs cells slots) (hx : p.tables.exec = Jvm.exec) {k : Fin 4} {v : Value} (hd : decode c.code pc = .ok (.aload_n k, 1)) (hp : pc + 1 = q) (hl : ls[k.val]? = some (.val v)) (hv : v.isRef = true) (K : Go p e below s Q ce sl T (mkF m q ls (v :: st))) : Go p e below s Q ce sl T (mkF m pc ls st) := by
  subst hp
  exact K.to fun _ r => XS.aloadN X.here hx rfl hd hl hv r
theorem go_astore (X : Stand p l e R s m args below meth c T locs cells slots) (hx : p.tables.exec = Jvm.exec) {k : Nat} {v : Value} {l' : Array Slot} (hd : decode c.code pc = .ok (.astore k, 2)) (hp : pc + 2 = q) (hv : v.isRef = true) (hl : storeLocals ls k v = some l') (K : Go p e below s Q ce sl T (mkF m q l' st)) : Go p e below s Q ce sl T (mkF m pc ls (v :: st)) := by
  subst hp
  exact K.to fun _ r => XS.astore X.here hx rfl hd rfl hv hl r
theorem go_astoreN (X : Stand p l e R s m args below meth c T locs cells slots) (hx : p.tables.exec = Jvm.exec) {k : Fin 4} {v : Value} {l' : Array Slot} (hd : decode c.code pc = .ok (.astore_n k, 1)) (hp : pc + 1 = q) (hv : v.isRef = true) (hl : storeLocals ls k.val v = some l') (K : Go p e below s Q ce sl T (mkF m q l' st)) : Go p e below s Q ce sl T (mkF m pc ls (v :: st)) := by
  subst hp
  exact K.to fun _ r => XS.astoreN X.here hx rfl hd rfl hv hl r
theorem go_iconst (X : Stand p l e R s m args below meth c T locs cells slots) (hx : p.tables.exec = Jvm.exec) {i : Int} {v : Int32} (hd : decode c.code pc = .ok (.iconst i, 1)) (hp : pc + 1 = q) (hv : Int32.ofInt i = v) (K : Go p e below s Q ce sl T (mkF m q ls (.int v :: st))) : Go p e below s Q ce sl T (mkF m pc ls st) := by
  subst hp
  exact K.to fun _ r => XS.iconst X.here hx rfl hd (hv ▸ r)
theorem go_bipush (X : Stand p l e R s m args below meth c T locs cells slots) (hx : p.tables.exec = Jvm.exec) {i : Int} {v : Int32} (hd : decode c.code pc = .ok (.bipush i, 2)) (hp : pc + 2 = q) (hv : (Int8.ofInt i).toInt32 = v) (K : Go p e below s Q ce sl T (mkF m q ls (.int v :: st))) : Go p e below s Q ce sl T (mkF m pc ls st) := by
  subst hp
  exact K.to fun _ r => XS.bipush X.here hx rfl hd (hv ▸ r)
theorem go_sipush (X : Stand p l e R s m args below meth c T locs cells slots) (hx : p.tables.exec = Jvm.exec) {i : Int} {v : Int32} (hd : decode c.code pc = .ok (.sipush i, 3)) (hp : pc + 3 = q) (hv : (Int16.ofInt i).toInt32 = v) (K : Go p e below s Q ce sl T (mkF m q ls (.int v :: st))) : Go p e below s Q ce sl T (mkF m pc ls st) := by
  subst hp
  exact K.to fun _ r => XS.sipush X.here hx rfl hd (hv ▸ r)
theorem go_lconst (X : Stand p l e R s m args below meth c T locs cells slots) (hx : p.tables.exec = Jvm.exec) {k : Fin 2} {v : Int64} (hd : decode c.code pc = .ok (.lconst k, 1)) (hp : pc + 1 = q) (hv : Int64.ofNat k = v) (K : Go p e below s Q ce sl T (mkF m q ls (.long v :: st))) : Go p e below s Q ce sl T (mkF m pc ls st) := by
  subst hp
  exact K.to fun _ r => XS.lconst X.here hx rfl hd (hv ▸ r)
theorem go_aconstNull (X : Stand p l e R s m args below meth c T locs cells slots) (hx : p.tables.exec = Jvm.exec)  (hd : decode c.code pc = .ok (.aconst_null, 1)) (hp : pc + 1 = q)  (K : Go p e below s Q ce sl T (mkF m q ls (.null :: st))) : Go p e below s Q ce sl T (mkF m pc ls st) := by
  subst hp
  exact K.to fun _ r => XS.aconstNull X.here hx rfl hd r
theorem go_dconst0 (X : Stand p l e R s m args below meth c T locs cells slots) (hx : p.tables.exec = Jvm.exec) {v : UInt64} (hd : decode c.code pc = .ok (.dconst 0, 1)) (hp : pc + 1 = q) (hv : FP.dconst0 = v) (K : Go p e below s Q ce sl T (mkF m q ls (.double v :: st))) : Go p e below s Q ce sl T (mkF m pc ls st) := by
  subst hp
  exact K.to fun _ r => XS.dconst0 X.here hx rfl hd hv r
theorem go_dconst1 (X : Stand p l e R s m args below meth c T locs cells slots) (hx : p.tables.exec = Jvm.exec) {v : UInt64} (hd : decode c.code pc = .ok (.dconst 1, 1)) (hp : pc + 1 = q) (hv : FP.dconst1 = v) (K : Go p e below s Q ce sl T (mkF m q ls (.double v :: st))) : Go p e below s Q ce sl T (mkF m pc ls st) := by
  subst hp
  exact K.to fun _ r => XS.dconst1 X.here hx rfl hd hv r
theorem go_iadd (X : Stand p l e R s m args below meth c T locs cells slots) (hx : p.tables.exec = Jvm.exec) {x y v : Int32} (hd : decode c.code pc = .ok (.iadd, 1)) (hp : pc + 1 = q) (hv : x + y = v) (K : Go p e below s Q ce sl T (mkF m q ls (.int v :: st))) : Go p e below s Q ce sl T (mkF m pc ls (.int y :: .int x :: st)) := by
  subst hp
  exact K.to fun _ r => XS.iadd X.here hx rfl hd rfl (hv ▸ r)
theorem go_isub (X : Stand p l e R s m args below meth c T locs cells slots) (hx : p.tables.exec = Jvm.exec) {x y v : Int32} (hd : decode c.code pc = .ok (.isub, 1)) (hp : pc + 1 = q) (hv : x - y = v) (K : Go p e below s Q ce sl T (mkF m q ls (.int v :: st))) : Go p e below s Q ce sl T (mkF m pc ls (.int y :: .int x :: st)) := by
  subst hp
  exact K.to fun _ r => XS.isub X.here hx rfl hd rfl (hv ▸ r)
theorem go_imul (X : Stand p l e R s m args below meth c T locs cells slots) (hx : p.tables.exec = Jvm.exec) {x y v : Int32} (hd : decode c.code pc = .ok (.imul, 1)) (hp : pc + 1 = q) (hv : x * y = v) (K : Go p e below s Q ce sl T (mkF m q ls (.int v :: st))) : Go p e below s Q ce sl T (mkF m pc ls (.int y :: .int x :: st)) := by
  subst hp
  exact K.to fun _ r => XS.imul X.here hx rfl hd rfl (hv ▸ r)
theorem go_iand (X : Stand p l e R s m args below meth c T locs cells slots) (hx : p.tables.exec = Jvm.exec) {x y v : Int32} (hd : decode c.code pc = .ok (.iand, 1)) (hp : pc + 1 = q) (hv : x &&& y = v) (K : Go p e below s Q ce sl T (mkF m q ls (.int v :: st))) : Go p e below s Q ce sl T (mkF m pc ls (.int y :: .int x :: st)) := by
  subst hp
  exact K.to fun _ r => XS.iand X.here hx rfl hd rfl (hv ▸ r)
theorem go_ior (X : Stand p l e R s m args below meth c T locs cells slots) (hx : p.tables.exec = Jvm.exec) {x y v : Int32} (hd : decode c.code pc = .ok (.ior, 1)) (hp : pc + 1 = q) (hv : x ||| y = v) (K : Go p e below s Q ce sl T (mkF m q ls (.int v :: st))) : Go p e below s Q ce sl T (mkF m pc ls (.int y :: .int x :: st)) := by
  subst hp
  exact K.to fun _ r => XS.ior X.here hx rfl hd rfl (hv ▸ r)
theorem go_ixor (X : Stand p l e R s m args below meth c T locs cells slots) (hx : p.tables.exec = Jvm.exec) {x y v : Int32} (hd : decode c.code pc = .ok (.ixor, 1)) (hp : pc + 1 = q) (hv : x ^^^ y = v) (K : Go p e below s Q ce sl T (mkF m q ls (.int v :: st))) : Go p e below s Q ce sl T (mkF m pc ls (.int y :: .int x :: st)) := by
  subst hp
  exact K.to fun _ r => XS.ixor X.here hx rfl hd rfl (hv ▸ r)
theorem go_ineg (X : Stand p l e R s m args below meth c T locs cells slots) (hx : p.tables.exec = Jvm.exec) {x v : Int32} (hd : decode c.code pc = .ok (.ineg, 1)) (hp : pc + 1 = q) (hv : -x = v) (K : Go p e below s Q ce sl T (mkF m q ls (.int v :: st))) : Go p e below s Q ce sl T (mkF m pc ls (.int x :: st)) := by
  subst hp
  exact K.to fun _ r => XS.ineg X.here hx rfl hd rfl (hv ▸ r)
theorem go_idiv (X : Stand p l e R s m args below meth c T locs cells slots) (hx : p.tables.exec = Jvm.exec) {x y v : Int32} (hd : decode c.code pc = .ok (.idiv, 1)) (hp : pc + 1 = q) (hy : y ≠ 0) (hv : x / y = v) (K : Go p e below s Q ce sl T (mkF m q ls (.int v :: st))) : Go p e below s Q ce sl T (mkF m pc ls (.int y :: .int x :: st)) := by
  subst hp
  exact K.to fun _ r => XS.idiv X.here hx rfl hd rfl hy (hv ▸ r)
theorem go_ladd (X : Stand p l e R s m args below meth c T locs cells slots) (hx : p.tables.exec = Jvm.exec) {x y v : Int64} (hd : decode c.code pc = .ok (.ladd, 1)) (hp : pc + 1 = q) (hv : x + y = v) (K : Go p e below s Q ce sl T (mkF m q ls (.long v :: st))) : Go p e below s Q ce sl T (mkF m pc ls (.long y :: .long x :: st)) := by
  subst hp
  exact K.to fun _ r => XS.ladd X.here hx rfl hd rfl (hv ▸ r)
theorem go_lsub (X : Stand p l e R s m args below meth c T locs cells slots) (hx : p.tables.exec = Jvm.exec) {x y v : Int64} (hd : decode c.code pc = .ok (.lsub, 1)) (hp : pc + 1 = q) (hv : x - y = v) (K : Go p e below s Q ce sl T (mkF m q ls (.long v :: st))) : Go p e below s Q ce sl T (mkF m pc ls (.long y :: .long x :: st)) := by
  subst hp
  exact K.to fun _ r => XS.lsub X.here hx rfl hd rfl (hv ▸ r)
theorem go_lmul (X : Stand p l e R s m args below meth c T locs cells slots) (hx : p.tables.exec = Jvm.exec) {x y v : Int64} (hd : decode c.code pc = .ok (.lmul, 1)) (hp : pc + 1 = q) (hv : x * y = v) (K : Go p e below s Q ce sl T (mkF m q ls (.long v :: st))) : Go p e below s Q ce sl T (mkF m pc ls (.long y :: .long x :: st)) := by
  subst hp
  exact K.to fun _ r => XS.lmul X.here hx rfl hd rfl (hv ▸ r)
theorem go_land (X : Stand p l e R s m args below meth c T locs cells slots) (hx : p.tables.exec = Jvm.exec) {x y v : Int64} (hd : decode c.code pc = .ok (.land, 1)) (hp : pc + 1 = q) (hv : x &&& y = v) (K : Go p e below s Q ce sl T (mkF m q ls (.long v :: st))) : Go p e below s Q ce sl T (mkF m pc ls (.long y :: .long x :: st)) := by
  subst hp
  exact K.to fun _ r => XS.land X.here hx rfl hd rfl (hv ▸ r)
theorem go_lor (X : Stand p l e R s m args below meth c T locs cells slots) (hx : p.tables.exec = Jvm.exec) {x y v : Int64} (hd : decode c.code pc = .ok (.lor, 1)) (hp : pc + 1 = q) (hv : x ||| y = v) (K : Go p e below s Q ce sl T (mkF m q ls (.long v :: st))) : Go p e below s Q ce sl T (mkF m pc ls (.long y :: .long x :: st)) := by
  subst hp
  exact K.to fun _ r => XS.lor X.here hx rfl hd rfl (hv ▸ r)
theorem go_lxor (X : Stand p l e R s m args below meth c T locs cells slots) (hx : p.tables.exec = Jvm.exec) {x y v : Int64} (hd : decode c.code pc = .ok (.lxor, 1)) (hp : pc + 1 = q) (hv : x ^^^ y = v) (K : Go p e below s Q ce sl T (mkF m q ls (.long v :: st))) : Go p e below s Q ce sl T (mkF m pc ls (.long y :: .long x :: st)) := by
  subst hp
  exact K.to fun _ r => XS.lxor X.here hx rfl hd rfl (hv ▸ r)
theorem go_lneg (X : Stand p l e R s m args below meth c T locs cells slots) (hx : p.tables.exec = Jvm.exec) {x v : Int64} (hd : decode c.code pc = .ok (.lneg, 1)) (hp : pc + 1 = q) (hv : -x = v) (K : Go p e below s Q ce sl T (mkF m q ls (.long v :: st))) : Go p e below s Q ce sl T (mkF m pc ls (.long x :: st)) := by
  subst hp
  exact K.to fun _ r => XS.lneg X.here hx rfl hd rfl (hv ▸ r)
theorem go_ldiv (X : Stand p l e R s m args below meth c T locs cells slots) (hx : p.tables.exec = Jvm.exec) {x y v : Int64} (hd : decode c.code pc = .ok (.ldiv, 1)) (hp : pc + 1 = q) (hy : y ≠ 0) (hv : x / y = v) (K : Go p e below s Q ce sl T (mkF m q ls (.long v :: st))) : Go p e below s Q ce sl T (mkF m pc ls (.long y :: .long x :: st)) := by
  subst hp
  exact K.to fun _ r => XS.ldiv X.here hx rfl hd rfl hy (hv ▸ r)
theorem go_irem (X : Stand p l e R s m args below meth c T locs cells slots) (hx : p.tables.exec = Jvm.exec) {x y v : Int32} (hd : decode c.code pc = .ok (.irem, 1)) (hp : pc + 1 = q) (hy : y ≠ 0) (hv : x % y = v) (K : Go p e below s Q ce sl T (mkF m q ls (.int v :: st))) : Go p e below s Q ce sl T (mkF m pc ls (.int y :: .int x :: st)) := by
  subst hp
  exact K.to fun _ r => iremM X hx rfl hd rfl hy (hv ▸ r)
theorem go_lrem (X : Stand p l e R s m args below meth c T locs cells slots) (hx : p.tables.exec = Jvm.exec) {x y v : Int64} (hd : decode c.code pc = .ok (.lrem, 1)) (hp : pc + 1 = q) (hy : y ≠ 0) (hv : x % y = v) (K : Go p e below s Q ce sl T (mkF m q ls (.long v :: st))) : Go p e below s Q ce sl T (mkF m pc ls (.long y :: .long x :: st)) := by
  subst hp
  exact K.to fun _ r => XS.lrem X.here hx rfl hd rfl hy ((lrem_mod x y).symm ▸ hv ▸ r)
theorem go_ishl (X : Stand p l e R s m args below meth c T locs cells slots) (hx : p.tables.exec = Jvm.exec) {x v : Int32} {y : Int32} (hd : decode c.code pc = .ok (.ishl, 1)) (hp : pc + 1 = q) (hv : (x <<< (y &&& 31)) = v) (K : Go p e below s Q ce sl T (mkF m q ls (.int v :: st))) : Go p e below s Q ce sl T (mkF m pc ls (.int y :: .int x :: st)) := by
  subst hp
  exact K.to fun _ r => XS.ishl X.here hx rfl hd rfl (hv ▸ r)
theorem go_ishr (X : Stand p l e R s m args below meth c T locs cells slots) (hx : p.tables.exec = Jvm.exec) {x v : Int32} {y : Int32} (hd : decode c.code pc = .ok (.ishr, 1)) (hp : pc + 1 = q) (hv : (x >>> (y &&& 31)) = v) (K : Go p e below s Q ce sl T (mkF m q ls (.int v :: st))) : Go p e below s Q ce sl T (mkF m pc ls (.int y :: .int x :: st)) := by
  subst hp
  exact K.to fun _ r => XS.ishr X.here hx rfl hd rfl (hv ▸ r)
theorem go_iushr (X : Stand p l e R s m args below meth c T locs cells slots) (hx : p.tables.exec = Jvm.exec) {x v : Int32} {y : Int32} (hd : decode c.code pc = .ok (.iushr, 1)) (hp : pc + 1 = q) (hv : ((x.toUInt32 >>> (y &&& 31).toUInt32).toInt32) = v) (K : Go p e below s Q ce sl T (mkF m q ls (.int v :: st))) : Go p e below s Q ce sl T (mkF m pc ls (.int y :: .int x :: st)) := by
  subst hp
  exact K.to fun _ r => XS.iushr X.here hx rfl hd rfl (hv ▸ r)
theorem go_lshl (X : Stand p l e R s m args below meth c T locs cells slots) (hx : p.tables.exec = Jvm.exec) {x v : Int64} {y : Int32} (hd : decode c.code pc = .ok (.lshl, 1)) (hp : pc + 1 = q) (hv : (x <<< (y &&& 0x3f).toInt64) = v) (K : Go p e below s Q ce sl T (mkF m q ls (.long v :: st))) : Go p e below s Q ce sl T (mkF m pc ls (.int y :: .long x :: st)) := by
  subst hp
  exact K.to fun _ r => XS.lshl X.here hx rfl hd rfl (hv ▸ r)
theorem go_lshr (X : Stand p l e R s m args below meth c T locs cells slots) (hx : p.tables.exec = Jvm.exec) {x v : Int64} {y : Int32} (hd : decode c.code pc = .ok (.lshr, 1)) (hp : pc + 1 = q) (hv : (x >>> (y &&& 0x3f).toInt64) = v) (K : Go p e below s Q ce sl T (mkF m q ls (.long v :: st))) : Go p e below s Q ce sl T (mkF m pc ls (.int y :: .long x :: st)) := by
  subst hp
  exact K.to fun _ r => XS.lshr X.here hx rfl hd rfl (hv ▸ r)
theorem go_lushr (X : Stand p l e R s m args below meth c T locs cells slots) (hx : p.tables.exec = Jvm.exec) {x v : Int64} {y : Int32} (hd : decode c.code pc = .ok (.lushr, 1)) (hp : pc + 1 = q) (hv : ((x.toUInt64 >>> (y &&& 0x3f).toInt64.toUInt64).toInt64) = v) (K : Go p e below s Q ce sl T (mkF m q ls (.long v :: st))) : Go p e below s Q ce sl T (mkF m pc ls (.int y :: .long x :: st)) := by
  subst hp
  exact K.to fun _ r => XS.lushr X.here hx rfl hd rfl (hv ▸ r)
theorem go_i2l (X : Stand p l e R s m args below meth c T locs cells slots) (hx : p.tables.exec = Jvm.exec) {x : Int32} {v : Int64} (hd : decode c.code pc = .ok (.i2l, 1)) (hp : pc + 1 = q) (hv : x.toInt64 = v) (K : Go p e below s Q ce sl T (mkF m q ls (.long v :: st))) : Go p e below s Q ce sl T (mkF m pc ls (.int x :: st)) := by
  subst hp
  exact K.to fun _ r => XS.i2l X.here hx rfl hd rfl (hv ▸ r)
theorem go_l2i (X : Stand p l e R s m args below meth c T locs cells slots) (hx : p.tables.exec = Jvm.exec) {x : Int64} {v : Int32} (hd : decode c.code pc = .ok (.l2i, 1)) (hp : pc + 1 = q) (hv : x.toInt32 = v) (K : Go p e below s Q ce sl T (mkF m q ls (.int v :: st))) : Go p e below s Q ce sl T (mkF m pc ls (.long x :: st)) := by
  subst hp
  exact K.to fun _ r => XS.l2i X.here hx rfl hd rfl (hv ▸ r)
theorem go_i2b (X : Stand p l e R s m args below meth c T locs cells slots) (hx : p.tables.exec = Jvm.exec) {x : Int32} {v : Int32} (hd : decode c.code pc = .ok (.i2b, 1)) (hp : pc + 1 = q) (hv : x.toInt8.toInt32 = v) (K : Go p e below s Q ce sl T (mkF m q ls (.int v :: st))) : Go p e below s Q ce sl T (mkF m pc ls (.int x :: st)) := by
  subst hp
  exact K.to fun _ r => XS.i2b X.here hx rfl hd rfl (hv ▸ r)
theorem go_i2s (X : Stand p l e R s m args below meth c T locs cells slots) (hx : p.tables.exec = Jvm.exec) {x : Int32} {v : Int32} (hd : decode c.code pc = .ok (.i2s, 1)) (hp : pc + 1 = q) (hv : x.toInt16.toInt32 = v) (K : Go p e below s Q ce sl T (mkF m q ls (.int v :: st))) : Go p e below s Q ce sl T (mkF m pc ls (.int x :: st)) := by
  subst hp
  exact K.to fun _ r => XS.i2s X.here hx rfl hd rfl (hv ▸ r)
theorem go_i2c (X : Stand p l e R s m args below meth c T locs cells slots) (hx : p.tables.exec = Jvm.exec) {x : Int32} {v : Int32} (hd : decode c.code pc = .ok (.i2c, 1)) (hp : pc + 1 = q) (hv : x.toUInt32.toUInt16.toUInt32.toInt32 = v) (K : Go p e below s Q ce sl T (mkF m q ls (.int v :: st))) : Go p e below s Q ce sl T (mkF m pc ls (.int x :: st)) := by
  subst hp
  exact K.to fun _ r => XS.i2c X.here hx rfl hd rfl (hv ▸ r)
theorem go_lcmp (X : Stand p l e R s m args below meth c T locs cells slots) (hx : p.tables.exec = Jvm.exec) {x y : Int64} (hd : decode c.code pc = .ok (.lcmp, 1)) (hp : pc + 1 = q)  (K : Go p e below s Q ce sl T (mkF m q ls (.int (lcmpW x y) :: st))) : Go p e below s Q ce sl T (mkF m pc ls (.long y :: .long x :: st)) := by
  subst hp
  exact K.to fun _ r => XS.lcmp X.here hx rfl hd rfl r
theorem go_i2d (X : Stand p l e R s m args below meth c T locs cells slots) (hx : p.tables.exec = Jvm.exec) {x : Int32} {v : UInt64} (hd : decode c.code pc = .ok (.i2d, 1)) (hp : pc + 1 = q) (hv : FP.i2d x = v) (K : Go p e below s Q ce sl T (mkF m q ls (.double v :: st))) : Go p e below s Q ce sl T (mkF m pc ls (.int x :: st)) := by
  subst hp
  exact K.to fun _ r => XS.i2dS X.here hx rfl hd rfl hv r
theorem go_l2d (X : Stand p l e R s m args below meth c T locs cells slots) (hx : p.tables.exec = Jvm.exec) {x : Int64} {v : UInt64} (hd : decode c.code pc = .ok (.l2d, 1)) (hp : pc + 1 = q) (hv : FP.l2d x = v) (K : Go p e below s Q ce sl T (mkF m q ls (.double v :: st))) : Go p e below s Q ce sl T (mkF m pc ls (.long x :: st)) := by
  subst hp
  exact K.to fun _ r => XS.l2dS X.here hx rfl hd rfl hv r
theorem go_d2l (X : Stand p l e R s m args below meth c T locs cells slots) (hx : p.tables.exec = Jvm.exec) {x : UInt64} {v : Int64} (hd : decode c.code pc = .ok (.d2l, 1)) (hp : pc + 1 = q) (hv : FP.d2l x = v) (K : Go p e below s Q ce sl T (mkF m q ls (.long v :: st))) : Go p e below s Q ce sl T (mkF m pc ls (.double x :: st)) := by
  subst hp
  exact K.to fun _ r => XS.d2lS X.here hx rfl hd rfl hv r
theorem go_i2f (X : Stand p l e R s m args below meth c T locs cells slots) (hx : p.tables.exec = Jvm.exec) {x : Int32} {v : UInt32} (hd : decode c.code pc = .ok (.i2f, 1)) (hp : pc + 1 = q) (hv : FP.i2f x = v) (K : Go p e below s Q ce sl T (mkF m q ls (.float v :: st))) : Go p e below s Q ce sl T (mkF m pc ls (.int x :: st)) := by
  subst hp
  exact K.to fun _ r => XS.i2fS X.here hx rfl hd rfl hv r
theorem go_f2d (X : Stand p l e R s m args below meth c T locs cells slots) (hx : p.tables.exec = Jvm.exec) {x : UInt32} {v : UInt64} (hd : decode c.code pc = .ok (.f2d, 1)) (hp : pc + 1 = q) (hn : Jvm.Free.Fl.NoNaN64 (FP.f2d x)) (hv : FP.f2d x = v) (K : Go p e below s Q ce sl T (mkF m q ls (.double v :: st))) : Go p e below s Q ce sl T (mkF m pc ls (.float x :: st)) := by
  subst hp
  exact K.to fun _ r => XS.f2dS X.here hx rfl hd rfl hn hv r
theorem go_dcmp (X : Stand p l e R s m args below meth c T locs cells slots) (hx : p.tables.exec = Jvm.exec) {o : CmpOp} {x y : UInt64} {v : Int32} (hd : decode c.code pc = .ok (.dcmp o, 1)) (hp : pc + 1 = q) (hv : cmpValue (FP.dcmp x y) o = v) (K : Go p e below s Q ce sl T (mkF m q ls (.int v :: st))) : Go p e below s Q ce sl T (mkF m pc ls (.double y :: .double x :: st)) := by
  subst hp
  exact K.to fun _ r => XS.dcmpS X.here hx rfl hd rfl hv r
theorem go_dadd (X : Stand p l e R s m args below meth c T locs cells slots) (hx : p.tables.exec = Jvm.exec) {x y v : UInt64} (hd : decode c.code pc = .ok (.dadd, 1)) (hp : pc + 1 = q) (hn : Jvm.Free.Fl.NoNaN64 (FP.dadd x y)) (hv : FP.dadd x y = v) (K : Go p e below s Q ce sl T (mkF m q ls (.double v :: st))) : Go p e below s Q ce sl T (mkF m pc ls (.double y :: .double x :: st)) := by
  subst hp
  exact K.to fun _ r => XS.daddS X.here hx rfl hd rfl hn hv r
theorem go_dsub (X : Stand p l e R s m args below meth c T locs cells slots) (hx : p.tables.exec = Jvm.exec) {x y v : UInt64} (hd : decode c.code pc = .ok (.dsub, 1)) (hp : pc + 1 = q) (hn : Jvm.Free.Fl.NoNaN64 (FP.dsub x y)) (hv : FP.dsub x y = v) (K : Go p e below s Q ce sl T (mkF m q ls (.double v :: st))) : Go p e below s Q ce sl T (mkF m pc ls (.double y :: .double x :: st)) := by
  subst hp
  exact K.to fun _ r => XS.dsubS X.here hx rfl hd rfl hn hv r
theorem go_dmul (X : Stand p l e R s m args below meth c T locs cells slots) (hx : p.tables.exec = Jvm.exec) {x y v : UInt64} (hd : decode c.code pc = .ok (.dmul, 1)) (hp : pc + 1 = q) (hn : Jvm.Free.Fl.NoNaN64 (FP.dmul x y)) (hv : FP.dmul x y = v) (K : Go p e below s Q ce sl T (mkF m q ls (.double v :: st))) : Go p e below s Q ce sl T (mkF m pc ls (.double y :: .double x :: st)) := by
  subst hp
  exact K.to fun _ r => XS.dmulS X.here hx rfl hd rfl hn hv r
theorem go_ddiv (X : Stand p l e R s m args below meth c T locs cells slots) (hx : p.tables.exec = Jvm.exec) {x y v : UInt64} (hd : decode c.code pc = .ok (.ddiv, 1)) (hp : pc + 1 = q) (hn : Jvm.Free.Fl.NoNaN64 (FP.ddiv x y)) (hv : FP.ddiv x y = v) (K : Go p e below s Q ce sl T (mkF m q ls (.double v :: st))) : Go p e below s Q ce sl T (mkF m pc ls (.double y :: .double x :: st)) := by
  subst hp
  exact K.to fun _ r => XS.ddivS X.here hx rfl hd rfl hn hv r
theorem go_dup (X : Stand p l e R s m args below meth c T locs cells slots) (hx : p.tables.exec = Jvm.exec) {v : Value} (hd : decode c.code pc = .ok (.dup, 1)) (hp : pc + 1 = q) (hv : v.category = 1) (K : Go p e below s Q ce sl T (mkF m q ls (v :: v :: st))) : Go p e below s Q ce sl T (mkF m pc ls (v :: st)) := by
  subst hp
  exact K.to fun _ r => XS.dup X.here hx rfl hd rfl hv r
theorem go_pop (X : Stand p l e R s m args below meth c T locs cells slots) (hx : p.tables.exec = Jvm.exec) {v : Value} (hd : decode c.code pc = .ok (.pop, 1)) (hp : pc + 1 = q) (hv : v.category = 1) (K : Go p e below s Q ce sl T (mkF m q ls st)) : Go p e below s Q ce sl T (mkF m pc ls (v :: st)) := by
  subst hp
  exact K.to fun _ r => XS.pop X.here hx rfl hd rfl hv r
theorem go_iinc (X : Stand p l e R s m args below meth c T locs cells slots) (hx : p.tables.exec = Jvm.exec) {k : Nat} {i : Int} {v : Int32} {l' : Array Slot} (hd : decode c.code pc = .ok (.iinc k i, 3)) (hp : pc + 3 = q) (hl : ls[k]? = some (.val (.int v))) (hs : storeLocals ls k (.int (v + Int32.ofInt i)) = some l') (K : Go p e below s Q ce sl T (mkF m q l' st)) : Go p e below s Q ce sl T (mkF m pc ls st) := by
  subst hp
  exact K.to fun _ r => XS.iinc X.here hx rfl hd hl hs r
theorem go_goto (X : Stand p l e R s m args below meth c T locs cells slots) (hx : p.tables.exec = Jvm.exec) {o : Int} (hd : decode c.code pc = .ok (.goto o, 3)) (ho : 0 ≤ (pc : Int) + o) (hq : ((pc : Int) + o).toNat = q) (K : Go p e below s Q ce sl T (mkF m q ls st)) : Go p e below s Q ce sl T (mkF m pc ls st) :=
  K.to fun _ r => XS.goto X.here hx rfl (pc0 := pc) rfl hd ho hq r
theorem go_icmp_lt (X : Stand p l e R s m args below meth c T locs cells slots) (hx : p.tables.exec = Jvm.exec) {x y : Int32} {o : Int} (hd : decode c.code pc = .ok (.if_icmp .lt o, 3)) (hp : pc + 3 = q) (ho : 0 ≤ (pc : Int) + o) (hq : ((pc : Int) + o).toNat = q') (KY : x < y → Go p e below s Q ce sl T (mkF m q' ls st)) (KN : ¬ x < y → Go p e below s Q ce sl T (mkF m q ls st)) : Go p e below s Q ce sl T (mkF m pc ls (.int y :: .int x :: st)) := by
  subst hp
  by_cases hc : x < y
  · exact (KY hc).to fun _ r => XS.icmpYes X.here hx rfl (pc0 := pc) rfl hd rfl (tlt hc).1 ho hq r
  · exact (KN hc).to fun _ r => XS.icmpNo X.here hx rfl hd rfl (flt hc).1 r
theorem go_if_lt (X : Stand p l e R s m args below meth c T locs cells slots) (hx : p.tables.exec = Jvm.exec) {x : Int32} {o : Int} (hd : decode c.code pc = .ok (.ifCond .lt o, 3)) (hp : pc + 3 = q) (ho : 0 ≤ (pc : Int) + o) (hq : ((pc : Int) + o).toNat = q') (KY : x < (0 : Int32) → Go p e below s Q ce sl T (mkF m q' ls st)) (KN : ¬ x < (0 : Int32) → Go p e below s Q ce sl T (mkF m q ls st)) : Go p e below s Q ce sl T (mkF m pc ls (.int x :: st)) := by
  subst hp
  by_cases hc : x < (0 : Int32)
  · exact (KY hc).to fun _ r => XS.ifYes X.here hx rfl (pc0 := pc) rfl hd rfl ((if0 _ _).trans (tlt hc).1) ho hq r
  · exact (KN hc).to fun _ r => XS.ifNo X.here hx rfl hd rfl ((if0 _ _).trans (flt hc).1) r
theorem go_lif_lt (X : Stand p l e R s m args below meth c T locs cells slots) (hx : p.tables.exec = Jvm.exec) {a b : Int64} {o : Int} (hd : decode c.code pc = .ok (.ifCond .lt o, 3)) (hp : pc + 3 = q) (ho : 0 ≤ (pc : Int) + o) (hq : ((pc : Int) + o).toNat = q') (KY : a < b → Go p e below s Q ce sl T (mkF m q' ls st)) (KN : ¬ a < b → Go p e below s Q ce sl T (mkF m q ls st)) : Go p e below s Q ce sl T (mkF m pc ls (.int (lcmpW a b) :: st)) :=
  go_if_lt X hx hd hp ho hq (fun w => KY ((lw_lt _ _).mp w)) (fun w => KN (fun z => w ((lw_lt _ _).mpr z)))
theorem go_icmp_ge (X : Stand p l e R s m args below meth c T locs cells slots) (hx : p.tables.exec = Jvm.exec) {x y : Int32} {o : Int} (hd : decode c.code pc = .ok (.if_icmp .ge o, 3)) (hp : pc + 3 = q) (ho : 0 ≤ (pc : Int) + o) (hq : ((pc : Int) + o).toNat = q') (KY : ¬ x < y → Go p e below s Q ce sl T (mkF m q' ls st)) (KN : x < y → Go p e below s Q ce sl T (mkF m q ls st)) : Go p e below s Q ce sl T (mkF m pc ls (.int y :: .int x :: st)) := by
  subst hp
  by_cases hc : x < y
  · exact (KN hc).to fun _ r => XS.icmpNo X.here hx rfl hd rfl (tlt hc).2.1 r
  · exact (KY hc).to fun _ r => XS.icmpYes X.here hx rfl (pc0 := pc) rfl hd rfl (flt hc).2.1 ho hq r
theorem go_if_ge (X : Stand p l e R s m args below meth c T locs cells slots) (hx : p.tables.exec = Jvm.exec) {x : Int32} {o : Int} (hd : decode c.code pc = .ok (.ifCond .ge o, 3)) (hp : pc + 3 = q) (ho : 0 ≤ (pc : Int) + o) (hq : ((pc : Int) + o).toNat = q') (KY : ¬ x < (0 : Int32) → Go p e below s Q ce sl T (mkF m q' ls st)) (KN : x < (0 : Int32) → Go p e below s Q ce sl T (mkF m q ls st)) : Go p e below s Q ce sl T (mkF m pc ls (.int x :: st)) := by
  subst hp
  by_cases hc : x < (0 : Int32)
  · exact (KN hc).to fun _ r => XS.ifNo X.here hx rfl hd rfl ((if0 _ _).trans (tlt hc).2.1) r
  · exact (KY hc).to fun _ r => XS.ifYes X.here hx rfl (pc0 := pc) rfl hd rfl ((if0 _ _).trans (flt hc).2.1) ho hq r
theorem go_lif_ge (X : Stand p l e R s m args below meth c T locs cells slots) (hx : p.tables.exec = Jvm.exec) {a b : Int64} {o : Int} (hd : decode c.code pc = .ok (.ifCond .ge o, 3)) (hp : pc + 3 = q) (ho : 0 ≤ (pc : Int) + o) (hq : ((pc : Int) + o).toNat = q') (KY : ¬ a < b → Go p e below s Q ce sl T (mkF m q' ls st)) (KN : a < b → Go p e below s Q ce sl T (mkF m q ls st)) : Go p e below s Q ce sl T (mkF m pc ls (.int (lcmpW a b) :: st)) :=
  go_if_ge X hx hd hp ho hq (fun w => KY (fun z => w ((lw_lt _ _).mpr z))) (fun w => KN ((lw_lt _ _).mp w))
theorem go_icmp_gt (X : Stand p l e R s m args below meth c T locs cells slots) (hx : p.tables.exec = Jvm.exec) {x y : Int32} {o : Int} (hd : decode c.code pc = .ok (.if_icmp .gt o, 3)) (hp : pc + 3 = q) (ho : 0 ≤ (pc : Int) + o) (hq : ((pc : Int) + o).toNat = q') (KY : y < x → Go p e below s Q ce sl T (mkF m q' ls st)) (KN : ¬ y < x → Go p e below s Q ce sl T (mkF m q ls st)) : Go p e below s Q ce sl T (mkF m pc ls (.int y :: .int x :: st)) := by
  subst hp
  by_cases hc : y < x
  · exact (KY hc).to fun _ r => XS.icmpYes X.here hx rfl (pc0 := pc) rfl hd rfl (tlt hc).2.2.1 ho hq r
  · exact (KN hc).to fun _ r => XS.icmpNo X.here hx rfl hd rfl (flt hc).2.2.1 r
theorem go_if_gt (X : Stand p l e R s m args below meth c T locs cells slots) (hx : p.tables.exec = Jvm.exec) {x : Int32} {o : Int} (hd : decode c.code pc = .ok (.ifCond .gt o, 3)) (hp : pc + 3 = q) (ho : 0 ≤ (pc : Int) + o) (hq : ((pc : Int) + o).toNat = q') (KY : (0 : Int32) < x → Go p e below s Q ce sl T (mkF m q' ls st)) (KN : ¬ (0 : Int32) < x → Go p e below s Q ce sl T (mkF m q ls st)) : Go p e below s Q ce sl T (mkF m pc ls (.int x :: st)) := by
  subst hp
  by_cases hc : (0 : Int32) < x
  · exact (KY hc).to fun _ r => XS.ifYes X.here hx rfl (pc0 := pc) rfl hd rfl ((if0 _ _).trans (tlt hc).2.2.1) ho hq r
  · exact (KN hc).to fun _ r => XS.ifNo X.here hx rfl hd rfl ((if0 _ _).trans (flt hc).2.2.1) r
theorem go_lif_gt (X : Stand p l e R s m args below meth c T locs cells slots) (hx : p.tables.exec = Jvm.exec) {a b : Int64} {o : Int} (hd : decode c.code pc = .ok (.ifCond .gt o, 3)) (hp : pc + 3 = q) (ho : 0 ≤ (pc : Int) + o) (hq : ((pc : Int) + o).toNat = q') (KY : b < a → Go p e below s Q ce sl T (mkF m q' ls st)) (KN : ¬ b < a → Go p e below s Q ce sl T (mkF m q ls st)) : Go p e below s Q ce sl T (mkF m pc ls (.int (lcmpW a b) :: st)) :=
  go_if_gt X hx hd hp ho hq (fun w => KY ((lw_gt _ _).mp w)) (fun w => KN (fun z => w ((lw_gt _ _).mpr z)))
theorem go_icmp_le (X : Stand p l e R s m args below meth c T locs cells slots) (hx : p.tables.exec = Jvm.exec) {x y : Int32} {o : Int} (hd : decode c.code pc = .ok (.if_icmp .le o, 3)) (hp : pc + 3 = q) (ho : 0 ≤ (pc : Int) + o) (hq : ((pc : Int) + o).toNat = q') (KY : ¬ y < x → Go p e below s Q ce sl T (mkF m q' ls st)) (KN : y < x → Go p e below s Q ce sl T (mkF m q ls st)) : Go p e below s Q ce sl T (mkF m pc ls (.int y :: .int x :: st)) := by
  subst hp
  by_cases hc : y < x
  · exact (KN hc).to fun _ r => XS.icmpNo X.here hx rfl hd rfl (tlt hc).2.2.2 r
  · exact (KY hc).to fun _ r => XS.icmpYes X.here hx rfl (pc0 := pc) rfl hd rfl (flt hc).2.2.2 ho hq r
theorem go_if_le (X : Stand p l e R s m args below meth c T locs cells slots) (hx : p.tables.exec = Jvm.exec) {x : Int32} {o : Int} (hd : decode c.code pc = .ok (.ifCond .le o, 3)) (hp : pc + 3 = q) (ho : 0 ≤ (pc : Int) + o) (hq : ((pc : Int) + o).toNat = q') (KY : ¬ (0 : Int32) < x → Go p e below s Q ce sl T (mkF m q' ls st)) (KN : (0 : Int32) < x → Go p e below s Q ce sl T (mkF m q ls st)) : Go p e below s Q ce sl T (mkF m pc ls (.int x :: st)) := by
  subst hp
  by_cases hc : (0 : Int32) < x
  · exact (KN hc).to fun _ r => XS.ifNo X.here hx rfl hd rfl ((if0 _ _).trans (tlt hc).2.2.2) r
  · exact (KY hc).to fun _ r => XS.ifYes X.here hx rfl (pc0 := pc) rfl hd rfl ((if0 _ _).trans (flt hc).2.2.2) ho hq r
theorem go_lif_le (X : Stand p l e R s m args below meth c T locs cells slots) (hx : p.tables.exec = Jvm.exec) {a b : Int64} {o : Int} (hd : decode c.code pc = .ok (.ifCond .le o, 3)) (hp : pc + 3 = q) (ho : 0 ≤ (pc : Int) + o) (hq : ((pc : Int) + o).toNat = q') (KY : ¬ b < a → Go p e below s Q ce sl T (mkF m q' ls st)) (KN : b < a → Go p e below s Q ce sl T (mkF m q ls st)) : Go p e below s Q ce sl T (mkF m pc ls (.int (lcmpW a b) :: st)) :=
  go_if_le X hx hd hp ho hq (fun w => KY (fun z => w ((lw_gt _ _).mpr z))) (fun w => KN ((lw_gt _ _).mp w))
theorem go_icmp_eq (X : Stand p l e R s m args below meth c T locs cells slots) (hx : p.tables.exec = Jvm.exec) {x y : Int32} {o : Int} (hd : decode c.code pc = .ok (.if_icmp .eq o, 3)) (hp : pc + 3 = q) (ho : 0 ≤ (pc : Int) + o) (hq : ((pc : Int) + o).toNat = q') (KY : x = y → Go p e below s Q ce sl T (mkF m q' ls st)) (KN : ¬ x = y → Go p e below s Q ce sl T (mkF m q ls st)) : Go p e below s Q ce sl T (mkF m pc ls (.int y :: .int x :: st)) := by
  subst hp
  by_cases hc : x = y
  · exact (KY hc).to fun _ r => XS.icmpYes X.here hx rfl (pc0 := pc) rfl hd rfl (teq hc).1 ho hq r
  · exact (KN hc).to fun _ r => XS.icmpNo X.here hx rfl hd rfl (feq hc).1 r
theorem go_if_eq (X : Stand p l e R s m args below meth c T locs cells slots) (hx : p.tables.exec = Jvm.exec) {x : Int32} {o : Int} (hd : decode c.code pc = .ok (.ifCond .eq o, 3)) (hp : pc + 3 = q) (ho : 0 ≤ (pc : Int) + o) (hq : ((pc : Int) + o).toNat = q') (KY : x = (0 : Int32) → Go p e below s Q ce sl T (mkF m q' ls st)) (KN : ¬ x = (0 : Int32) → Go p e below s Q ce sl T (mkF m q ls st)) : Go p e below s Q ce sl T (mkF m pc ls (.int x :: st)) := by
  subst hp
  by_cases hc : x = (0 : Int32)
  · exact (KY hc).to fun _ r => XS.ifYes X.here hx rfl (pc0 := pc) rfl hd rfl ((if0 _ _).trans (teq hc).1) ho hq r
  · exact (KN hc).to fun _ r => XS.ifNo X.here hx rfl hd rfl ((if0 _ _).trans (feq hc).1) r
theorem go_lif_eq (X : Stand p l e R s m args below meth c T locs cells slots) (hx : p.tables.exec = Jvm.exec) {a b : Int64} {o : Int} (hd : decode c.code pc = .ok (.ifCond .eq o, 3)) (hp : pc + 3 = q) (ho : 0 ≤ (pc : Int) + o) (hq : ((pc : Int) + o).toNat = q') (KY : a = b → Go p e below s Q ce sl T (mkF m q' ls st)) (KN : ¬ a = b → Go p e below s Q ce sl T (mkF m q ls st)) : Go p e below s Q ce sl T (mkF m pc ls (.int (lcmpW a b) :: st)) :=
  go_if_eq X hx hd hp ho hq (fun w => KY ((lw_eq _ _).mp w)) (fun w => KN (fun z => w ((lw_eq _ _).mpr z)))
theorem go_icmp_ne (X : Stand p l e R s m args below meth c T locs cells slots) (hx : p.tables.exec = Jvm.exec) {x y : Int32} {o : Int} (hd : decode c.code pc = .ok (.if_icmp .ne o, 3)) (hp : pc + 3 = q) (ho : 0 ≤ (pc : Int) + o) (hq : ((pc : Int) + o).toNat = q') (KY : ¬ x = y → Go p e below s Q ce sl T (mkF m q' ls st)) (KN : x = y → Go p e below s Q ce sl T (mkF m q ls st)) : Go p e below s Q ce sl T (mkF m pc ls (.int y :: .int x :: st)) := by
  subst hp
  by_cases hc : x = y
  · exact (KN hc).to fun _ r => XS.icmpNo X.here hx rfl hd rfl (teq hc).2 r
  · exact (KY hc).to fun _ r => XS.icmpYes X.here hx rfl (pc0 := pc) rfl hd rfl (feq hc).2 ho hq r
theorem go_if_ne (X : Stand p l e R s m args below meth c T locs cells slots) (hx : p.tables.exec = Jvm.exec) {x : Int32} {o : Int} (hd : decode c.code pc = .ok (.ifCond .ne o, 3)) (hp : pc + 3 = q) (ho : 0 ≤ (pc : Int) + o) (hq : ((pc : Int) + o).toNat = q') (KY : ¬ x = (0 : Int32) → Go p e below s Q ce sl T (mkF m q' ls st)) (KN : x = (0 : Int32) → Go p e below s Q ce sl T (mkF m q ls st)) : Go p e below s Q ce sl T (mkF m pc ls (.int x :: st)) := by
  subst hp
  by_cases hc : x = (0 : Int32)
  · exact (KN hc).to fun _ r => XS.ifNo X.here hx rfl hd rfl ((if0 _ _).trans (teq hc).2) r
  · exact (KY hc).to fun _ r => XS.ifYes X.here hx rfl (pc0 := pc) rfl hd rfl ((if0 _ _).trans (feq hc).2) ho hq r
theorem go_lif_ne (X : Stand p l e R s m args below meth c T locs cells slots) (hx : p.tables.exec = Jvm.exec) {a b : Int64} {o : Int} (hd : decode c.code pc = .ok (.ifCond .ne o, 3)) (hp : pc + 3 = q) (ho : 0 ≤ (pc : Int) + o) (hq : ((pc : Int) + o).toNat = q') (KY : ¬ a = b → Go p e below s Q ce sl T (mkF m q' ls st)) (KN : a = b → Go p e below s Q ce sl T (mkF m q ls st)) : Go p e below s Q ce sl T (mkF m pc ls (.int (lcmpW a b) :: st)) :=
  go_if_ne X hx hd hp ho hq (fun w => KY (fun z => w ((lw_eq _ _).mpr z))) (fun w => KN ((lw_eq _ _).mp w))
theorem go_ret (X : Stand p l e R s m args below meth c T locs cells slots) (hx : p.tables.exec = Jvm.exec) {w : Value} {t : FieldType} {i : Instr} (hret : meth.sig.returnType = some t) (hlk : meth.locks = false) (hn : narrow t w = w)
    (hi : (i = .ireturn ∧ (t = .int ∨ t = .boolean ∨ t = .byte ∨ t = .char ∨ t = .short) ∧ ∃ z, w = .int z) ∨ (i = .lreturn ∧ t = .long ∧ ∃ z, w = .long z) ∨ (i = .dreturn ∧ t = .double ∧ ∃ z, w = .double z) ∨ (i = .freturn ∧ t = .float ∧ ∃ z, w = .float z) ∨ (i = .areturn ∧ t.isReference = true ∧ w.isRef = true))
    (hd : decode c.code pc = .ok (i, 1)) (hc : cells ≤ ce) (hs : slots ≤ sl) (hQ : Q (some w) T.heap locs) : Go p e below s Q ce sl T (mkF m pc ls (w :: st)) := by
  obtain ⟨fs, hr, hrun, hended, hW, hsame⟩ := X.leave (v := some w) (fun h => by rw [hret] at h; cases h) hlk
  exact ⟨_, _, retOut X hx hret hn hi hd hr, hrun, hended, _, _, rfl, hQ, ⟨_, rfl⟩, hW, hsame.mono hc hs⟩
theorem go_retD (X : Stand p l e R s m args below meth c T locs cells slots) (hx : p.tables.exec = Jvm.exec) {v : UInt64} (hret : meth.sig.returnType = some .double) (hlk : meth.locks = false) (hd : decode c.code pc = .ok (.dreturn, 1)) (hc : cells ≤ ce) (hs : slots ≤ sl) (hQ : Q (some (.double v)) T.heap locs) : Go p e below s Q ce sl T (mkF m pc ls (.double v :: st)) :=
  go_ret X hx hret hlk rfl (Or.inr (Or.inr (Or.inl ⟨rfl, rfl, v, rfl⟩))) hd hc hs hQ
theorem go_retJ (X : Stand p l e R s m args below meth c T locs cells slots) (hx : p.tables.exec = Jvm.exec) {v : Int64} (hret : meth.sig.returnType = some .long) (hlk : meth.locks = false) (hd : decode c.code pc = .ok (.lreturn, 1)) (hc : cells ≤ ce) (hs : slots ≤ sl) (hQ : Q (some (.long v)) T.heap locs) : Go p e below s Q ce sl T (mkF m pc ls (.long v :: st)) :=
  go_ret X hx hret hlk rfl (Or.inr (Or.inl ⟨rfl, rfl, v, rfl⟩)) hd hc hs hQ
theorem go_retI (X : Stand p l e R s m args below meth c T locs cells slots) (hx : p.tables.exec = Jvm.exec) {v : Int32} (hret : meth.sig.returnType = some .int) (hlk : meth.locks = false) (hd : decode c.code pc = .ok (.ireturn, 1)) (hc : cells ≤ ce) (hs : slots ≤ sl) (hQ : Q (some (.int v)) T.heap locs) : Go p e below s Q ce sl T (mkF m pc ls (.int v :: st)) :=
  go_ret X hx hret hlk rfl (Or.inl ⟨rfl, Or.inl rfl, v, rfl⟩) hd hc hs hQ
theorem go_retA (X : Stand p l e R s m args below meth c T locs cells slots) (hx : p.tables.exec = Jvm.exec) {v : Value} {t : FieldType} (hret : meth.sig.returnType = some t) (hlk : meth.locks = false) (ht : t.isReference = true) (hv : v.isRef = true) (hn : narrow t v = v) (hd : decode c.code pc = .ok (.areturn, 1)) (hc : cells ≤ ce) (hs : slots ≤ sl) (hQ : Q (some v) T.heap locs) : Go p e below s Q ce sl T (mkF m pc ls (v :: st)) :=
  go_ret X hx hret hlk hn (Or.inr (Or.inr (Or.inr (Or.inr ⟨rfl, ht, hv⟩)))) hd hc hs hQ
theorem go_retN (X : Stand p l e R s m args below meth c T locs cells slots) (hx : p.tables.exec = Jvm.exec) {z : Int32} {t : FieldType} (ht : t = .boolean ∨ t = .byte ∨ t = .char ∨ t = .short) (hret : meth.sig.returnType = some t) (hlk : meth.locks = false) (hd : decode c.code pc = .ok (.ireturn, 1)) (hc : cells ≤ ce) (hs : slots ≤ sl) (hQ : Q (some (.int (nar t z))) T.heap locs) : Go p e below s Q ce sl T (mkF m pc ls (.int z :: st)) := by
  obtain ⟨fs, hr, hrun, hended, hW, hsame⟩ := X.leave (v := some (.int (nar t z))) (fun h => by rw [hret] at h; cases h) hlk
  exact ⟨_, _, retN X hx hret ht hd hr, hrun, hended, _, _, rfl, hQ, ⟨_, rfl⟩, hW, hsame.mono hc hs⟩
theorem go_retV (X : Stand p l e R s m args below meth c T locs cells slots) (hx : p.tables.exec = Jvm.exec) (hret : meth.sig.returnType = none) (hlk : meth.locks = false) (hd : decode c.code pc = .ok (.return_, 1)) (hc : cells ≤ ce) (hs : slots ≤ sl) (hQ : Q none T.heap locs) : Go p e below s Q ce sl T (mkF m pc ls []) := by
  obtain ⟨fs, hr, hrun, hended, hW, hsame⟩ := X.leave (v := none) (fun _ => rfl) hlk
  exact ⟨_, _, X.returnOut hx hret hd hr, hrun, hended, _, _, rfl, hQ, ⟨_, rfl⟩, hW, hsame.mono hc hs⟩
theorem go_ldcI (X : Stand p l e R s m args below meth c T locs cells slots) (hx : p.tables.exec = Jvm.exec) (hZ : Z.Warmed39 s.vm) {own : String} {index : Nat} {v : Int32} (hown : s.vm.findClass own = some m.cls) (w : (Jvm.Cond.constant own index v).before a0 Z = true) (hd : decode c.code pc = .ok (.ldc index, 2)) (hp : pc + 2 = q) (K : Go p e below s Q ce sl T (mkF m q ls (.int v :: st))) : Go p e below s Q ce sl T (mkF m pc ls st) := by
  subst hp
  exact K.to fun t r => X.ldcInt hx hown (mvT hZ w) (g := mkF m pc ls st) rfl hd t r
theorem go_ldc2J (X : Stand p l e R s m args below meth c T locs cells slots) (hx : p.tables.exec = Jvm.exec) (hZ : Z.Warmed39 s.vm) {own : String} {index : Nat} {v : Int64} (hown : s.vm.findClass own = some m.cls) (w : (Jvm.Cond.constantLong own index v).before a0 Z = true) (hd : decode c.code pc = .ok (.ldc2_w index, 3)) (hp : pc + 3 = q) (K : Go p e below s Q ce sl T (mkF m q ls (.long v :: st))) : Go p e below s Q ce sl T (mkF m pc ls st) := by
  subst hp
  exact K.to fun t r => X.ldc2Long hx hown (mvT hZ w) (g := mkF m pc ls st) rfl hd t r
theorem go_ldc2D (X : Stand p l e R s m args below meth c T locs cells slots) (hx : p.tables.exec = Jvm.exec) (hZ : Z.Warmed39 s.vm) {own : String} {index : Nat} {v : UInt64} (hown : s.vm.findClass own = some m.cls) (w : (Jvm.Cond.constantDouble own index v).before a0 Z = true) (hd : decode c.code pc = .ok (.ldc2_w index, 3)) (hp : pc + 3 = q) (K : Go p e below s Q ce sl T (mkF m q ls (.double v :: st))) : Go p e below s Q ce sl T (mkF m pc ls st) := by
  subst hp
  exact K.to fun t r => X.ldc2DoubleC hx hown (mvT hZ w) (g := mkF m pc ls st) rfl hd t r
theorem go_callS (X : Stand p l e R s m args below meth c T locs cells slots) (hx : p.tables.exec = Jvm.exec) (hZ : Z.Warmed39 s.vm) {own : String} {index : Nat} {y : MethodName} {bytes : ByteArray} {maxL : Nat} {ret : Option FieldType} {rm : Room} {W : Nat} {Qc : Option Value → Heap → List Loc → Prop} (hown : s.vm.findClass own = some m.cls) (eT : T.heap = h)
    (w1 : (Jvm.Cond.methodLink own index y).before a0 Z = true) (w2 : (Jvm.Cond.static y).before a0 Z = true) (w3 : (Jvm.Cond.initialized y.cls).before a0 Z = true) (w4 : (Jvm.Cond.code y bytes maxL ret).before a0 Z = true) (hy : y.cls ≠ "java/lang/invoke/MethodHandle" ∧ y.cls ≠ "java/lang/invoke/VarHandle")
    (argsL rest : List Value) (hM : Con l y bytes maxL ret [] rm Z argsL.toArray h Qc) (hsz : ls.size = c.maxLocals) (hst : st = argsL.reverse ++ rest) (hlen : ∀ sig, parseMethodDescriptor y.desc = some sig → argsL.length = sig.parameters.length) (hW : (rest.map fun v => v.category).sum ≤ W)
    (hf : rm.frames + 1 ≤ R.frames) (hl : W + (maxL + 11) + rm.locals ≤ R.locals) (hd : decode c.code pc = .ok (.invokestatic index, 3)) (hp : pc + 3 = q) (hc : cells + rm.cells ≤ R.cells) (hs : slots + rm.slots ≤ R.slots)
    (K : ∀ (T' : State) (L : List Loc) (v : Option Value), Stand p l e R s m args below meth c T' (locs ++ L) (cells + rm.cells) (slots + rm.slots) → Qc v T'.heap L → Go p e below s Q ce sl T' (mkF m q ls (v.toList ++ rest))) : Go p e below s Q ce sl T (mkF m pc ls st) := by
  subst hp
  obtain ⟨v, _, ⟨T', L', k', n'⟩, -, X', ⟨Lc, hQ, l1, y1, z1⟩, stp⟩ := Jvm.LawKit.callS X hx (y := y) hown (mvT hZ w1) (mvT hZ w2) (mvT hZ w3) (mvT hZ w4) hy (backOf (W := W) hM hZ w4 w3 hf hl) (g := mkF m pc ls st) rfl hsz (argsL := argsL) (rest := rest) hlen hst (by show 2 * 0 + _ ≤ _; omega) hd (fun _ _ => ⟨rfl, eT, hc, hs⟩)
  dsimp only [Pt.U, Pt.locs, Pt.cells, Pt.slots] at X' l1 y1 z1 stp hQ
  subst l1 y1 z1
  exact (K T' Lc v X' hQ).to fun t r => stp t r
theorem go_callI (X : Stand p l e R s m args below meth c T locs cells slots) (hx : p.tables.exec = Jvm.exec) (hZ : Z.Warmed39 s.vm) {own : String} {index : Nat} {y : MethodName} {bytes : ByteArray} {maxL : Nat} {rm : Room} {W : Nat} {Qc : Option Value → Heap → List Loc → Prop} (hown : s.vm.findClass own = some m.cls) (eT : T.heap = h) (hy1 : y.name = "<init>")
    (w1 : (Jvm.Cond.methodLink own index y).before a0 Z = true) (w2 : (Jvm.Cond.instanceMethod y).before a0 Z = true) (w3 : (Jvm.Cond.initialized y.cls).before a0 Z = true) (w4 : (Jvm.Cond.code y bytes maxL none).before a0 Z = true) (hy : y.cls ≠ "java/lang/invoke/MethodHandle" ∧ y.cls ≠ "java/lang/invoke/VarHandle")
    (a : Addr) (argsL rest : List Value) (hM : Con l y bytes maxL none [] rm Z (.ref a :: argsL).toArray h Qc) (hsz : ls.size = c.maxLocals) (hst : st = argsL.reverse ++ .ref a :: rest) (hlen : ∀ sig, parseMethodDescriptor y.desc = some sig → argsL.length = sig.parameters.length) (hW : (rest.map fun v => v.category).sum ≤ W)
    (hf : rm.frames + 1 ≤ R.frames) (hl : W + (maxL + 11) + rm.locals ≤ R.locals) (hd : decode c.code pc = .ok (.invokespecial index, 3)) (hp : pc + 3 = q) (hc : cells + rm.cells ≤ R.cells) (hs : slots + rm.slots ≤ R.slots)
    (K : ∀ (T' : State) (L : List Loc) (v : Option Value), Stand p l e R s m args below meth c T' (locs ++ L) (cells + rm.cells) (slots + rm.slots) → Qc v T'.heap L → Go p e below s Q ce sl T' (mkF m q ls (v.toList ++ rest))) : Go p e below s Q ce sl T (mkF m pc ls st) := by
  subst hp
  obtain ⟨v, _, ⟨T', L', k', n'⟩, -, X', ⟨Lc, hQ, l1, y1, z1⟩, stp⟩ := X.specialBack hx (y := y) hy1 hown (mvT hZ w1) (mvT hZ w2) (mvT hZ w4) hy (backOf (W := W) hM hZ w4 w3 hf hl) (g := mkF m pc ls st) rfl hsz (Steps.refl _) (a := a) (argsL := argsL) (rest := rest) hlen hst (by show 2 * 0 + _ ≤ _; omega) hd (fun _ _ => ⟨rfl, eT, hc, hs⟩)
  dsimp only [Pt.U, Pt.locs, Pt.cells, Pt.slots] at X' l1 y1 z1 stp hQ
  subst l1 y1 z1
  exact (K T' Lc v X' hQ).to fun t r => stp.trans r
theorem go_callV (X : Stand p l e R s m args below meth c T locs cells slots) (hx : p.tables.exec = Jvm.exec) (hZ : Z.Warmed39 s.vm) {own C : String} {index : Nat} {y : MethodName} {bytes : ByteArray} {maxL : Nat} {ret : Option FieldType} {rm : Room} {W : Nat} {Qc : Option Value → Heap → List Loc → Prop} {z : MethodName} (hown : s.vm.findClass own = some m.cls) (eT : T.heap = h)
    (w1 : (Jvm.Cond.methodLink own index y).before a0 Z = true) (w2 : (Jvm.Cond.declares y).before a0 Z = true) (hnf : NotFace s y) (w3 : (Jvm.Cond.selects C y z).before a0 Z = true) (w5 : (Jvm.Cond.instanceMethod z).before a0 Z = true) (w6 : (Jvm.Cond.initialized z.cls).before a0 Z = true) (w4 : (Jvm.Cond.code z bytes maxL ret).before a0 Z = true) (hy : y.cls ≠ "java/lang/invoke/MethodHandle" ∧ y.cls ≠ "java/lang/invoke/VarHandle")
    (a : Addr) (argsL rest : List Value) (E : Exa Z h a C) (hM : Con l z bytes maxL ret [] rm Z (.ref a :: argsL).toArray h Qc) (hsz : ls.size = c.maxLocals) (hst : st = argsL.reverse ++ .ref a :: rest) (hlen : ∀ sig, parseMethodDescriptor y.desc = some sig → argsL.length = sig.parameters.length) (hW : (rest.map fun v => v.category).sum ≤ W)
    (hf : rm.frames + 1 ≤ R.frames) (hl : W + (maxL + 11) + rm.locals ≤ R.locals) (hd : decode c.code pc = .ok (.invokevirtual index, 3)) (hp : pc + 3 = q) (hc : cells + rm.cells ≤ R.cells) (hs : slots + rm.slots ≤ R.slots)
    (K : ∀ (T' : State) (L : List Loc) (v : Option Value), Stand p l e R s m args below meth c T' (locs ++ L) (cells + rm.cells) (slots + rm.slots) → Qc v T'.heap L → Go p e below s Q ce sl T' (mkF m q ls (v.toList ++ rest))) : Go p e below s Q ce sl T (mkF m pc ls st) := by
  subst hp
  obtain ⟨cq, kq, qa, qb, qc⟩ := isOf hZ eT E
  obtain ⟨v, _, ⟨T', L', k', n'⟩, -, X', ⟨Lc, hQ, l1, y1, z1⟩, stp⟩ := X.virtualBack hx (y := y) (z := z) hown (mvT hZ w1) (mvT hZ w2) hnf (mvT hZ w3) (mvT hZ w5) hy (backOf (W := W) hM hZ w4 w6 hf hl) qa qc (g := mkF m pc ls st) rfl hsz (Steps.refl _) (argsL := argsL) (rest := rest) hlen hst (by show 2 * 0 + _ ≤ _; omega) hd (fun _ _ => ⟨rfl, eT, hc, hs⟩)
  dsimp only [Pt.U, Pt.locs, Pt.cells, Pt.slots] at X' l1 y1 z1 stp hQ
  subst l1 y1 z1
  exact (K T' Lc v X' hQ).to fun t r => stp.trans r
end OwnWalk

section OwnHeap
variable {p : Program} {l : Launch} {e : Env} {R : Room} {s : State} {m : MethodId} {args : Array Value} {below : List Frame} {meth : Method} {c : Code} {T : State} {locs : List Loc} {cells slots : Nat} {Z : State} {h : Heap} {Q : Option Value → Heap → List Loc → Prop} {ce sl : Nat} {pc q q' : Nat} {ls : Array Slot} {st : List Value} {a0 : Array Value} {n0 : Nat} {a : Addr}
theorem go_getS (X : Stand p l e R s m args below meth c T locs cells slots) (hx : p.tables.exec = Jvm.exec) (hZ : Z.Warmed39 s.vm) {own R0 O n d host : String} {index : Nat} (hown : s.vm.findClass own = some m.cls) (w : (Jvm.Cond.fieldLink own index R0 n d).before a0 Z = true ∨ (Jvm.Cond.fieldLinkNest own index R0 n d host).before a0 Z = true) (via : Via Z R0 O n d) (eT : T.heap = h) {v : Value} (F : Sta Z h O n d v) (hd : decode c.code pc = .ok (.getstatic index, 3)) (hp : pc + 3 = q) (K : ∀ T', Stand p l e R s m args below meth c T' locs cells slots → T'.heap = h → Go p e below s Q ce sl T' (mkF m q ls (v :: st))) : Go p e below s Q ce sl T (mkF m pc ls st) := by
  subst hp
  obtain ⟨T', X', e', st'⟩ := getS2 X hx hZ hown w via eT F (g := mkF m pc ls st) rfl hd
  exact (K T' X' e').to fun t r => st' t r
theorem go_getF (X : Stand p l e R s m args below meth c T locs cells slots) (hx : p.tables.exec = Jvm.exec) (hZ : Z.Warmed39 s.vm) {own R0 O n d host : String} {index : Nat} (hown : s.vm.findClass own = some m.cls) (w : (Jvm.Cond.fieldLink own index R0 n d).before a0 Z = true ∨ (Jvm.Cond.fieldLinkNest own index R0 n d host).before a0 Z = true) (via : Via Z R0 O n d) (eT : T.heap = h) {v : Value} (F : Fld Z h a O n d v) (hd : decode c.code pc = .ok (.getfield index, 3)) (hp : pc + 3 = q) (K : ∀ T', Stand p l e R s m args below meth c T' locs cells slots → T'.heap = h → Go p e below s Q ce sl T' (mkF m q ls (v :: st))) : Go p e below s Q ce sl T (mkF m pc ls (.ref a :: st)) := by
  subst hp
  obtain ⟨T', X', e', st'⟩ := getF X hx hZ hown w via eT F (g := mkF m pc ls (.ref a :: st)) rfl rfl hd
  exact (K T' X' e').to fun t r => st' t r
theorem go_putF (X : Stand p l e R s m args below meth c T locs cells slots) (hx : p.tables.exec = Jvm.exec) (hZ : Z.Warmed39 s.vm) {own R0 O n d host : String} {index : Nat} (hown : s.vm.findClass own = some m.cls) (w : (Jvm.Cond.fieldLink own index R0 n d).before a0 Z = true ∨ (Jvm.Cond.fieldLinkNest own index R0 n d host).before a0 Z = true) (via : Via Z R0 O n d) (eT : T.heap = h) {C : String} {kk : Nat} {ty : FieldType} {v old : Value} (F : Fld Z h a O n d old) (E : Exa Z h a C) (L : (Jvm.Cond.lays C O n d).before a0 Z = true ∨ ((Jvm.Cond.laysFinal C O n d).before a0 Z = true ∧ own = O ∧ meth.name = "<init>")) (wi : (Jvm.Cond.instantiable C kk).before a0 Z = true) (hty : parseFieldDescriptor d = some ty) (hn : narrow ty v = v) (hf : fits ty v = true) (N : Fr n0 locs) (ha : n0 ≤ a) (hd : decode c.code pc = .ok (.putfield index, 3)) (hp : pc + 3 = q)
    (K : ∀ T' h' locs', Stand p l e R s m args below meth c T' locs' cells slots → Fr n0 locs' → T'.heap = h' → Wr h h' a (Jvm.RoadKit.slotOf Z O n d) v → Go p e below s Q ce sl T' (mkF m q ls st)) : Go p e below s Q ce sl T (mkF m pc ls (v :: .ref a :: st)) := by
  subst hp
  obtain ⟨T', h', X', e', W', st'⟩ := putF X hx hZ hown w via eT F E L wi hty hn hf (g := mkF m pc ls (v :: .ref a :: st)) rfl rfl hd
  exact (K T' h' _ X' (Fr.snoc X' N ha) e' W').to fun t r => st' t r
theorem go_newO (X : Stand p l e R s m args below meth c T locs cells slots) (hx : p.tables.exec = Jvm.exec) (hZ : Z.Warmed39 s.vm) {own C : String} {index n : Nat} (hown : s.vm.findClass own = some m.cls) (w : (Jvm.Cond.classLink own index C).before a0 Z = true) (wi : (Jvm.Cond.instantiable C n).before a0 Z = true) (wz : (Jvm.Cond.initialized C).before a0 Z = true) (eT : T.heap = h) (hd : decode c.code pc = .ok (.new index, 3)) (hp : pc + 3 = q) (hc : cells + 1 ≤ R.cells) (hl : slots + n ≤ R.slots)
    (K : ∀ T' h' b, b = h.size → Stand p l e R s m args below meth c T' locs (cells + 1) (slots + n) → T'.heap = h' → Ext h h' → Exa Z h' b C → (∀ {O nm d : String} {ty : FieldType}, Laid Z a0 C O nm d → parseFieldDescriptor d = some ty → Fld Z h' b O nm d (defaultValue ty)) → Go p e below s Q ce sl T' (mkF m q ls (.ref b :: st))) : Go p e below s Q ce sl T (mkF m pc ls st) := by
  subst hp
  obtain ⟨T', h', X', e', E', A', D', -, st'⟩ := newO X hx hZ hown w wi wz eT (g := mkF m pc ls st) rfl hd hc hl
  exact (K T' h' _ rfl X' e' E' A' D').to fun t r => st' t r
theorem go_newP (X : Stand p l e R s m args below meth c T locs cells slots) (hx : p.tables.exec = Jvm.exec) (hZ : Z.Warmed39 s.vm) {aty : ArrayType} (w : (Jvm.Cond.arrayClass (newarray.typeOf aty)).before a0 Z = true) (eT : T.heap = h) (hd : decode c.code pc = .ok (.newarray aty, 2)) (hp : pc + 2 = q) {n : Int32} (hn : ¬ n < 0) (cap : Nat) (hcap : n.toNatClampNeg ≤ cap) (hb : cap * 8 ≤ 536870912) (hc : cells + 1 ≤ R.cells) (hl : slots + cap ≤ R.slots)
    (K : ∀ T' h' kc b, b = h.size → Stand p l e R s m args below meth c T' locs (cells + 1) (slots + cap) → T'.heap = h' → Ext h h' → Arv Z h' b kc (newarray.typeOf aty) n [] (defaultValue (newarray.typeOf aty)) → Go p e below s Q ce sl T' (mkF m q ls (.ref b :: st))) : Go p e below s Q ce sl T (mkF m pc ls (.int n :: st)) := by
  subst hp
  obtain ⟨T', h', kc, X', e', E', A', st'⟩ := newP X hx hZ w eT (g := mkF m pc ls (.int n :: st)) rfl hd rfl hn (cap := cap) hcap hb hc hl
  exact (K T' h' kc _ rfl X' e' E' (Arv.new A' hn)).to fun t r => st' t r
theorem go_initO (X : Stand p l e R s m args below meth c T locs cells slots) (hx : p.tables.exec = Jvm.exec) (hZ : Z.Warmed39 s.vm) {own : String} {index W : Nat} (hown : s.vm.findClass own = some m.cls) (w1 : (Jvm.Cond.methodLink own index Lib.objectInit).before a0 Z = true) (w2 : (Jvm.Cond.instanceMethod Lib.objectInit).before a0 Z = true) (w3 : (Jvm.Cond.code Lib.objectInit ⟨#[0xb1]⟩ 1 none).before a0 Z = true) (eT : T.heap = h) (hsz : ls.size = c.maxLocals) (hd : decode c.code pc = .ok (.invokespecial index, 3)) (hp : pc + 3 = q) (hf : 1 ≤ R.frames) (hW : (st.map fun v => v.category).sum ≤ W) (hl : W + 12 ≤ R.locals) (K : ∀ T', Stand p l e R s m args below meth c T' locs cells slots → T'.heap = h → Go p e below s Q ce sl T' (mkF m q ls st)) : Go p e below s Q ce sl T (mkF m pc ls (.ref a :: st)) := by
  subst hp
  obtain ⟨T', X', e', st'⟩ := initO X hx hZ hown w1 w2 w3 eT (g := mkF m pc ls (.ref a :: st)) rfl hsz rfl hd hf (W := W) (by show 2 * 0 + _ ≤ _; omega) hl
  exact (K T' X' e').to fun t r => st' t r
theorem go_iaload (X : Stand p l e R s m args below meth c T locs cells slots) (hx : p.tables.exec = Jvm.exec) (hZ : Z.Warmed39 s.vm) (eT : T.heap = h) {k : ClassId} {z j : Int32} {vs : List Value} {dv : Value} {v : Value} (F : Arv Z h a k .int z vs dv) (hj : ¬ j < 0 ∧ j < z) (hv : vs.getD j.toNatClampNeg dv = v) (hd : decode c.code pc = .ok (.iaload, 1)) (hp : pc + 1 = q) (K : Go p e below s Q ce sl T (mkF m q ls (v :: st))) : Go p e below s Q ce sl T (mkF m pc ls (.int j :: .ref a :: st)) := by
  subst hp
  obtain ⟨cl, A, -, S, -, H, -⟩ := F
  exact K.to fun t r => X.iaload hx (by rw [eT]; exact A.1) (State.isArrayOf_alike hZ.alike A.2.1) A.2.2 (inb_of S hj) (H.at (inb_of S hj) hv) (g := mkF m pc ls (.int j :: .ref a :: st)) rfl rfl hd t r
theorem go_daload (X : Stand p l e R s m args below meth c T locs cells slots) (hx : p.tables.exec = Jvm.exec) (hZ : Z.Warmed39 s.vm) (eT : T.heap = h) {k : ClassId} {z j : Int32} {vs : List Value} {dv : Value} {v : Value} (F : Arv Z h a k .double z vs dv) (hj : ¬ j < 0 ∧ j < z) (hv : vs.getD j.toNatClampNeg dv = v) (hd : decode c.code pc = .ok (.daload, 1)) (hp : pc + 1 = q) (K : Go p e below s Q ce sl T (mkF m q ls (v :: st))) : Go p e below s Q ce sl T (mkF m pc ls (.int j :: .ref a :: st)) := by
  subst hp
  obtain ⟨cl, A, -, S, -, H, -⟩ := F
  exact K.to fun t r => X.daload hx (by rw [eT]; exact A.1) (State.isArrayOf_alike hZ.alike A.2.1) A.2.2 (inb_of S hj) (H.at (inb_of S hj) hv) (g := mkF m pc ls (.int j :: .ref a :: st)) rfl rfl hd t r
theorem go_faload (X : Stand p l e R s m args below meth c T locs cells slots) (hx : p.tables.exec = Jvm.exec) (hZ : Z.Warmed39 s.vm) (eT : T.heap = h) {k : ClassId} {z j : Int32} {vs : List Value} {dv : Value} {v : Value} (F : Arv Z h a k .float z vs dv) (hj : ¬ j < 0 ∧ j < z) (hv : vs.getD j.toNatClampNeg dv = v) (hd : decode c.code pc = .ok (.faload, 1)) (hp : pc + 1 = q) (K : Go p e below s Q ce sl T (mkF m q ls (v :: st))) : Go p e below s Q ce sl T (mkF m pc ls (.int j :: .ref a :: st)) := by
  subst hp
  obtain ⟨cl, A, -, S, -, H, -⟩ := F
  exact K.to fun t r => X.faload hx (by rw [eT]; exact A.1) (State.isArrayOf_alike hZ.alike A.2.1) A.2.2 (inb_of S hj) (H.at (inb_of S hj) hv) (g := mkF m pc ls (.int j :: .ref a :: st)) rfl rfl hd t r
theorem go_baload (X : Stand p l e R s m args below meth c T locs cells slots) (hx : p.tables.exec = Jvm.exec) (hZ : Z.Warmed39 s.vm) (eT : T.heap = h) {k : ClassId} {z j : Int32} {vs : List Value} {dv : Value} {v : Value} (F : Arv Z h a k .boolean z vs dv) (hj : ¬ j < 0 ∧ j < z) (hv : vs.getD j.toNatClampNeg dv = v) (hd : decode c.code pc = .ok (.baload, 1)) (hp : pc + 1 = q) (K : Go p e below s Q ce sl T (mkF m q ls (v :: st))) : Go p e below s Q ce sl T (mkF m pc ls (.int j :: .ref a :: st)) := by
  subst hp
  obtain ⟨cl, A, -, S, -, H, -⟩ := F
  exact K.to fun t r => X.baloadBooleans hx (by rw [eT]; exact A.1) (State.isArrayOf_alike hZ.alike A.2.1) A.2.2 (inb_of S hj) (H.at (inb_of S hj) hv) (g := mkF m pc ls (.int j :: .ref a :: st)) rfl rfl hd t r
theorem go_baloadB (X : Stand p l e R s m args below meth c T locs cells slots) (hx : p.tables.exec = Jvm.exec) (hZ : Z.Warmed39 s.vm) (eT : T.heap = h) {k : ClassId} {z j : Int32} {vs : List Value} {dv : Value} {v : Value} (F : Arv Z h a k .byte z vs dv) (hj : ¬ j < 0 ∧ j < z) (hv : vs.getD j.toNatClampNeg dv = v) (hd : decode c.code pc = .ok (.baload, 1)) (hp : pc + 1 = q) (K : Go p e below s Q ce sl T (mkF m q ls (v :: st))) : Go p e below s Q ce sl T (mkF m pc ls (.int j :: .ref a :: st)) := by
  subst hp
  obtain ⟨cl, A, -, S, -, H, -⟩ := F
  exact K.to fun t r => X.baloadBytes hx (by rw [eT]; exact A.1) (State.isArrayOf_alike hZ.alike A.2.1) A.2.2 (inb_of S hj) (H.at (inb_of S hj) hv) (g := mkF m pc ls (.int j :: .ref a :: st)) rfl rfl hd t r
theorem go_caload (X : Stand p l e R s m args below meth c T locs cells slots) (hx : p.tables.exec = Jvm.exec) (hZ : Z.Warmed39 s.vm) (eT : T.heap = h) {k : ClassId} {z j : Int32} {vs : List Value} {dv : Value} {v : Value} (F : Arv Z h a k .char z vs dv) (hj : ¬ j < 0 ∧ j < z) (hv : vs.getD j.toNatClampNeg dv = v) (hd : decode c.code pc = .ok (.caload, 1)) (hp : pc + 1 = q) (K : Go p e below s Q ce sl T (mkF m q ls (v :: st))) : Go p e below s Q ce sl T (mkF m pc ls (.int j :: .ref a :: st)) := by
  subst hp
  obtain ⟨cl, A, -, S, -, H, -⟩ := F
  exact K.to fun t r => X.caload hx (by rw [eT]; exact A.1) (State.isArrayOf_alike hZ.alike A.2.1) A.2.2 (inb_of S hj) (H.at (inb_of S hj) hv) (g := mkF m pc ls (.int j :: .ref a :: st)) rfl rfl hd t r
theorem go_alen (X : Stand p l e R s m args below meth c T locs cells slots) (hx : p.tables.exec = Jvm.exec) (hZ : Z.Warmed39 s.vm) (eT : T.heap = h) {k : ClassId} {z : Int32} {vs : List Value} {dv : Value} {ty : FieldType} (F : Arv Z h a k ty z vs dv) (hd : decode c.code pc = .ok (.arraylength, 1)) (hp : pc + 1 = q) (K : Go p e below s Q ce sl T (mkF m q ls (.int z :: st))) : Go p e below s Q ce sl T (mkF m pc ls (.ref a :: st)) := by
  subst hp
  obtain ⟨cl, A, -, S, N, -, -⟩ := F
  exact K.to fun t r => X.arraylength hx (by rw [eT]; exact A.1) (State.isArrayOf_alike hZ.alike A.2.1) (g := mkF m pc ls (.ref a :: st)) rfl rfl hd t (by rw [len_of S N]; exact r)
theorem go_iastore (X : Stand p l e R s m args below meth c T locs cells slots) (hx : p.tables.exec = Jvm.exec) (hZ : Z.Warmed39 s.vm) (eT : T.heap = h) {k : ClassId} {z j : Int32} {vs : List Value} {dv : Value} {x : Int32} (F : Arv Z h a k .int z vs dv) (hj : ¬ j < 0 ∧ j < z) (i : Nat) (hi : j.toNatClampNeg = i) (hl : i < vs.length) (N : Fr n0 locs) (ha : n0 ≤ a) (hd : decode c.code pc = .ok (.iastore, 1)) (hp : pc + 1 = q)
    (K : ∀ T' h' locs', Stand p l e R s m args below meth c T' locs' cells slots → Fr n0 locs' → T'.heap = h' → Wr h h' a j.toNatClampNeg (.int x) → Arv Z h' a k .int z (vs.set i (.int x)) dv → Go p e below s Q ce sl T' (mkF m q ls st)) : Go p e below s Q ce sl T (mkF m pc ls ((.int x) :: .int j :: .ref a :: st)) := by
  subst hp
  obtain ⟨cl, A, q1, S, q3, H, G⟩ := F
  obtain ⟨T', h', X', e', W', st'⟩ := stI X hx hZ eT A (inb_of S hj) (g := mkF m pc ls ((.int x) :: .int j :: .ref a :: st)) rfl rfl hd
  exact (K T' h' _ X' (Fr.snoc X' N ha) e' W' (Arv.set A q1 S q3 H G rfl W' i hi hl)).to fun t r => st' t r
theorem go_dastore (X : Stand p l e R s m args below meth c T locs cells slots) (hx : p.tables.exec = Jvm.exec) (hZ : Z.Warmed39 s.vm) (eT : T.heap = h) {k : ClassId} {z j : Int32} {vs : List Value} {dv : Value} {x : UInt64} (F : Arv Z h a k .double z vs dv) (hj : ¬ j < 0 ∧ j < z) (i : Nat) (hi : j.toNatClampNeg = i) (hl : i < vs.length) (N : Fr n0 locs) (ha : n0 ≤ a) (hd : decode c.code pc = .ok (.dastore, 1)) (hp : pc + 1 = q)
    (K : ∀ T' h' locs', Stand p l e R s m args below meth c T' locs' cells slots → Fr n0 locs' → T'.heap = h' → Wr h h' a j.toNatClampNeg (.double x) → Arv Z h' a k .double z (vs.set i (.double x)) dv → Go p e below s Q ce sl T' (mkF m q ls st)) : Go p e below s Q ce sl T (mkF m pc ls ((.double x) :: .int j :: .ref a :: st)) := by
  subst hp
  obtain ⟨cl, A, q1, S, q3, H, G⟩ := F
  obtain ⟨T', h', X', e', W', st'⟩ := stD X hx hZ eT A (inb_of S hj) (g := mkF m pc ls ((.double x) :: .int j :: .ref a :: st)) rfl rfl hd
  exact (K T' h' _ X' (Fr.snoc X' N ha) e' W' (Arv.set A q1 S q3 H G rfl W' i hi hl)).to fun t r => st' t r
theorem go_fastore (X : Stand p l e R s m args below meth c T locs cells slots) (hx : p.tables.exec = Jvm.exec) (hZ : Z.Warmed39 s.vm) (eT : T.heap = h) {k : ClassId} {z j : Int32} {vs : List Value} {dv : Value} {x : UInt32} (F : Arv Z h a k .float z vs dv) (hj : ¬ j < 0 ∧ j < z) (i : Nat) (hi : j.toNatClampNeg = i) (hl : i < vs.length) (N : Fr n0 locs) (ha : n0 ≤ a) (hd : decode c.code pc = .ok (.fastore, 1)) (hp : pc + 1 = q)
    (K : ∀ T' h' locs', Stand p l e R s m args below meth c T' locs' cells slots → Fr n0 locs' → T'.heap = h' → Wr h h' a j.toNatClampNeg (.float x) → Arv Z h' a k .float z (vs.set i (.float x)) dv → Go p e below s Q ce sl T' (mkF m q ls st)) : Go p e below s Q ce sl T (mkF m pc ls ((.float x) :: .int j :: .ref a :: st)) := by
  subst hp
  obtain ⟨cl, A, q1, S, q3, H, G⟩ := F
  obtain ⟨T', h', X', e', W', st'⟩ := stF X hx hZ eT A (inb_of S hj) (g := mkF m pc ls ((.float x) :: .int j :: .ref a :: st)) rfl rfl hd
  exact (K T' h' _ X' (Fr.snoc X' N ha) e' W' (Arv.set A q1 S q3 H G rfl W' i hi hl)).to fun t r => st' t r
theorem go_bastore (X : Stand p l e R s m args below meth c T locs cells slots) (hx : p.tables.exec = Jvm.exec) (hZ : Z.Warmed39 s.vm) (eT : T.heap = h) {k : ClassId} {z j : Int32} {vs : List Value} {dv : Value} {x : Int32} (F : Arv Z h a k .boolean z vs dv) (hj : ¬ j < 0 ∧ j < z) (i : Nat) (hi : j.toNatClampNeg = i) (hl : i < vs.length) (N : Fr n0 locs) (ha : n0 ≤ a) (hd : decode c.code pc = .ok (.bastore, 1)) (hp : pc + 1 = q)
    (K : ∀ T' h' locs', Stand p l e R s m args below meth c T' locs' cells slots → Fr n0 locs' → T'.heap = h' → Wr h h' a j.toNatClampNeg (.int (nar .boolean x)) → Arv Z h' a k .boolean z (vs.set i (.int (nar .boolean x))) dv → Go p e below s Q ce sl T' (mkF m q ls st)) : Go p e below s Q ce sl T (mkF m pc ls ((.int x) :: .int j :: .ref a :: st)) := by
  subst hp
  obtain ⟨cl, A, q1, S, q3, H, G⟩ := F
  obtain ⟨T', h', X', e', W', st'⟩ := stZ X hx hZ eT A (inb_of S hj) (g := mkF m pc ls ((.int x) :: .int j :: .ref a :: st)) rfl rfl hd
  exact (K T' h' _ X' (Fr.snoc X' N ha) e' W' (Arv.set A q1 S q3 H G (fits_nar_bool _) W' i hi hl)).to fun t r => st' t r
theorem go_castore (X : Stand p l e R s m args below meth c T locs cells slots) (hx : p.tables.exec = Jvm.exec) (hZ : Z.Warmed39 s.vm) (eT : T.heap = h) {k : ClassId} {z j : Int32} {vs : List Value} {dv : Value} {x : Int32} (F : Arv Z h a k .char z vs dv) (hj : ¬ j < 0 ∧ j < z) (i : Nat) (hi : j.toNatClampNeg = i) (hl : i < vs.length) (N : Fr n0 locs) (ha : n0 ≤ a) (hd : decode c.code pc = .ok (.castore, 1)) (hp : pc + 1 = q)
    (K : ∀ T' h' locs', Stand p l e R s m args below meth c T' locs' cells slots → Fr n0 locs' → T'.heap = h' → Wr h h' a j.toNatClampNeg (.int (nar .char x)) → Arv Z h' a k .char z (vs.set i (.int (nar .char x))) dv → Go p e below s Q ce sl T' (mkF m q ls st)) : Go p e below s Q ce sl T (mkF m pc ls ((.int x) :: .int j :: .ref a :: st)) := by
  subst hp
  obtain ⟨cl, A, q1, S, q3, H, G⟩ := F
  obtain ⟨T', h', X', e', W', st'⟩ := stC X hx hZ eT A (inb_of S hj) (g := mkF m pc ls ((.int x) :: .int j :: .ref a :: st)) rfl rfl hd
  exact (K T' h' _ X' (Fr.snoc X' N ha) e' W' (Arv.set A q1 S q3 H G (fits_nar_char _) W' i hi hl)).to fun t r => st' t r
theorem go_bastoreB (X : Stand p l e R s m args below meth c T locs cells slots) (hx : p.tables.exec = Jvm.exec) (hZ : Z.Warmed39 s.vm) (eT : T.heap = h) {k : ClassId} {z j : Int32} {vs : List Value} {dv : Value} {x : Int32} (F : Arv Z h a k .byte z vs dv) (hj : ¬ j < 0 ∧ j < z) (i : Nat) (hi : j.toNatClampNeg = i) (hl : i < vs.length) (N : Fr n0 locs) (ha : n0 ≤ a) (hd : decode c.code pc = .ok (.bastore, 1)) (hp : pc + 1 = q)
    (K : ∀ T' h' locs', Stand p l e R s m args below meth c T' locs' cells slots → Fr n0 locs' → T'.heap = h' → Wr h h' a j.toNatClampNeg (.int (nar .byte x)) → Arv Z h' a k .byte z (vs.set i (.int (nar .byte x))) dv → Go p e below s Q ce sl T' (mkF m q ls st)) : Go p e below s Q ce sl T (mkF m pc ls ((.int x) :: .int j :: .ref a :: st)) := by
  subst hp
  obtain ⟨cl, A, q1, S, q3, H, G⟩ := F
  obtain ⟨T', h', X', e', W', st'⟩ := stB X hx hZ eT A (inb_of S hj) (g := mkF m pc ls ((.int x) :: .int j :: .ref a :: st)) rfl rfl hd
  exact (K T' h' _ X' (Fr.snoc X' N ha) e' W' (Arv.set A q1 S q3 H G (fits_nar_byte _) W' i hi hl)).to fun t r => st' t r
theorem go_acmp_eq (X : Stand p l e R s m args below meth c T locs cells slots) (hx : p.tables.exec = Jvm.exec) {x y : Value} (h1 : x.isRef = true) (h2 : y.isRef = true) {o : Int} (hd : decode c.code pc = .ok (.if_acmp .eq o, 3)) (hp : pc + 3 = q) (ho : 0 ≤ (pc : Int) + o) (hq : ((pc : Int) + o).toNat = q') (KY : x = y → Go p e below s Q ce sl T (mkF m q' ls st)) (KN : ¬ x = y → Go p e below s Q ce sl T (mkF m q ls st)) : Go p e below s Q ce sl T (mkF m pc ls (y :: x :: st)) := by
  subst hp hq
  by_cases w : x = y
  · exact (KY w).to fun t r => Jvm.RoadKit.acmp (g := mkF m pc ls (y :: x :: st)) X hx rfl h1 h2 (pc0 := pc) (same := true) rfl hd rfl (decide_eq_true w) ho rfl r
  · exact (KN w).to fun t r => Jvm.RoadKit.acmp (g := mkF m pc ls (y :: x :: st)) X hx rfl h1 h2 (pc0 := pc) (same := false) rfl hd rfl (decide_eq_false w) ho rfl r
theorem go_acmp_ne (X : Stand p l e R s m args below meth c T locs cells slots) (hx : p.tables.exec = Jvm.exec) {x y : Value} (h1 : x.isRef = true) (h2 : y.isRef = true) {o : Int} (hd : decode c.code pc = .ok (.if_acmp .ne o, 3)) (hp : pc + 3 = q) (ho : 0 ≤ (pc : Int) + o) (hq : ((pc : Int) + o).toNat = q') (KY : ¬ x = y → Go p e below s Q ce sl T (mkF m q' ls st)) (KN : x = y → Go p e below s Q ce sl T (mkF m q ls st)) : Go p e below s Q ce sl T (mkF m pc ls (y :: x :: st)) := by
  subst hp hq
  by_cases w : x = y
  · exact (KN w).to fun t r => Jvm.RoadKit.acmp (g := mkF m pc ls (y :: x :: st)) X hx rfl h1 h2 (pc0 := pc) (same := true) rfl hd rfl (decide_eq_true w) ho rfl r
  · exact (KY w).to fun t r => Jvm.RoadKit.acmp (g := mkF m pc ls (y :: x :: st)) X hx rfl h1 h2 (pc0 := pc) (same := false) rfl hd rfl (decide_eq_false w) ho rfl r
theorem go_ifnullR (X : Stand p l e R s m args below meth c T locs cells slots) (hx : p.tables.exec = Jvm.exec) {b : Addr} {o : Int} (hd : decode c.code pc = .ok (.ifnull o, 3)) (hp : pc + 3 = q) (K : Go p e below s Q ce sl T (mkF m q ls st)) : Go p e below s Q ce sl T (mkF m pc ls (.ref b :: st)) := by
  subst hp
  exact K.to fun t r => XS.ifnullNo X.here hx rfl hd rfl r
theorem go_ifnonnullR (X : Stand p l e R s m args below meth c T locs cells slots) (hx : p.tables.exec = Jvm.exec) {b : Addr} {o : Int} (hd : decode c.code pc = .ok (.ifnonnull o, 3)) (ho : 0 ≤ (pc : Int) + o) (hq : ((pc : Int) + o).toNat = q') (K : Go p e below s Q ce sl T (mkF m q' ls st)) : Go p e below s Q ce sl T (mkF m pc ls (.ref b :: st)) :=
  K.to fun t r => XS.ifnonnullYes X.here hx rfl (pc0 := pc) rfl hd rfl ho hq r
theorem go_tsw (X : Stand p l e R s m args below meth c T locs cells slots) (hx : p.tables.exec = Jvm.exec) {dflt low high off : Int} {offs : Array Int} {len : Nat} {i : Int32} (hd : decode c.code pc = .ok (.tableswitch dflt low high offs, len)) (hin : ¬ (i.toInt < low ∨ i.toInt > high)) (hoff : offs[(i.toInt - low).toNat]? = some off) (ho : 0 ≤ (pc : Int) + off) (hq : ((pc : Int) + off).toNat = q) (K : Go p e below s Q ce sl T (mkF m q ls st)) : Go p e below s Q ce sl T (mkF m pc ls (.int i :: st)) :=
  K.to fun t r => XS.tswIn X.here hx rfl (pc0 := pc) rfl hd rfl hin hoff ho hq r
theorem go_callVU (X : Stand p l e R s m args below meth c T locs cells slots) (hx : p.tables.exec = Jvm.exec) (hZ : Z.Warmed39 s.vm) {own C owner : String} {index : Nat} {y : MethodName} {bytes : ByteArray} {maxL : Nat} {ret : Option FieldType} {rm : Room} {W : Nat} {Qc : Option Value → Heap → List Loc → Prop} {z : MethodName} (hown : s.vm.findClass own = some m.cls) (eT : T.heap = h)
    (w1 : (Jvm.Cond.methodLink own index y).before a0 Z = true) (w2 : (Jvm.Cond.sameMethod y.cls owner y.name y.desc).before a0 Z = true) (w7 : (Jvm.Cond.declares ⟨owner, y.name, y.desc⟩).before a0 Z = true) (hy : owner ≠ "java/lang/invoke/MethodHandle" ∧ owner ≠ "java/lang/invoke/VarHandle") (w3 : (Jvm.Cond.selects C y z).before a0 Z = true) (w5 : (Jvm.Cond.instanceMethod z).before a0 Z = true) (w6 : (Jvm.Cond.initialized z.cls).before a0 Z = true) (w4 : (Jvm.Cond.code z bytes maxL ret).before a0 Z = true)
    (a : Addr) (argsL rest : List Value) (E : Exa Z h a C) (hM : Con l z bytes maxL ret [] rm Z (.ref a :: argsL).toArray h Qc) (hsz : ls.size = c.maxLocals) (hst : st = argsL.reverse ++ .ref a :: rest) (hlen : ∀ sig, parseMethodDescriptor y.desc = some sig → argsL.length = sig.parameters.length) (hW : (rest.map fun v => v.category).sum ≤ W)
    (hf : rm.frames + 1 ≤ R.frames) (hl : W + (maxL + 11) + rm.locals ≤ R.locals) (hd : decode c.code pc = .ok (.invokevirtual index, 3)) (hp : pc + 3 = q) (hc : cells + rm.cells ≤ R.cells) (hs : slots + rm.slots ≤ R.slots)
    (K : ∀ (T' : State) (L : List Loc) (v : Option Value), Stand p l e R s m args below meth c T' (locs ++ L) (cells + rm.cells) (slots + rm.slots) → Qc v T'.heap L → Go p e below s Q ce sl T' (mkF m q ls (v.toList ++ rest))) : Go p e below s Q ce sl T (mkF m pc ls st) := by
  subst hp
  obtain ⟨cq, kq, qa, qb, qc⟩ := isOf hZ eT E
  obtain ⟨v, _, ⟨T', L', k', n'⟩, -, X', ⟨Lc, hQ, l1, y1, z1⟩, stp⟩ := X.virtualBackUp hx (x := y) (y := z) hown (mvT hZ w1) (mvT hZ w2) (mvT hZ w7) hy (mvT hZ w3) (mvT hZ w5) (backOf (W := W) hM hZ w4 w6 hf hl) qa qc (g := mkF m pc ls st) rfl hsz (Steps.refl _) (argsL := argsL) (rest := rest) hlen hst (by show 2 * 0 + _ ≤ _; omega) hd (fun _ _ => ⟨rfl, eT, hc, hs⟩)
  dsimp only [Pt.U, Pt.locs, Pt.cells, Pt.slots] at X' l1 y1 z1 stp hQ
  subst l1 y1 z1
  exact (K T' Lc v X' hQ).to fun t r => stp.trans r
end OwnHeap

section OwnFloat
open Jvm.FP Jvm.FP.Core
/-- the datum with its exponent moved down by k -/
def sh (k : Int) : Datum → Datum
  | .fin s c q => .fin s c (q - k)
  | d => d
/-- the datum's value is i * 2^k -/
def Dy (k i : Int) (d : Datum) : Prop := Whole i (sh k d)
theorem dy_zero_iff {i : Int} {d : Datum} : Dy 0 i d ↔ Whole i d := by
  cases d <;> simp [Dy, sh]
theorem sh_sum (k : Int) (x y : Datum) : exactSum (sh k x) (sh k y) = sh k (exactSum x y) := by
  cases x <;> cases y <;> try rfl
  · rename_i a b; by_cases q : a = b <;> simp [sh, exactSum, q]
  · rename_i s c q t d r
    have e1 : min (q - k) (r - k) = min q r - k := by omega
    have e2 : q - k - (min q r - k) = q - min q r := by omega
    have e3 : r - k - (min q r - k) = r - min q r := by omega
    simp [sh, exactSum, sumUnits, inUnits, e1, e2, e3]
theorem sh_product (k l : Int) {x y : Datum} {s t : Bool} {c d : Nat} {q r : Int} (hx : x = .fin s c q) (hy : y = .fin t d r) : exactProduct (sh k x) (sh l y) = sh (k + l) (exactProduct x y) := by
  subst hx hy
  have e1 : q - k + (r - l) = q + r - (k + l) := by omega
  simp [sh, exactProduct, e1]
theorem sh_negate (k : Int) (x : Datum) : negate (sh k x) = sh k (negate x) := by cases x <;> rfl
theorem sh_order (k : Int) (x y : Datum) : order (sh k x) (sh k y) = order x y := by
  cases x <;> cases y <;> try rfl
  rename_i s c q t d r
  have e1 : min (q - k) (r - k) = min q r - k := by omega
  have e2 : q - k - (min q r - k) = q - min q r := by omega
  have e3 : r - k - (min q r - k) = r - min q r := by omega
  simp [sh, order, inUnits, e1, e2, e3]
theorem dy_fin {k i : Int} {d : Datum} (h : Dy k i d) : ∃ s c q, d = .fin s c q := by
  cases d with
  | nan => exact h.elim
  | inf s => exact h.elim
  | fin s c q => exact ⟨s, c, q, rfl⟩
theorem dy_sum {k i j : Int} {x y : Datum} (hx : Dy k i x) (hy : Dy k j y) : Dy k (i + j) (exactSum x y) := by
  unfold Dy; rw [← sh_sum]; exact whole_sum hx hy
theorem dy_negate {k i : Int} {x : Datum} (hx : Dy k i x) : Dy k (-i) (negate x) := by
  unfold Dy; rw [← sh_negate]; exact whole_negate hx
theorem dy_product {k l i j : Int} {x y : Datum} (hx : Dy k i x) (hy : Dy l j y) : Dy (k + l) (i * j) (exactProduct x y) := by
  obtain ⟨s, c, q, ex⟩ := dy_fin hx
  obtain ⟨t, d, r, ey⟩ := dy_fin hy
  unfold Dy; rw [← sh_product k l ex ey]; exact whole_product hx hy
theorem dy_order {k i j : Int} {x y : Datum} (hx : Dy k i x) (hy : Dy k j y) : order x y = some (compare i j) := by
  rw [← sh_order k]; exact order_whole hx hy
/-- c * 2^q and A * 2^k are alike: by differences, or with both exponents raised -/
theorem p2 {c A : Nat} {q k : Int} (N : Nat) (h1 : 0 ≤ q + N) (h2 : 0 ≤ k + N) : c * 2 ^ (q - k).toNat = A * 2 ^ (k - q).toNat ↔ c * 2 ^ (q + N).toNat = A * 2 ^ (k + N).toNat := by
  rcases Int.le_total q k with hqk | hqk
  · have e1 : (q - k).toNat = 0 := by omega
    have e2 : (k + N).toNat = (k - q).toNat + (q + N).toNat := by omega
    rw [e1, e2, Nat.pow_zero, Nat.mul_one, Nat.pow_add, ← Nat.mul_assoc]
    exact ⟨fun h => by rw [h], fun h => Nat.eq_of_mul_eq_mul_right (Nat.two_pow_pos _) h⟩
  · have e1 : (k - q).toNat = 0 := by omega
    have e2 : (q + N).toNat = (q - k).toNat + (k + N).toNat := by omega
    rw [e1, e2, Nat.pow_zero, Nat.mul_one, Nat.pow_add, ← Nat.mul_assoc]
    exact ⟨fun h => by rw [h], fun h => Nat.eq_of_mul_eq_mul_right (Nat.two_pow_pos _) h⟩
theorem dy_abs {k i : Int} {s : Bool} {c : Nat} {q : Int} (h : Dy k i (.fin s c q)) : c * 2 ^ (q - k).toNat = i.natAbs * 2 ^ (k - q).toNat := by
  have h' : signed s (c * 2 ^ (q - k).toNat) = i * ((2 ^ (-(q - k)).toNat : Nat) : Int) := h
  have e := congrArg Int.natAbs h'
  rw [natAbs_signed, Int.natAbs_mul, Int.natAbs_natCast, show -(q - k) = k - q by omega] at e
  exact e
theorem dy_sgn {k i : Int} {s : Bool} {c : Nat} {q : Int} (h : Dy k i (.fin s c q)) : signed s i.natAbs = i := by
  have h' : signed s (c * 2 ^ (q - k).toNat) = i * ((2 ^ (-(q - k)).toNat : Nat) : Int) := h
  rw [dy_abs h, signed_mul, show -(q - k) = k - q by omega] at h'
  exact Int.eq_of_mul_eq_mul_right (by have := Nat.two_pow_pos (k - q).toNat; omega) h'
theorem dy_mk {k i : Int} {s : Bool} {c : Nat} {q : Int} (h1 : c * 2 ^ (q - k).toNat = i.natAbs * 2 ^ (k - q).toNat) (h2 : signed s i.natAbs = i) : Dy k i (.fin s c q) := by
  show signed s (c * 2 ^ (q - k).toNat) = i * ((2 ^ (-(q - k)).toNat : Nat) : Int)
  rw [h1, signed_mul, h2, show -(q - k) = k - q by omega]
theorem dy_of_units {k i : Int} {s : Bool} {c' : Nat} {q' : Int} (hq : -1074 ≤ q') (hk : -1074 ≤ k) (e2 : inUnits c' q' (-1074) = inUnits i.natAbs k (-1074)) (h2 : signed s i.natAbs = i) : Dy k i (.fin s c' q') := by
  refine dy_mk ?_ h2
  rw [p2 1074 (by omega) (by omega)]
  unfold inUnits at e2
  rw [show q' - -1074 = q' + (1074 : Nat) by omega, show k - -1074 = k + (1074 : Nat) by omega] at e2
  exact e2
theorem dy_roundRatio {k m : Int} {S : Bool} {c d : Nat} {e : Int} (hd : 0 < d) (h : c * 2 ^ (e - k).toNat = m.natAbs * d * 2 ^ (k - e).toNat) (hm : m.natAbs < 2 ^ 53) (k1 : -1074 ≤ k) (k2 : k ≤ 971) (h2 : signed S m.natAbs = m) : Dy k m (roundRatio b64 S c d e) := by
  have hr : roundRatio b64 S c d e = round b64 (.fin S m.natAbs k) := roundRatio_congr (A := c) (B := d) (A' := m.natAbs) (B' := 1) (e := e) (e' := k) hd (by decide) (by rw [Nat.mul_one]; exact h)
  obtain ⟨c', q', e1, e2⟩ := round_exact good_b64 S (c := m.natAbs) (q := k) hm (by rw [qmin_b64]; exact k1) (by show k ≤ 971; exact k2)
  have hf : Core.fits b64 (.fin S c' q') := by rw [← e1]; exact round_fits good_b64 _
  have hq : -1074 ≤ q' := by have := hf.2.1; rw [qmin_b64] at this; exact this
  rw [hr, e1]
  rw [qmin_b64] at e2
  exact dy_of_units hq k1 e2 h2
theorem dy_round {k i : Int} {d : Datum} (h : Dy k i d) (hi : i.natAbs < 2 ^ 53) (k1 : -1074 ≤ k) (k2 : k ≤ 971) : Dy k i (round b64 d) := by
  obtain ⟨s, c, q, rfl⟩ := dy_fin h
  exact dy_roundRatio (d := 1) (by decide) (by rw [Nat.mul_one]; exact dy_abs h) hi k1 k2 (dy_sgn h)
theorem signed_xor1 (s t : Bool) (a b : Nat) : signed (s != t) (a * b) = signed s a * signed t b := signed_xor s t a b
theorem dy_quotient {k l i j m : Int} {x y : Datum} (hx : Dy k i x) (hy : Dy l j y) (hj : j ≠ 0) (hm : i = m * j) (hb : m.natAbs < 2 ^ 53) (k1 : -1074 ≤ k - l) (k2 : k - l ≤ 971) : Dy (k - l) m (quotient b64 x y) := by
  obtain ⟨s, c, q, rfl⟩ := dy_fin hx
  obtain ⟨t, d, r, rfl⟩ := dy_fin hy
  have a1 := dy_abs hx
  have a2 := dy_abs hy
  have jpos : 0 < j.natAbs := by omega
  have dpos : 0 < d := by
    rcases Nat.eq_zero_or_pos d with rfl | h
    · rw [Nat.zero_mul] at a2
      have := Nat.mul_pos jpos (Nat.two_pow_pos (l - r).toNat)
      omega
    · exact h
  have ea : i.natAbs = m.natAbs * j.natAbs := by rw [hm, Int.natAbs_mul]
  show Dy (k - l) m (if d = 0 then (if c = 0 then .nan else .inf (s != t)) else roundRatio b64 (s != t) c d (q - r))
  rw [if_neg (by omega)]
  refine dy_roundRatio dpos ?_ hb k1 k2 ?_
  · have N : Nat := 0
    obtain ⟨M, hM⟩ : ∃ M : Nat, 0 ≤ q + M ∧ 0 ≤ k + M ∧ 0 ≤ r + M ∧ 0 ≤ l + M := ⟨q.natAbs + k.natAbs + r.natAbs + l.natAbs, by omega, by omega, by omega, by omega⟩
    rw [p2 M hM.1 hM.2.1] at a1
    rw [p2 M hM.2.2.1 hM.2.2.2] at a2
    have e1 : q - r - (k - l) = (q + l) - (k + r) := by omega
    have e2 : k - l - (q - r) = (k + r) - (q + l) := by omega
    rw [e1, e2, p2 (2 * M) (by omega) (by omega)]
    have f1 : (q + l + ((2 * M : Nat) : Int)).toNat = (q + M).toNat + (l + M).toNat := by omega
    have f2 : (k + r + ((2 * M : Nat) : Int)).toNat = (k + M).toNat + (r + M).toNat := by omega
    rw [f1, f2, Nat.pow_add, Nat.pow_add]
    refine Nat.eq_of_mul_eq_mul_right jpos ?_
    calc c * (2 ^ (q + M).toNat * 2 ^ (l + M).toNat) * j.natAbs
        = (c * 2 ^ (q + M).toNat) * (j.natAbs * 2 ^ (l + M).toNat) := by ac_rfl
      _ = (i.natAbs * 2 ^ (k + M).toNat) * (d * 2 ^ (r + M).toNat) := by rw [a1, a2]
      _ = m.natAbs * d * (2 ^ (k + M).toNat * 2 ^ (r + M).toNat) * j.natAbs := by rw [ea]; ac_rfl
  · have s1 := dy_sgn hx
    have s2 := dy_sgn hy
    have s3 : signed (s != t) (i.natAbs * j.natAbs) = i * j := by rw [signed_xor, s1, s2]
    have e3 : i.natAbs * j.natAbs = m.natAbs * (j.natAbs * j.natAbs) := by rw [ea, Nat.mul_assoc]
    rw [e3, signed_mul, Int.natAbs_mul_self, hm, Int.mul_assoc] at s3
    exact Int.eq_of_mul_eq_mul_right (Int.mul_ne_zero hj hj) s3
theorem dy_scale {k i : Int} {d : Datum} (h : Dy k i d) (n : Nat) : Dy (k - n) (i * 2 ^ n) d := by
  obtain ⟨s, c, q, rfl⟩ := dy_fin h
  have a1 := dy_abs h
  have s1 := dy_sgn h
  have e0 : (i * 2 ^ n).natAbs = i.natAbs * 2 ^ n := by rw [Int.natAbs_mul, Int.natAbs_pow]; rfl
  refine dy_mk ?_ ?_
  · obtain ⟨M, h1, h2⟩ : ∃ M : Nat, 0 ≤ q + M ∧ 0 ≤ k - n + M := ⟨q.natAbs + k.natAbs + n, by omega, by omega⟩
    rw [p2 M h1 (by omega)] at a1
    rw [p2 M h1 h2, a1, e0]
    have : (k + (M : Int)).toNat = n + (k - n + M).toNat := by omega
    rw [this, Nat.pow_add, Nat.mul_assoc]
  · rw [e0, signed_mul, s1]; congr 1
/-- the double x is worth i * 2^k, and |i| is at most A -/
def DB (k : Int) (A : Nat) (i : Int) (x : UInt64) : Prop := Dy k i (val64 x) ∧ i.natAbs ≤ A
theorem DB.fin {k i : Int} {A : Nat} {x : UInt64} (h : DB k A i x) : DFin x := dy_fin h.1
theorem DB.nn {k i : Int} {A : Nat} {x : UInt64} (h : DB k A i x) : Jvm.Free.Fl.NoNaN64 x := Jvm.Free.Fl.noNaN64_no.mpr h.fin.notNaN
theorem DB.le {k i : Int} {A B : Nat} {x : UInt64} (h : DB k A i x) (hb : i.natAbs ≤ B) : DB k B i x := ⟨h.1, hb⟩
theorem DB.eqv {k i j : Int} {A : Nat} {x : UInt64} (h : DB k A i x) (e : i = j) : DB k A j x := e ▸ h
theorem db_add {k i j : Int} {A B : Nat} {x y : UInt64} (hx : DB k A i x) (hy : DB k B j y) (hA : A + B < 9007199254740992) (k1 : -1074 ≤ k) (k2 : k ≤ 971) : DB k (A + B) (i + j) (FP.dadd x y) := by
  have h1 := hx.2; have h2 := hy.2
  have hb : (i + j).natAbs ≤ A + B := by omega
  refine ⟨?_, hb⟩
  show Dy k (i + j) (val64 (Core.dadd x y))
  rw [val64_dadd]; exact dy_round (dy_sum hx.1 hy.1) (by omega) k1 k2
theorem db_sub {k i j : Int} {A B : Nat} {x y : UInt64} (hx : DB k A i x) (hy : DB k B j y) (hA : A + B < 9007199254740992) (k1 : -1074 ≤ k) (k2 : k ≤ 971) : DB k (A + B) (i - j) (FP.dsub x y) := by
  have h1 := hx.2; have h2 := hy.2
  have hb : (i - j).natAbs ≤ A + B := by omega
  refine ⟨?_, hb⟩
  show Dy k (i - j) (val64 (Core.dsub x y))
  rw [val64_dsub]; exact dy_round (by rw [Int.sub_eq_add_neg]; exact dy_sum hx.1 (dy_negate hy.1)) (by omega) k1 k2
theorem db_mul {k l i j : Int} {A B : Nat} {x y : UInt64} (hx : DB k A i x) (hy : DB l B j y) (hA : A * B < 9007199254740992) (k1 : -1074 ≤ k + l) (k2 : k + l ≤ 971) : DB (k + l) (A * B) (i * j) (FP.dmul x y) := by
  have hb : (i * j).natAbs ≤ A * B := by rw [Int.natAbs_mul]; exact Nat.mul_le_mul hx.2 hy.2
  refine ⟨?_, hb⟩
  show Dy (k + l) (i * j) (val64 (Core.dmul x y))
  rw [val64_dmul]; exact dy_round (dy_product hx.1 hy.1) (by omega) k1 k2
theorem db_div {k l i j : Int} {A B : Nat} {x y : UInt64} (m : Int) (hx : DB k A i x) (hy : DB l B j y) (hj : j ≠ 0) (hm : i = m * j) (hA : A < 9007199254740992) (k1 : -1074 ≤ k - l) (k2 : k - l ≤ 971) : DB (k - l) A m (FP.ddiv x y) := by
  have h1 : m.natAbs ≤ i.natAbs := by rw [hm, Int.natAbs_mul]; exact Nat.le_mul_of_pos_right _ (by omega)
  have h2 := hx.2
  refine ⟨?_, by omega⟩
  show Dy (k - l) m (val64 (Core.ddiv x y))
  rw [val64_ddiv]; exact dy_quotient hx.1 hy.1 hj hm (by omega) k1 k2
theorem DB.scale {k i : Int} {A : Nat} {x : UInt64} (h : DB k A i x) (n : Nat) : DB (k - n) (A * 2 ^ n) (i * 2 ^ n) x :=
  ⟨dy_scale h.1 n, by rw [Int.natAbs_mul, Int.natAbs_pow]; exact Nat.mul_le_mul_right _ h.2⟩
theorem db_i2d (v : Int32) : DB 0 2147483648 v.toInt (FP.i2d v) := ⟨dy_zero_iff.mpr (i2d_int v), by have := Int32.toInt_lt v; have := Int32.le_toInt v; omega⟩
theorem db_i2d' {v : Int32} {A : Nat} (h : v.toInt.natAbs ≤ A) : DB 0 A v.toInt (FP.i2d v) := (db_i2d v).le h
theorem db_l2d {v : Int64} {A : Nat} (h : v.toInt.natAbs ≤ A) (hA : A ≤ 9007199254740992) : DB 0 A v.toInt (FP.l2d v) := ⟨dy_zero_iff.mpr (l2d_int (by omega)), h⟩
theorem db_dcmp {k i j : Int} {A B : Nat} {x y : UInt64} (hx : DB k A i x) (hy : DB k B j y) : FP.dcmp x y = some (compare i j) := dy_order hx.1 hy.1
theorem db_cv {k i j : Int} {A B : Nat} {x y : UInt64} (hx : DB k A i x) (hy : DB k B j y) (o : CmpOp) : cmpValue (FP.dcmp x y) o = if i < j then -1 else if i = j then 0 else 1 := by
  rw [db_dcmp hx hy, compare_ite]
  by_cases h1 : i < j
  · simp [h1]; rfl
  · by_cases h2 : i = j
    · simp [h2]; rfl
    · simp [h1, h2]; rfl
theorem db_lt {k i j : Int} {A B : Nat} {x y : UInt64} (hx : DB k A i x) (hy : DB k B j y) (o : CmpOp) : cmpValue (FP.dcmp x y) o < 0 ↔ i < j := by
  rw [db_cv hx hy]
  by_cases h1 : i < j
  · simp [h1]
  · by_cases h2 : i = j
    · simp [h2]
    · simp [h1, h2]
theorem db_gt {k i j : Int} {A B : Nat} {x y : UInt64} (hx : DB k A i x) (hy : DB k B j y) (o : CmpOp) : 0 < cmpValue (FP.dcmp x y) o ↔ j < i := by
  rw [db_cv hx hy]
  by_cases h1 : i < j
  · simp [h1, show ¬ j < i by omega]
  · by_cases h2 : i = j
    · simp [h2]
    · simp [h1, h2, show j < i by omega]
theorem db_eq {k i j : Int} {A B : Nat} {x y : UInt64} (hx : DB k A i x) (hy : DB k B j y) (o : CmpOp) : cmpValue (FP.dcmp x y) o = 0 ↔ i = j := by
  rw [db_cv hx hy]
  by_cases h1 : i < j
  · simp [h1, show ¬ i = j by omega]
  · by_cases h2 : i = j
    · simp [h2]
    · simp [h1, h2]
theorem db_c0 : DB 0 0 0 0 := ⟨by rw [show val64 0 = .fin false 0 (-1074) by decide +kernel]; exact dy_mk (by simp) rfl, by decide⟩
theorem db_c1 : DB 0 1 1 4607182418800017408 := ⟨by rw [show val64 4607182418800017408 = .fin false (2 ^ 52) (-52) by decide +kernel]; exact dy_mk (by decide +kernel) rfl, by decide⟩
theorem db_c2 : DB 0 2 2 4611686018427387904 := ⟨by rw [show val64 4611686018427387904 = .fin false (2 ^ 52) (-51) by decide +kernel]; exact dy_mk (by decide +kernel) rfl, by decide⟩
end OwnFloat

section OwnFloatGo
variable {p : Program} {l : Launch} {e : Env} {R : Room} {s : State} {m : MethodId} {args : Array Value} {below : List Frame} {meth : Method} {c : Code} {T : State} {locs : List Loc} {cells slots : Nat} {Z : State} {h : Heap} {Q : Option Value → Heap → List Loc → Prop} {ce sl : Nat} {pc q q' : Nat} {ls : Array Slot} {st : List Value} {a0 : Array Value}
theorem go_i2dB (X : Stand p l e R s m args below meth c T locs cells slots) (hx : p.tables.exec = Jvm.exec) {x : Int32} {A : Nat} {i : Int} (hd : decode c.code pc = .ok (.i2d, 1)) (hp : pc + 1 = q) (hA : DB 0 A i (FP.i2d x)) (K : ∀ z, DB 0 A i z → Go p e below s Q ce sl T (mkF m q ls (.double z :: st))) : Go p e below s Q ce sl T (mkF m pc ls (.int x :: st)) :=
  go_i2d X hx hd hp rfl (K _ hA)
theorem go_l2dB (X : Stand p l e R s m args below meth c T locs cells slots) (hx : p.tables.exec = Jvm.exec) {x : Int64} {A : Nat} {i : Int} (hd : decode c.code pc = .ok (.l2d, 1)) (hp : pc + 1 = q) (hA : DB 0 A i (FP.l2d x)) (K : ∀ z, DB 0 A i z → Go p e below s Q ce sl T (mkF m q ls (.double z :: st))) : Go p e below s Q ce sl T (mkF m pc ls (.long x :: st)) :=
  go_l2d X hx hd hp rfl (K _ hA)
theorem go_f2dB (X : Stand p l e R s m args below meth c T locs cells slots) (hx : p.tables.exec = Jvm.exec) {x : UInt32} {A : Nat} {i : Int} (hd : decode c.code pc = .ok (.f2d, 1)) (hp : pc + 1 = q) (hA : DB 0 A i (FP.f2d x)) (K : ∀ z, DB 0 A i z → Go p e below s Q ce sl T (mkF m q ls (.double z :: st))) : Go p e below s Q ce sl T (mkF m pc ls (.float x :: st)) :=
  go_f2d X hx hd hp hA.nn rfl (K _ hA)
theorem go_daddB (X : Stand p l e R s m args below meth c T locs cells slots) (hx : p.tables.exec = Jvm.exec) {x y : UInt64} {k i j : Int} {A B C : Nat} (hd : decode c.code pc = .ok (.dadd, 1)) (hp : pc + 1 = q) (hA : DB k A i x) (hB : DB k B j y) (b1 : A + B < 9007199254740992) (k1 : -1074 ≤ k) (k2 : k ≤ 971) (hC : A + B = C) (K : ∀ z, DB k C (i + j) z → Go p e below s Q ce sl T (mkF m q ls (.double z :: st))) : Go p e below s Q ce sl T (mkF m pc ls (.double y :: .double x :: st)) :=
  go_dadd X hx hd hp (db_add hA hB b1 k1 k2).nn rfl (K _ (hC ▸ db_add hA hB b1 k1 k2))
theorem go_dsubB (X : Stand p l e R s m args below meth c T locs cells slots) (hx : p.tables.exec = Jvm.exec) {x y : UInt64} {k i j : Int} {A B C : Nat} (hd : decode c.code pc = .ok (.dsub, 1)) (hp : pc + 1 = q) (hA : DB k A i x) (hB : DB k B j y) (b1 : A + B < 9007199254740992) (k1 : -1074 ≤ k) (k2 : k ≤ 971) (hC : A + B = C) (K : ∀ z, DB k C (i - j) z → Go p e below s Q ce sl T (mkF m q ls (.double z :: st))) : Go p e below s Q ce sl T (mkF m pc ls (.double y :: .double x :: st)) :=
  go_dsub X hx hd hp (db_sub hA hB b1 k1 k2).nn rfl (K _ (hC ▸ db_sub hA hB b1 k1 k2))
theorem go_dmulB (X : Stand p l e R s m args below meth c T locs cells slots) (hx : p.tables.exec = Jvm.exec) {x y : UInt64} {k k' kk i j : Int} {A B C : Nat} (hd : decode c.code pc = .ok (.dmul, 1)) (hp : pc + 1 = q) (hA : DB k A i x) (hB : DB k' B j y) (b1 : A * B < 9007199254740992) (k1 : -1074 ≤ k + k') (k2 : k + k' ≤ 971) (hk : k + k' = kk) (hC : A * B = C) (K : ∀ z, DB kk C (i * j) z → Go p e below s Q ce sl T (mkF m q ls (.double z :: st))) : Go p e below s Q ce sl T (mkF m pc ls (.double y :: .double x :: st)) :=
  go_dmul X hx hd hp (db_mul hA hB b1 k1 k2).nn rfl (K _ (hC ▸ hk ▸ db_mul hA hB b1 k1 k2))
theorem go_ddivB (X : Stand p l e R s m args below meth c T locs cells slots) (hx : p.tables.exec = Jvm.exec) {x y : UInt64} {k k' kk i j w0 : Int} {A B : Nat} (hd : decode c.code pc = .ok (.ddiv, 1)) (hp : pc + 1 = q) (hA : DB k A i x) (hB : DB k' B j y) (hj : j ≠ 0) (hm : i = w0 * j) (b1 : A < 9007199254740992) (k1 : -1074 ≤ k - k') (k2 : k - k' ≤ 971) (hk : k - k' = kk) (K : ∀ z, DB kk A w0 z → Go p e below s Q ce sl T (mkF m q ls (.double z :: st))) : Go p e below s Q ce sl T (mkF m pc ls (.double y :: .double x :: st)) :=
  go_ddiv X hx hd hp (db_div w0 hA hB hj hm b1 k1 k2).nn rfl (K _ (hk ▸ db_div w0 hA hB hj hm b1 k1 k2))
theorem go_dif_lt (X : Stand p l e R s m args below meth c T locs cells slots) (hx : p.tables.exec = Jvm.exec) {x y : UInt64} {k i j : Int} {A B : Nat} {cm : CmpOp} {o : Int} (hd : decode c.code pc = .ok (.ifCond .lt o, 3)) (hp : pc + 3 = q) (ho : 0 ≤ (pc : Int) + o) (hq : ((pc : Int) + o).toNat = q') (hA : DB k A i x) (hB : DB k B j y) (KY : i < j → Go p e below s Q ce sl T (mkF m q' ls st)) (KN : ¬ i < j → Go p e below s Q ce sl T (mkF m q ls st)) : Go p e below s Q ce sl T (mkF m pc ls (.int (cmpValue (FP.dcmp x y) cm) :: st)) :=
  go_if_lt X hx hd hp ho hq (fun w => KY ((db_lt hA hB _).mp w)) (fun w => KN (fun z => w ((db_lt hA hB _).mpr z)))
theorem go_dif_ge (X : Stand p l e R s m args below meth c T locs cells slots) (hx : p.tables.exec = Jvm.exec) {x y : UInt64} {k i j : Int} {A B : Nat} {cm : CmpOp} {o : Int} (hd : decode c.code pc = .ok (.ifCond .ge o, 3)) (hp : pc + 3 = q) (ho : 0 ≤ (pc : Int) + o) (hq : ((pc : Int) + o).toNat = q') (hA : DB k A i x) (hB : DB k B j y) (KY : ¬ i < j → Go p e below s Q ce sl T (mkF m q' ls st)) (KN : i < j → Go p e below s Q ce sl T (mkF m q ls st)) : Go p e below s Q ce sl T (mkF m pc ls (.int (cmpValue (FP.dcmp x y) cm) :: st)) :=
  go_if_ge X hx hd hp ho hq (fun w => KY (fun z => w ((db_lt hA hB _).mpr z))) (fun w => KN ((db_lt hA hB _).mp w))
theorem go_dif_gt (X : Stand p l e R s m args below meth c T locs cells slots) (hx : p.tables.exec = Jvm.exec) {x y : UInt64} {k i j : Int} {A B : Nat} {cm : CmpOp} {o : Int} (hd : decode c.code pc = .ok (.ifCond .gt o, 3)) (hp : pc + 3 = q) (ho : 0 ≤ (pc : Int) + o) (hq : ((pc : Int) + o).toNat = q') (hA : DB k A i x) (hB : DB k B j y) (KY : j < i → Go p e below s Q ce sl T (mkF m q' ls st)) (KN : ¬ j < i → Go p e below s Q ce sl T (mkF m q ls st)) : Go p e below s Q ce sl T (mkF m pc ls (.int (cmpValue (FP.dcmp x y) cm) :: st)) :=
  go_if_gt X hx hd hp ho hq (fun w => KY ((db_gt hA hB _).mp w)) (fun w => KN (fun z => w ((db_gt hA hB _).mpr z)))
theorem go_dif_le (X : Stand p l e R s m args below meth c T locs cells slots) (hx : p.tables.exec = Jvm.exec) {x y : UInt64} {k i j : Int} {A B : Nat} {cm : CmpOp} {o : Int} (hd : decode c.code pc = .ok (.ifCond .le o, 3)) (hp : pc + 3 = q) (ho : 0 ≤ (pc : Int) + o) (hq : ((pc : Int) + o).toNat = q') (hA : DB k A i x) (hB : DB k B j y) (KY : ¬ j < i → Go p e below s Q ce sl T (mkF m q' ls st)) (KN : j < i → Go p e below s Q ce sl T (mkF m q ls st)) : Go p e below s Q ce sl T (mkF m pc ls (.int (cmpValue (FP.dcmp x y) cm) :: st)) :=
  go_if_le X hx hd hp ho hq (fun w => KY (fun z => w ((db_gt hA hB _).mpr z))) (fun w => KN ((db_gt hA hB _).mp w))
theorem go_dif_eq (X : Stand p l e R s m args below meth c T locs cells slots) (hx : p.tables.exec = Jvm.exec) {x y : UInt64} {k i j : Int} {A B : Nat} {cm : CmpOp} {o : Int} (hd : decode c.code pc = .ok (.ifCond .eq o, 3)) (hp : pc + 3 = q) (ho : 0 ≤ (pc : Int) + o) (hq : ((pc : Int) + o).toNat = q') (hA : DB k A i x) (hB : DB k B j y) (KY : i = j → Go p e below s Q ce sl T (mkF m q' ls st)) (KN : ¬ i = j → Go p e below s Q ce sl T (mkF m q ls st)) : Go p e below s Q ce sl T (mkF m pc ls (.int (cmpValue (FP.dcmp x y) cm) :: st)) :=
  go_if_eq X hx hd hp ho hq (fun w => KY ((db_eq hA hB _).mp w)) (fun w => KN (fun z => w ((db_eq hA hB _).mpr z)))
theorem go_dif_ne (X : Stand p l e R s m args below meth c T locs cells slots) (hx : p.tables.exec = Jvm.exec) {x y : UInt64} {k i j : Int} {A B : Nat} {cm : CmpOp} {o : Int} (hd : decode c.code pc = .ok (.ifCond .ne o, 3)) (hp : pc + 3 = q) (ho : 0 ≤ (pc : Int) + o) (hq : ((pc : Int) + o).toNat = q') (hA : DB k A i x) (hB : DB k B j y) (KY : ¬ i = j → Go p e below s Q ce sl T (mkF m q' ls st)) (KN : i = j → Go p e below s Q ce sl T (mkF m q ls st)) : Go p e below s Q ce sl T (mkF m pc ls (.int (cmpValue (FP.dcmp x y) cm) :: st)) :=
  go_if_ne X hx hd hp ho hq (fun w => KY (fun z => w ((db_eq hA hB _).mpr z))) (fun w => KN ((db_eq hA hB _).mp w))
end OwnFloatGo

theorem own_i2s (y : Int32) : (y.toInt16.toInt32).toInt.natAbs ≤ 32768 := by have := c_i2s y; omega
theorem own_z (k : Int) : DB k 0 0 0 := ⟨by rw [show FP.Core.val64 0 = .fin false 0 (-1074) by decide +kernel]; exact dy_mk (by simp) rfl, by decide⟩
theorem own_two : DB 1 1 1 4611686018427387904 := ⟨by rw [show FP.Core.val64 4611686018427387904 = .fin false (2 ^ 52) (-51) by decide +kernel]; exact dy_mk (by decide +kernel) rfl, by decide⟩
theorem own_n (y : Int32) : (y &&& (7 : Int32)) % (7 : Int32) = 0 ∨ (y &&& (7 : Int32)) % (7 : Int32) = 1 ∨ (y &&& (7 : Int32)) % (7 : Int32) = 2 ∨ (y &&& (7 : Int32)) % (7 : Int32) = 3 ∨ (y &&& (7 : Int32)) % (7 : Int32) = 4 ∨ (y &&& (7 : Int32)) % (7 : Int32) = 5 ∨ (y &&& (7 : Int32)) % (7 : Int32) = 6 := by
  have h1 := c_and y 7 (by decide); have h2 := (c_irem (y &&& 7) 7 7 rfl).1 h1.1
  simp only [← Int32.toInt_inj]
  show ((y &&& 7) % 7).toInt = 0 ∨ ((y &&& 7) % 7).toInt = 1 ∨ ((y &&& 7) % 7).toInt = 2 ∨ ((y &&& 7) % 7).toInt = 3 ∨ ((y &&& 7) % 7).toInt = 4 ∨ ((y &&& 7) % 7).toInt = 5 ∨ ((y &&& 7) % 7).toInt = 6
  omega
theorem own_t (y : Int32) : 0 ≤ (y &&& (31 : Int32)).toInt ∧ (y &&& (31 : Int32)).toInt ≤ 31 := c_and y 31 (by decide)
theorem own_pwb {p : Int} (h : p ≤ 31) : 0 < (2 : Int) ^ p.toNat ∧ (2 : Int) ^ p.toNat ≤ 2147483648 := by
  have h1 : (2 : Nat) ^ p.toNat ≤ 2 ^ 31 := Nat.pow_le_pow_right (by decide) (by omega)
  have h2 : 0 < (2 : Nat) ^ p.toNat := Nat.two_pow_pos _
  have e : (2 : Int) ^ p.toNat = ((2 ^ p.toNat : Nat) : Int) := (Int.natCast_pow 2 _).symm
  rw [e]; omega
theorem own_pw {p : Int32} (h : 0 ≤ p.toInt ∧ p.toInt ≤ 31) : ((1 : Int64) <<< (p &&& 0x3f).toInt64).toInt = 2 ^ p.toInt.toNat := by
  have hb : p.toBitVec.toNat % 64 = p.toInt.toNat := by
    have : p.toInt = p.toBitVec.toInt := rfl
    rw [this, BitVec.toInt_eq_toNat_cond] at h ⊢
    have := p.toBitVec.isLt
    split at h <;> split <;> omega
  have h1 := c_lshl 1 p p.toInt.toNat hb
  have h2 := own_pwb h.2
  have h3 := rng64 ((1 : Int64) <<< (p &&& 0x3f).toInt64)
  have e1 : (1 : Int64).toInt = 1 := rfl
  have e : (2 : Int) ^ p.toInt.toNat = ((2 ^ p.toInt.toNat : Nat) : Int) := (Int.natCast_pow 2 _).symm
  rw [e1, Int.one_mul, ← e] at h1
  omega
section OwnPow
open Jvm.FP Jvm.FP.Core
theorem own_l2p {w : Int64} {p : Int32} (hw : w.toInt = 2 ^ p.toInt.toNat) (hp : 0 ≤ p.toInt ∧ p.toInt ≤ 31) : Dy p.toInt 1 (val64 (FP.l2d w)) := by
  show Dy p.toInt 1 (val64 (Core.l2d w))
  rw [val64_l2d]
  refine dy_round ?_ (by decide) (by omega) (by omega)
  have hb := own_pwb hp.2
  show Dy p.toInt 1 (.fin (decide (w.toInt < 0)) w.toInt.natAbs 0)
  rw [show decide (w.toInt < 0) = false by rw [decide_eq_false_iff_not]; omega]
  refine dy_mk ?_ rfl
  rw [hw, Int.natAbs_pow, show (0 - p.toInt).toNat = 0 by omega, show (p.toInt - 0).toNat = p.toInt.toNat by omega, Nat.pow_zero, Nat.mul_one]
  exact (Nat.one_mul _).symm
theorem own_inv {w : Int64} {p : Int32} (hw : w.toInt = 2 ^ p.toInt.toNat) (hp : 0 ≤ p.toInt ∧ p.toInt ≤ 31) : Dy (0 - p.toInt) 1 (val64 (FP.ddiv 4607182418800017408 (FP.l2d w))) ∧ Jvm.Free.Fl.NoNaN64 (FP.ddiv 4607182418800017408 (FP.l2d w)) := by
  have h : Dy (0 - p.toInt) 1 (val64 (FP.ddiv 4607182418800017408 (FP.l2d w))) := by
    show Dy (0 - p.toInt) 1 (val64 (Core.ddiv 4607182418800017408 (FP.l2d w)))
    rw [val64_ddiv]; exact dy_quotient db_c1.1 (own_l2p hw hp) (by decide) (by decide) (by decide) (by omega) (by omega)
  exact ⟨h, Jvm.Free.Fl.val64_no.mpr (by obtain ⟨s, c, q, e⟩ := dy_fin h; show val64 _ ≠ _; rw [e]; exact fun z => by cases z)⟩
end OwnPow
theorem own_cr {a b c d : Int32} (ha : a.toInt.natAbs ≤ 32768) (hb : b.toInt.natAbs ≤ 32768) (hc : c.toInt.natAbs ≤ 32768) (hd : d.toInt.natAbs ≤ 32768) : (a.toInt64 * b.toInt64 - c.toInt64 * d.toInt64).toInt = a.toInt * b.toInt - c.toInt * d.toInt ∧ (a.toInt * b.toInt - c.toInt * d.toInt).natAbs ≤ 2147483648 := by
  have m1 : (a.toInt * b.toInt).natAbs ≤ 32768 * 32768 := by rw [Int.natAbs_mul]; exact Nat.mul_le_mul ha hb
  have m2 : (c.toInt * d.toInt).natAbs ≤ 32768 * 32768 := by rw [Int.natAbs_mul]; exact Nat.mul_le_mul hc hd
  have e1 := c_lmul a.toInt64 b.toInt64; have r1 := rng64 (a.toInt64 * b.toInt64); have e2 := c_lmul c.toInt64 d.toInt64; have r2 := rng64 (c.toInt64 * d.toInt64)
  have e4 := c_lsub (a.toInt64 * b.toInt64) (c.toInt64 * d.toInt64); have r4 := rng64 (a.toInt64 * b.toInt64 - c.toInt64 * d.toInt64)
  rw [c_i2l, c_i2l] at e1 e2
  omega
theorem own_add {a b : Int64} {A B : Int} {N M : Nat} (ha : a.toInt = A ∧ A.natAbs ≤ N) (hb : b.toInt = B ∧ B.natAbs ≤ M) (hN : N + M ≤ 1000000000000) : (a + b).toInt = A + B ∧ (A + B).natAbs ≤ N + M := by
  have e1 := c_ladd a b; have r1 := rng64 (a + b)
  omega

theorem pd_0 : parseMethodDescriptor "(JI)I" = some ⟨[.long, .int], some .int⟩ := by decide +kernel
theorem pd_1 : parseMethodDescriptor "([D[DI)D" = some ⟨[(.array .double), (.array .double), .int], some .double⟩ := by decide +kernel
theorem pd_2 : parseMethodDescriptor "([I[III)J" = some ⟨[(.array .int), (.array .int), .int, .int], some .long⟩ := by decide +kernel
theorem d1_0 : decode method_3_code 0 = .ok (.lload_n 0, 1) := by decide +kernel
theorem d1_1 : decode method_3_code 1 = .ok (.bipush 16, 2) := by decide +kernel
theorem d1_3 : decode method_3_code 3 = .ok (.iload_n 2, 1) := by decide +kernel
theorem d1_4 : decode method_3_code 4 = .ok (.imul, 1) := by decide +kernel
theorem d1_5 : decode method_3_code 5 = .ok (.lshr, 1) := by decide +kernel
theorem d1_6 : decode method_3_code 6 = .ok (.l2i, 1) := by decide +kernel
theorem d1_7 : decode method_3_code 7 = .ok (.i2s, 1) := by decide +kernel
theorem d1_8 : decode method_3_code 8 = .ok (.ireturn, 1) := by decide +kernel
theorem pn_1 : plainName "com/example/orbweave/orbweave/plane/ConvexShoelacePinLaw" = true := by first | (simp [plainName, overriddenIn]; done) | decide +kernel
theorem ef_1 (m : MethodId) (x0 : Int64) (x1 : Int32) : entryFrame m #[(.long x0), (.int x1)] 3 = mkF m 0 #[.val (.long x0), .second, .val (.int x1)] [] := by first | (simp [entryFrame, mkF, argsToLocals, Value.category]; done) | rfl
set_option maxRecDepth 65536 in
set_option maxHeartbeats 40000000 in
theorem rm1 (l : Launch) (Z : State) (a0 : Array Value) (hw : ∀ d ∈ tables_1, d.before a0 Z = true) (ws : List Jvm.Cond) (v_ : Int64) (j_ : Int32)  (h0 : Heap)  :
    Con l (⟨"com/example/orbweave/orbweave/plane/ConvexShoelacePinLaw", "part", "(JI)I"⟩ : MethodName) method_3_code 3 (some .int) ws ({ frames := 0, cells := 0, slots := 0, locals := 0 } : Room) Z #[(.long v_), (.int j_)] h0 (fun v h L => (∀ n, Fr n L) ∧ (∃ r : Int32, v = some (.int r) ∧ r.toInt.natAbs ≤ 32768) ∧ h = h0) := by
  refine con_of (plainFor_of_name pn_1) ?_
  intro p e s m below meth c s₁ X0 hx hby hml hret hlk hown hnm hZ e0
  refine Go.cast (ef_1 m v_ j_) ?_
  refine go_lloadN (q := 1) X0 hx (hb hby d1_0) rfl rfl ?_
  refine go_bipush (q := 3) (v := (16 : Int32)) X0 hx (hb hby d1_1) rfl rfl ?_
  refine go_iloadN (q := 4) X0 hx (hb hby d1_3) rfl rfl ?_
  refine go_imul (q := 5) (v := ((16 : Int32) * j_)) X0 hx (hb hby d1_4) rfl rfl ?_
  refine go_lshr (q := 6) (v := (v_ >>> (((16 : Int32) * j_) &&& 0x3f).toInt64)) X0 hx (hb hby d1_5) rfl rfl ?_
  refine go_l2i (q := 7) (v := ((v_ >>> (((16 : Int32) * j_) &&& 0x3f).toInt64).toInt32)) X0 hx (hb hby d1_6) rfl rfl ?_
  refine go_i2s (q := 8) (v := (((v_ >>> (((16 : Int32) * j_) &&& 0x3f).toInt64).toInt32).toInt16.toInt32)) X0 hx (hb hby d1_7) rfl rfl ?_
  exact go_retI X0 hx hret hlk (hb hby d1_8) (by decide) (by decide) ⟨fun _ => Fr.nil _, ⟨_, rfl, own_i2s _⟩, e0⟩
theorem d3_0 : decode method_4_code 0 = .ok (.aload_n 0, 1) := by decide +kernel
theorem d3_1 : decode method_4_code 1 = .ok (.iload_n 2, 1) := by decide +kernel
theorem d3_2 : decode method_4_code 2 = .ok (.iaload, 1) := by decide +kernel
theorem d3_3 : decode method_4_code 3 = .ok (.i2l, 1) := by decide +kernel
theorem d3_4 : decode method_4_code 4 = .ok (.aload_n 1, 1) := by decide +kernel
theorem d3_5 : decode method_4_code 5 = .ok (.iload_n 3, 1) := by decide +kernel
theorem d3_6 : decode method_4_code 6 = .ok (.iaload, 1) := by decide +kernel
theorem d3_7 : decode method_4_code 7 = .ok (.i2l, 1) := by decide +kernel
theorem d3_8 : decode method_4_code 8 = .ok (.lmul, 1) := by decide +kernel
theorem d3_9 : decode method_4_code 9 = .ok (.aload_n 0, 1) := by decide +kernel
theorem d3_10 : decode method_4_code 10 = .ok (.iload_n 3, 1) := by decide +kernel
theorem d3_11 : decode method_4_code 11 = .ok (.iaload, 1) := by decide +kernel
theorem d3_12 : decode method_4_code 12 = .ok (.i2l, 1) := by decide +kernel
theorem d3_13 : decode method_4_code 13 = .ok (.aload_n 1, 1) := by decide +kernel
theorem d3_14 : decode method_4_code 14 = .ok (.iload_n 2, 1) := by decide +kernel
theorem d3_15 : decode method_4_code 15 = .ok (.iaload, 1) := by decide +kernel
theorem d3_16 : decode method_4_code 16 = .ok (.i2l, 1) := by decide +kernel
theorem d3_17 : decode method_4_code 17 = .ok (.lmul, 1) := by decide +kernel
theorem d3_18 : decode method_4_code 18 = .ok (.lsub, 1) := by decide +kernel
theorem d3_19 : decode method_4_code 19 = .ok (.lreturn, 1) := by decide +kernel
theorem pn_3 : plainName "com/example/orbweave/orbweave/plane/ConvexShoelacePinLaw" = true := by first | (simp [plainName, overriddenIn]; done) | decide +kernel
theorem ef_3 (m : MethodId) (x0 : Addr) (x1 : Addr) (x2 : Int32) (x3 : Int32) : entryFrame m #[(.ref x0), (.ref x1), (.int x2), (.int x3)] 4 = mkF m 0 #[.val (.ref x0), .val (.ref x1), .val (.int x2), .val (.int x3)] [] := by first | (simp [entryFrame, mkF, argsToLocals, Value.category]; done) | rfl
set_option maxRecDepth 65536 in
set_option maxHeartbeats 40000000 in
theorem rm3_01 (l : Launch) (Z : State) (a0 : Array Value) (hw : ∀ d ∈ tables_1, d.before a0 Z = true) (ws : List Jvm.Cond) (ax : Addr) (ay : Addr) (kx ky : ClassId) (dx dy : Value) (x0 y0 x1 y1 x2 y2 x3 y3 x4 y4 x5 y5 : Int32) (h0 : Heap) (V_ax : Arv Z h0 ax kx .int (6 : Int32) [.int x0, .int x1, .int x2, .int x3, .int x4, .int x5] dx) (V_ay : Arv Z h0 ay ky .int (6 : Int32) [.int y0, .int y1, .int y2, .int y3, .int y4, .int y5] dy) :
    Con l (⟨"com/example/orbweave/orbweave/plane/ConvexShoelacePinLaw", "cross", "([I[III)J"⟩ : MethodName) method_4_code 4 (some .long) ws ({ frames := 0, cells := 0, slots := 0, locals := 0 } : Room) Z #[(.ref ax), (.ref ay), (.int (0 : Int32)), (.int (1 : Int32))] h0 (fun v h L => (∀ n, Fr n L) ∧ v = some (.long (x0.toInt64 * y1.toInt64 - x1.toInt64 * y0.toInt64)) ∧ h = h0) := by
  refine con_of (plainFor_of_name pn_3) ?_
  intro p e s m below meth c s₁ X0 hx hby hml hret hlk hown hnm hZ e0
  refine Go.cast (ef_3 m ax ay (0 : Int32) (1 : Int32)) ?_
  refine go_aloadN (q := 1) X0 hx (hb hby d3_0) rfl rfl rfl ?_
  refine go_iloadN (q := 2) X0 hx (hb hby d3_1) rfl rfl ?_
  refine go_iaload (q := 3) (v := (.int x0)) X0 hx hZ e0 V_ax ⟨by decide, by decide⟩ rfl (hb hby d3_2) rfl ?_
  refine go_i2l (q := 4) (v := (x0.toInt64)) X0 hx (hb hby d3_3) rfl rfl ?_
  refine go_aloadN (q := 5) X0 hx (hb hby d3_4) rfl rfl rfl ?_
  refine go_iloadN (q := 6) X0 hx (hb hby d3_5) rfl rfl ?_
  refine go_iaload (q := 7) (v := (.int y1)) X0 hx hZ e0 V_ay ⟨by decide, by decide⟩ rfl (hb hby d3_6) rfl ?_
  refine go_i2l (q := 8) (v := (y1.toInt64)) X0 hx (hb hby d3_7) rfl rfl ?_
  refine go_lmul (q := 9) (v := ((x0.toInt64) * (y1.toInt64))) X0 hx (hb hby d3_8) rfl rfl ?_
  refine go_aloadN (q := 10) X0 hx (hb hby d3_9) rfl rfl rfl ?_
  refine go_iloadN (q := 11) X0 hx (hb hby d3_10) rfl rfl ?_
  refine go_iaload (q := 12) (v := (.int x1)) X0 hx hZ e0 V_ax ⟨by decide, by decide⟩ rfl (hb hby d3_11) rfl ?_
  refine go_i2l (q := 13) (v := (x1.toInt64)) X0 hx (hb hby d3_12) rfl rfl ?_
  refine go_aloadN (q := 14) X0 hx (hb hby d3_13) rfl rfl rfl ?_
  refine go_iloadN (q := 15) X0 hx (hb hby d3_14) rfl rfl ?_
  refine go_iaload (q := 16) (v := (.int y0)) X0 hx hZ e0 V_ay ⟨by decide, by decide⟩ rfl (hb hby d3_15) rfl ?_
  refine go_i2l (q := 17) (v := (y0.toInt64)) X0 hx (hb hby d3_16) rfl rfl ?_
  refine go_lmul (q := 18) (v := ((x1.toInt64) * (y0.toInt64))) X0 hx (hb hby d3_17) rfl rfl ?_
  refine go_lsub (q := 19) (v := (((x0.toInt64) * (y1.toInt64)) - ((x1.toInt64) * (y0.toInt64)))) X0 hx (hb hby d3_18) rfl rfl ?_
  exact go_retJ X0 hx hret hlk (hb hby d3_19) (by decide) (by decide) ⟨fun _ => Fr.nil _, rfl, e0⟩
set_option maxRecDepth 65536 in
set_option maxHeartbeats 40000000 in
theorem rm3_12 (l : Launch) (Z : State) (a0 : Array Value) (hw : ∀ d ∈ tables_1, d.before a0 Z = true) (ws : List Jvm.Cond) (ax : Addr) (ay : Addr) (kx ky : ClassId) (dx dy : Value) (x0 y0 x1 y1 x2 y2 x3 y3 x4 y4 x5 y5 : Int32) (h0 : Heap) (V_ax : Arv Z h0 ax kx .int (6 : Int32) [.int x0, .int x1, .int x2, .int x3, .int x4, .int x5] dx) (V_ay : Arv Z h0 ay ky .int (6 : Int32) [.int y0, .int y1, .int y2, .int y3, .int y4, .int y5] dy) :
    Con l (⟨"com/example/orbweave/orbweave/plane/ConvexShoelacePinLaw", "cross", "([I[III)J"⟩ : MethodName) method_4_code 4 (some .long) ws ({ frames := 0, cells := 0, slots := 0, locals := 0 } : Room) Z #[(.ref ax), (.ref ay), (.int (1 : Int32)), (.int (2 : Int32))] h0 (fun v h L => (∀ n, Fr n L) ∧ v = some (.long (x1.toInt64 * y2.toInt64 - x2.toInt64 * y1.toInt64)) ∧ h = h0) := by
  refine con_of (plainFor_of_name pn_3) ?_
  intro p e s m below meth c s₁ X0 hx hby hml hret hlk hown hnm hZ e0
  refine Go.cast (ef_3 m ax ay (1 : Int32) (2 : Int32)) ?_
  refine go_aloadN (q := 1) X0 hx (hb hby d3_0) rfl rfl rfl ?_
  refine go_iloadN (q := 2) X0 hx (hb hby d3_1) rfl rfl ?_
  refine go_iaload (q := 3) (v := (.int x1)) X0 hx hZ e0 V_ax ⟨by decide, by decide⟩ rfl (hb hby d3_2) rfl ?_
  refine go_i2l (q := 4) (v := (x1.toInt64)) X0 hx (hb hby d3_3) rfl rfl ?_
  refine go_aloadN (q := 5) X0 hx (hb hby d3_4) rfl rfl rfl ?_
  refine go_iloadN (q := 6) X0 hx (hb hby d3_5) rfl rfl ?_
  refine go_iaload (q := 7) (v := (.int y2)) X0 hx hZ e0 V_ay ⟨by decide, by decide⟩ rfl (hb hby d3_6) rfl ?_
  refine go_i2l (q := 8) (v := (y2.toInt64)) X0 hx (hb hby d3_7) rfl rfl ?_
  refine go_lmul (q := 9) (v := ((x1.toInt64) * (y2.toInt64))) X0 hx (hb hby d3_8) rfl rfl ?_
  refine go_aloadN (q := 10) X0 hx (hb hby d3_9) rfl rfl rfl ?_
  refine go_iloadN (q := 11) X0 hx (hb hby d3_10) rfl rfl ?_
  refine go_iaload (q := 12) (v := (.int x2)) X0 hx hZ e0 V_ax ⟨by decide, by decide⟩ rfl (hb hby d3_11) rfl ?_
  refine go_i2l (q := 13) (v := (x2.toInt64)) X0 hx (hb hby d3_12) rfl rfl ?_
  refine go_aloadN (q := 14) X0 hx (hb hby d3_13) rfl rfl rfl ?_
  refine go_iloadN (q := 15) X0 hx (hb hby d3_14) rfl rfl ?_
  refine go_iaload (q := 16) (v := (.int y1)) X0 hx hZ e0 V_ay ⟨by decide, by decide⟩ rfl (hb hby d3_15) rfl ?_
  refine go_i2l (q := 17) (v := (y1.toInt64)) X0 hx (hb hby d3_16) rfl rfl ?_
  refine go_lmul (q := 18) (v := ((x2.toInt64) * (y1.toInt64))) X0 hx (hb hby d3_17) rfl rfl ?_
  refine go_lsub (q := 19) (v := (((x1.toInt64) * (y2.toInt64)) - ((x2.toInt64) * (y1.toInt64)))) X0 hx (hb hby d3_18) rfl rfl ?_
  exact go_retJ X0 hx hret hlk (hb hby d3_19) (by decide) (by decide) ⟨fun _ => Fr.nil _, rfl, e0⟩
set_option maxRecDepth 65536 in
set_option maxHeartbeats 40000000 in
theorem rm3_23 (l : Launch) (Z : State) (a0 : Array Value) (hw : ∀ d ∈ tables_1, d.before a0 Z = true) (ws : List Jvm.Cond) (ax : Addr) (ay : Addr) (kx ky : ClassId) (dx dy : Value) (x0 y0 x1 y1 x2 y2 x3 y3 x4 y4 x5 y5 : Int32) (h0 : Heap) (V_ax : Arv Z h0 ax kx .int (6 : Int32) [.int x0, .int x1, .int x2, .int x3, .int x4, .int x5] dx) (V_ay : Arv Z h0 ay ky .int (6 : Int32) [.int y0, .int y1, .int y2, .int y3, .int y4, .int y5] dy) :
    Con l (⟨"com/example/orbweave/orbweave/plane/ConvexShoelacePinLaw", "cross", "([I[III)J"⟩ : MethodName) method_4_code 4 (some .long) ws ({ frames := 0, cells := 0, slots := 0, locals := 0 } : Room) Z #[(.ref ax), (.ref ay), (.int (2 : Int32)), (.int (3 : Int32))] h0 (fun v h L => (∀ n, Fr n L) ∧ v = some (.long (x2.toInt64 * y3.toInt64 - x3.toInt64 * y2.toInt64)) ∧ h = h0) := by
  refine con_of (plainFor_of_name pn_3) ?_
  intro p e s m below meth c s₁ X0 hx hby hml hret hlk hown hnm hZ e0
  refine Go.cast (ef_3 m ax ay (2 : Int32) (3 : Int32)) ?_
  refine go_aloadN (q := 1) X0 hx (hb hby d3_0) rfl rfl rfl ?_
  refine go_iloadN (q := 2) X0 hx (hb hby d3_1) rfl rfl ?_
  refine go_iaload (q := 3) (v := (.int x2)) X0 hx hZ e0 V_ax ⟨by decide, by decide⟩ rfl (hb hby d3_2) rfl ?_
  refine go_i2l (q := 4) (v := (x2.toInt64)) X0 hx (hb hby d3_3) rfl rfl ?_
  refine go_aloadN (q := 5) X0 hx (hb hby d3_4) rfl rfl rfl ?_
  refine go_iloadN (q := 6) X0 hx (hb hby d3_5) rfl rfl ?_
  refine go_iaload (q := 7) (v := (.int y3)) X0 hx hZ e0 V_ay ⟨by decide, by decide⟩ rfl (hb hby d3_6) rfl ?_
  refine go_i2l (q := 8) (v := (y3.toInt64)) X0 hx (hb hby d3_7) rfl rfl ?_
  refine go_lmul (q := 9) (v := ((x2.toInt64) * (y3.toInt64))) X0 hx (hb hby d3_8) rfl rfl ?_
  refine go_aloadN (q := 10) X0 hx (hb hby d3_9) rfl rfl rfl ?_
  refine go_iloadN (q := 11) X0 hx (hb hby d3_10) rfl rfl ?_
  refine go_iaload (q := 12) (v := (.int x3)) X0 hx hZ e0 V_ax ⟨by decide, by decide⟩ rfl (hb hby d3_11) rfl ?_
  refine go_i2l (q := 13) (v := (x3.toInt64)) X0 hx (hb hby d3_12) rfl rfl ?_
  refine go_aloadN (q := 14) X0 hx (hb hby d3_13) rfl rfl rfl ?_
  refine go_iloadN (q := 15) X0 hx (hb hby d3_14) rfl rfl ?_
  refine go_iaload (q := 16) (v := (.int y2)) X0 hx hZ e0 V_ay ⟨by decide, by decide⟩ rfl (hb hby d3_15) rfl ?_
  refine go_i2l (q := 17) (v := (y2.toInt64)) X0 hx (hb hby d3_16) rfl rfl ?_
  refine go_lmul (q := 18) (v := ((x3.toInt64) * (y2.toInt64))) X0 hx (hb hby d3_17) rfl rfl ?_
  refine go_lsub (q := 19) (v := (((x2.toInt64) * (y3.toInt64)) - ((x3.toInt64) * (y2.toInt64)))) X0 hx (hb hby d3_18) rfl rfl ?_
  exact go_retJ X0 hx hret hlk (hb hby d3_19) (by decide) (by decide) ⟨fun _ => Fr.nil _, rfl, e0⟩
set_option maxRecDepth 65536 in
set_option maxHeartbeats 40000000 in
theorem rm3_34 (l : Launch) (Z : State) (a0 : Array Value) (hw : ∀ d ∈ tables_1, d.before a0 Z = true) (ws : List Jvm.Cond) (ax : Addr) (ay : Addr) (kx ky : ClassId) (dx dy : Value) (x0 y0 x1 y1 x2 y2 x3 y3 x4 y4 x5 y5 : Int32) (h0 : Heap) (V_ax : Arv Z h0 ax kx .int (6 : Int32) [.int x0, .int x1, .int x2, .int x3, .int x4, .int x5] dx) (V_ay : Arv Z h0 ay ky .int (6 : Int32) [.int y0, .int y1, .int y2, .int y3, .int y4, .int y5] dy) :
    Con l (⟨"com/example/orbweave/orbweave/plane/ConvexShoelacePinLaw", "cross", "([I[III)J"⟩ : MethodName) method_4_code 4 (some .long) ws ({ frames := 0, cells := 0, slots := 0, locals := 0 } : Room) Z #[(.ref ax), (.ref ay), (.int (3 : Int32)), (.int (4 : Int32))] h0 (fun v h L => (∀ n, Fr n L) ∧ v = some (.long (x3.toInt64 * y4.toInt64 - x4.toInt64 * y3.toInt64)) ∧ h = h0) := by
  refine con_of (plainFor_of_name pn_3) ?_
  intro p e s m below meth c s₁ X0 hx hby hml hret hlk hown hnm hZ e0
  refine Go.cast (ef_3 m ax ay (3 : Int32) (4 : Int32)) ?_
  refine go_aloadN (q := 1) X0 hx (hb hby d3_0) rfl rfl rfl ?_
  refine go_iloadN (q := 2) X0 hx (hb hby d3_1) rfl rfl ?_
  refine go_iaload (q := 3) (v := (.int x3)) X0 hx hZ e0 V_ax ⟨by decide, by decide⟩ rfl (hb hby d3_2) rfl ?_
  refine go_i2l (q := 4) (v := (x3.toInt64)) X0 hx (hb hby d3_3) rfl rfl ?_
  refine go_aloadN (q := 5) X0 hx (hb hby d3_4) rfl rfl rfl ?_
  refine go_iloadN (q := 6) X0 hx (hb hby d3_5) rfl rfl ?_
  refine go_iaload (q := 7) (v := (.int y4)) X0 hx hZ e0 V_ay ⟨by decide, by decide⟩ rfl (hb hby d3_6) rfl ?_
  refine go_i2l (q := 8) (v := (y4.toInt64)) X0 hx (hb hby d3_7) rfl rfl ?_
  refine go_lmul (q := 9) (v := ((x3.toInt64) * (y4.toInt64))) X0 hx (hb hby d3_8) rfl rfl ?_
  refine go_aloadN (q := 10) X0 hx (hb hby d3_9) rfl rfl rfl ?_
  refine go_iloadN (q := 11) X0 hx (hb hby d3_10) rfl rfl ?_
  refine go_iaload (q := 12) (v := (.int x4)) X0 hx hZ e0 V_ax ⟨by decide, by decide⟩ rfl (hb hby d3_11) rfl ?_
  refine go_i2l (q := 13) (v := (x4.toInt64)) X0 hx (hb hby d3_12) rfl rfl ?_
  refine go_aloadN (q := 14) X0 hx (hb hby d3_13) rfl rfl rfl ?_
  refine go_iloadN (q := 15) X0 hx (hb hby d3_14) rfl rfl ?_
  refine go_iaload (q := 16) (v := (.int y3)) X0 hx hZ e0 V_ay ⟨by decide, by decide⟩ rfl (hb hby d3_15) rfl ?_
  refine go_i2l (q := 17) (v := (y3.toInt64)) X0 hx (hb hby d3_16) rfl rfl ?_
  refine go_lmul (q := 18) (v := ((x4.toInt64) * (y3.toInt64))) X0 hx (hb hby d3_17) rfl rfl ?_
  refine go_lsub (q := 19) (v := (((x3.toInt64) * (y4.toInt64)) - ((x4.toInt64) * (y3.toInt64)))) X0 hx (hb hby d3_18) rfl rfl ?_
  exact go_retJ X0 hx hret hlk (hb hby d3_19) (by decide) (by decide) ⟨fun _ => Fr.nil _, rfl, e0⟩
set_option maxRecDepth 65536 in
set_option maxHeartbeats 40000000 in
theorem rm3_45 (l : Launch) (Z : State) (a0 : Array Value) (hw : ∀ d ∈ tables_1, d.before a0 Z = true) (ws : List Jvm.Cond) (ax : Addr) (ay : Addr) (kx ky : ClassId) (dx dy : Value) (x0 y0 x1 y1 x2 y2 x3 y3 x4 y4 x5 y5 : Int32) (h0 : Heap) (V_ax : Arv Z h0 ax kx .int (6 : Int32) [.int x0, .int x1, .int x2, .int x3, .int x4, .int x5] dx) (V_ay : Arv Z h0 ay ky .int (6 : Int32) [.int y0, .int y1, .int y2, .int y3, .int y4, .int y5] dy) :
    Con l (⟨"com/example/orbweave/orbweave/plane/ConvexShoelacePinLaw", "cross", "([I[III)J"⟩ : MethodName) method_4_code 4 (some .long) ws ({ frames := 0, cells := 0, slots := 0, locals := 0 } : Room) Z #[(.ref ax), (.ref ay), (.int (4 : Int32)), (.int (5 : Int32))] h0 (fun v h L => (∀ n, Fr n L) ∧ v = some (.long (x4.toInt64 * y5.toInt64 - x5.toInt64 * y4.toInt64)) ∧ h = h0) := by
  refine con_of (plainFor_of_name pn_3) ?_
  intro p e s m below meth c s₁ X0 hx hby hml hret hlk hown hnm hZ e0
  refine Go.cast (ef_3 m ax ay (4 : Int32) (5 : Int32)) ?_
  refine go_aloadN (q := 1) X0 hx (hb hby d3_0) rfl rfl rfl ?_
  refine go_iloadN (q := 2) X0 hx (hb hby d3_1) rfl rfl ?_
  refine go_iaload (q := 3) (v := (.int x4)) X0 hx hZ e0 V_ax ⟨by decide, by decide⟩ rfl (hb hby d3_2) rfl ?_
  refine go_i2l (q := 4) (v := (x4.toInt64)) X0 hx (hb hby d3_3) rfl rfl ?_
  refine go_aloadN (q := 5) X0 hx (hb hby d3_4) rfl rfl rfl ?_
  refine go_iloadN (q := 6) X0 hx (hb hby d3_5) rfl rfl ?_
  refine go_iaload (q := 7) (v := (.int y5)) X0 hx hZ e0 V_ay ⟨by decide, by decide⟩ rfl (hb hby d3_6) rfl ?_
  refine go_i2l (q := 8) (v := (y5.toInt64)) X0 hx (hb hby d3_7) rfl rfl ?_
  refine go_lmul (q := 9) (v := ((x4.toInt64) * (y5.toInt64))) X0 hx (hb hby d3_8) rfl rfl ?_
  refine go_aloadN (q := 10) X0 hx (hb hby d3_9) rfl rfl rfl ?_
  refine go_iloadN (q := 11) X0 hx (hb hby d3_10) rfl rfl ?_
  refine go_iaload (q := 12) (v := (.int x5)) X0 hx hZ e0 V_ax ⟨by decide, by decide⟩ rfl (hb hby d3_11) rfl ?_
  refine go_i2l (q := 13) (v := (x5.toInt64)) X0 hx (hb hby d3_12) rfl rfl ?_
  refine go_aloadN (q := 14) X0 hx (hb hby d3_13) rfl rfl rfl ?_
  refine go_iloadN (q := 15) X0 hx (hb hby d3_14) rfl rfl ?_
  refine go_iaload (q := 16) (v := (.int y4)) X0 hx hZ e0 V_ay ⟨by decide, by decide⟩ rfl (hb hby d3_15) rfl ?_
  refine go_i2l (q := 17) (v := (y4.toInt64)) X0 hx (hb hby d3_16) rfl rfl ?_
  refine go_lmul (q := 18) (v := ((x5.toInt64) * (y4.toInt64))) X0 hx (hb hby d3_17) rfl rfl ?_
  refine go_lsub (q := 19) (v := (((x4.toInt64) * (y5.toInt64)) - ((x5.toInt64) * (y4.toInt64)))) X0 hx (hb hby d3_18) rfl rfl ?_
  exact go_retJ X0 hx hret hlk (hb hby d3_19) (by decide) (by decide) ⟨fun _ => Fr.nil _, rfl, e0⟩
set_option maxRecDepth 65536 in
set_option maxHeartbeats 40000000 in
theorem rm3_20 (l : Launch) (Z : State) (a0 : Array Value) (hw : ∀ d ∈ tables_1, d.before a0 Z = true) (ws : List Jvm.Cond) (ax : Addr) (ay : Addr) (kx ky : ClassId) (dx dy : Value) (x0 y0 x1 y1 x2 y2 x3 y3 x4 y4 x5 y5 : Int32) (h0 : Heap) (V_ax : Arv Z h0 ax kx .int (6 : Int32) [.int x0, .int x1, .int x2, .int x3, .int x4, .int x5] dx) (V_ay : Arv Z h0 ay ky .int (6 : Int32) [.int y0, .int y1, .int y2, .int y3, .int y4, .int y5] dy) :
    Con l (⟨"com/example/orbweave/orbweave/plane/ConvexShoelacePinLaw", "cross", "([I[III)J"⟩ : MethodName) method_4_code 4 (some .long) ws ({ frames := 0, cells := 0, slots := 0, locals := 0 } : Room) Z #[(.ref ax), (.ref ay), (.int (2 : Int32)), (.int (0 : Int32))] h0 (fun v h L => (∀ n, Fr n L) ∧ v = some (.long (x2.toInt64 * y0.toInt64 - x0.toInt64 * y2.toInt64)) ∧ h = h0) := by
  refine con_of (plainFor_of_name pn_3) ?_
  intro p e s m below meth c s₁ X0 hx hby hml hret hlk hown hnm hZ e0
  refine Go.cast (ef_3 m ax ay (2 : Int32) (0 : Int32)) ?_
  refine go_aloadN (q := 1) X0 hx (hb hby d3_0) rfl rfl rfl ?_
  refine go_iloadN (q := 2) X0 hx (hb hby d3_1) rfl rfl ?_
  refine go_iaload (q := 3) (v := (.int x2)) X0 hx hZ e0 V_ax ⟨by decide, by decide⟩ rfl (hb hby d3_2) rfl ?_
  refine go_i2l (q := 4) (v := (x2.toInt64)) X0 hx (hb hby d3_3) rfl rfl ?_
  refine go_aloadN (q := 5) X0 hx (hb hby d3_4) rfl rfl rfl ?_
  refine go_iloadN (q := 6) X0 hx (hb hby d3_5) rfl rfl ?_
  refine go_iaload (q := 7) (v := (.int y0)) X0 hx hZ e0 V_ay ⟨by decide, by decide⟩ rfl (hb hby d3_6) rfl ?_
  refine go_i2l (q := 8) (v := (y0.toInt64)) X0 hx (hb hby d3_7) rfl rfl ?_
  refine go_lmul (q := 9) (v := ((x2.toInt64) * (y0.toInt64))) X0 hx (hb hby d3_8) rfl rfl ?_
  refine go_aloadN (q := 10) X0 hx (hb hby d3_9) rfl rfl rfl ?_
  refine go_iloadN (q := 11) X0 hx (hb hby d3_10) rfl rfl ?_
  refine go_iaload (q := 12) (v := (.int x0)) X0 hx hZ e0 V_ax ⟨by decide, by decide⟩ rfl (hb hby d3_11) rfl ?_
  refine go_i2l (q := 13) (v := (x0.toInt64)) X0 hx (hb hby d3_12) rfl rfl ?_
  refine go_aloadN (q := 14) X0 hx (hb hby d3_13) rfl rfl rfl ?_
  refine go_iloadN (q := 15) X0 hx (hb hby d3_14) rfl rfl ?_
  refine go_iaload (q := 16) (v := (.int y2)) X0 hx hZ e0 V_ay ⟨by decide, by decide⟩ rfl (hb hby d3_15) rfl ?_
  refine go_i2l (q := 17) (v := (y2.toInt64)) X0 hx (hb hby d3_16) rfl rfl ?_
  refine go_lmul (q := 18) (v := ((x0.toInt64) * (y2.toInt64))) X0 hx (hb hby d3_17) rfl rfl ?_
  refine go_lsub (q := 19) (v := (((x2.toInt64) * (y0.toInt64)) - ((x0.toInt64) * (y2.toInt64)))) X0 hx (hb hby d3_18) rfl rfl ?_
  exact go_retJ X0 hx hret hlk (hb hby d3_19) (by decide) (by decide) ⟨fun _ => Fr.nil _, rfl, e0⟩
set_option maxRecDepth 65536 in
set_option maxHeartbeats 40000000 in
theorem rm3_30 (l : Launch) (Z : State) (a0 : Array Value) (hw : ∀ d ∈ tables_1, d.before a0 Z = true) (ws : List Jvm.Cond) (ax : Addr) (ay : Addr) (kx ky : ClassId) (dx dy : Value) (x0 y0 x1 y1 x2 y2 x3 y3 x4 y4 x5 y5 : Int32) (h0 : Heap) (V_ax : Arv Z h0 ax kx .int (6 : Int32) [.int x0, .int x1, .int x2, .int x3, .int x4, .int x5] dx) (V_ay : Arv Z h0 ay ky .int (6 : Int32) [.int y0, .int y1, .int y2, .int y3, .int y4, .int y5] dy) :
    Con l (⟨"com/example/orbweave/orbweave/plane/ConvexShoelacePinLaw", "cross", "([I[III)J"⟩ : MethodName) method_4_code 4 (some .long) ws ({ frames := 0, cells := 0, slots := 0, locals := 0 } : Room) Z #[(.ref ax), (.ref ay), (.int (3 : Int32)), (.int (0 : Int32))] h0 (fun v h L => (∀ n, Fr n L) ∧ v = some (.long (x3.toInt64 * y0.toInt64 - x0.toInt64 * y3.toInt64)) ∧ h = h0) := by
  refine con_of (plainFor_of_name pn_3) ?_
  intro p e s m below meth c s₁ X0 hx hby hml hret hlk hown hnm hZ e0
  refine Go.cast (ef_3 m ax ay (3 : Int32) (0 : Int32)) ?_
  refine go_aloadN (q := 1) X0 hx (hb hby d3_0) rfl rfl rfl ?_
  refine go_iloadN (q := 2) X0 hx (hb hby d3_1) rfl rfl ?_
  refine go_iaload (q := 3) (v := (.int x3)) X0 hx hZ e0 V_ax ⟨by decide, by decide⟩ rfl (hb hby d3_2) rfl ?_
  refine go_i2l (q := 4) (v := (x3.toInt64)) X0 hx (hb hby d3_3) rfl rfl ?_
  refine go_aloadN (q := 5) X0 hx (hb hby d3_4) rfl rfl rfl ?_
  refine go_iloadN (q := 6) X0 hx (hb hby d3_5) rfl rfl ?_
  refine go_iaload (q := 7) (v := (.int y0)) X0 hx hZ e0 V_ay ⟨by decide, by decide⟩ rfl (hb hby d3_6) rfl ?_
  refine go_i2l (q := 8) (v := (y0.toInt64)) X0 hx (hb hby d3_7) rfl rfl ?_
  refine go_lmul (q := 9) (v := ((x3.toInt64) * (y0.toInt64))) X0 hx (hb hby d3_8) rfl rfl ?_
  refine go_aloadN (q := 10) X0 hx (hb hby d3_9) rfl rfl rfl ?_
  refine go_iloadN (q := 11) X0 hx (hb hby d3_10) rfl rfl ?_
  refine go_iaload (q := 12) (v := (.int x0)) X0 hx hZ e0 V_ax ⟨by decide, by decide⟩ rfl (hb hby d3_11) rfl ?_
  refine go_i2l (q := 13) (v := (x0.toInt64)) X0 hx (hb hby d3_12) rfl rfl ?_
  refine go_aloadN (q := 14) X0 hx (hb hby d3_13) rfl rfl rfl ?_
  refine go_iloadN (q := 15) X0 hx (hb hby d3_14) rfl rfl ?_
  refine go_iaload (q := 16) (v := (.int y3)) X0 hx hZ e0 V_ay ⟨by decide, by decide⟩ rfl (hb hby d3_15) rfl ?_
  refine go_i2l (q := 17) (v := (y3.toInt64)) X0 hx (hb hby d3_16) rfl rfl ?_
  refine go_lmul (q := 18) (v := ((x0.toInt64) * (y3.toInt64))) X0 hx (hb hby d3_17) rfl rfl ?_
  refine go_lsub (q := 19) (v := (((x3.toInt64) * (y0.toInt64)) - ((x0.toInt64) * (y3.toInt64)))) X0 hx (hb hby d3_18) rfl rfl ?_
  exact go_retJ X0 hx hret hlk (hb hby d3_19) (by decide) (by decide) ⟨fun _ => Fr.nil _, rfl, e0⟩
set_option maxRecDepth 65536 in
set_option maxHeartbeats 40000000 in
theorem rm3_40 (l : Launch) (Z : State) (a0 : Array Value) (hw : ∀ d ∈ tables_1, d.before a0 Z = true) (ws : List Jvm.Cond) (ax : Addr) (ay : Addr) (kx ky : ClassId) (dx dy : Value) (x0 y0 x1 y1 x2 y2 x3 y3 x4 y4 x5 y5 : Int32) (h0 : Heap) (V_ax : Arv Z h0 ax kx .int (6 : Int32) [.int x0, .int x1, .int x2, .int x3, .int x4, .int x5] dx) (V_ay : Arv Z h0 ay ky .int (6 : Int32) [.int y0, .int y1, .int y2, .int y3, .int y4, .int y5] dy) :
    Con l (⟨"com/example/orbweave/orbweave/plane/ConvexShoelacePinLaw", "cross", "([I[III)J"⟩ : MethodName) method_4_code 4 (some .long) ws ({ frames := 0, cells := 0, slots := 0, locals := 0 } : Room) Z #[(.ref ax), (.ref ay), (.int (4 : Int32)), (.int (0 : Int32))] h0 (fun v h L => (∀ n, Fr n L) ∧ v = some (.long (x4.toInt64 * y0.toInt64 - x0.toInt64 * y4.toInt64)) ∧ h = h0) := by
  refine con_of (plainFor_of_name pn_3) ?_
  intro p e s m below meth c s₁ X0 hx hby hml hret hlk hown hnm hZ e0
  refine Go.cast (ef_3 m ax ay (4 : Int32) (0 : Int32)) ?_
  refine go_aloadN (q := 1) X0 hx (hb hby d3_0) rfl rfl rfl ?_
  refine go_iloadN (q := 2) X0 hx (hb hby d3_1) rfl rfl ?_
  refine go_iaload (q := 3) (v := (.int x4)) X0 hx hZ e0 V_ax ⟨by decide, by decide⟩ rfl (hb hby d3_2) rfl ?_
  refine go_i2l (q := 4) (v := (x4.toInt64)) X0 hx (hb hby d3_3) rfl rfl ?_
  refine go_aloadN (q := 5) X0 hx (hb hby d3_4) rfl rfl rfl ?_
  refine go_iloadN (q := 6) X0 hx (hb hby d3_5) rfl rfl ?_
  refine go_iaload (q := 7) (v := (.int y0)) X0 hx hZ e0 V_ay ⟨by decide, by decide⟩ rfl (hb hby d3_6) rfl ?_
  refine go_i2l (q := 8) (v := (y0.toInt64)) X0 hx (hb hby d3_7) rfl rfl ?_
  refine go_lmul (q := 9) (v := ((x4.toInt64) * (y0.toInt64))) X0 hx (hb hby d3_8) rfl rfl ?_
  refine go_aloadN (q := 10) X0 hx (hb hby d3_9) rfl rfl rfl ?_
  refine go_iloadN (q := 11) X0 hx (hb hby d3_10) rfl rfl ?_
  refine go_iaload (q := 12) (v := (.int x0)) X0 hx hZ e0 V_ax ⟨by decide, by decide⟩ rfl (hb hby d3_11) rfl ?_
  refine go_i2l (q := 13) (v := (x0.toInt64)) X0 hx (hb hby d3_12) rfl rfl ?_
  refine go_aloadN (q := 14) X0 hx (hb hby d3_13) rfl rfl rfl ?_
  refine go_iloadN (q := 15) X0 hx (hb hby d3_14) rfl rfl ?_
  refine go_iaload (q := 16) (v := (.int y4)) X0 hx hZ e0 V_ay ⟨by decide, by decide⟩ rfl (hb hby d3_15) rfl ?_
  refine go_i2l (q := 17) (v := (y4.toInt64)) X0 hx (hb hby d3_16) rfl rfl ?_
  refine go_lmul (q := 18) (v := ((x0.toInt64) * (y4.toInt64))) X0 hx (hb hby d3_17) rfl rfl ?_
  refine go_lsub (q := 19) (v := (((x4.toInt64) * (y0.toInt64)) - ((x0.toInt64) * (y4.toInt64)))) X0 hx (hb hby d3_18) rfl rfl ?_
  exact go_retJ X0 hx hret hlk (hb hby d3_19) (by decide) (by decide) ⟨fun _ => Fr.nil _, rfl, e0⟩
set_option maxRecDepth 65536 in
set_option maxHeartbeats 40000000 in
theorem rm3_50 (l : Launch) (Z : State) (a0 : Array Value) (hw : ∀ d ∈ tables_1, d.before a0 Z = true) (ws : List Jvm.Cond) (ax : Addr) (ay : Addr) (kx ky : ClassId) (dx dy : Value) (x0 y0 x1 y1 x2 y2 x3 y3 x4 y4 x5 y5 : Int32) (h0 : Heap) (V_ax : Arv Z h0 ax kx .int (6 : Int32) [.int x0, .int x1, .int x2, .int x3, .int x4, .int x5] dx) (V_ay : Arv Z h0 ay ky .int (6 : Int32) [.int y0, .int y1, .int y2, .int y3, .int y4, .int y5] dy) :
    Con l (⟨"com/example/orbweave/orbweave/plane/ConvexShoelacePinLaw", "cross", "([I[III)J"⟩ : MethodName) method_4_code 4 (some .long) ws ({ frames := 0, cells := 0, slots := 0, locals := 0 } : Room) Z #[(.ref ax), (.ref ay), (.int (5 : Int32)), (.int (0 : Int32))] h0 (fun v h L => (∀ n, Fr n L) ∧ v = some (.long (x5.toInt64 * y0.toInt64 - x0.toInt64 * y5.toInt64)) ∧ h = h0) := by
  refine con_of (plainFor_of_name pn_3) ?_
  intro p e s m below meth c s₁ X0 hx hby hml hret hlk hown hnm hZ e0
  refine Go.cast (ef_3 m ax ay (5 : Int32) (0 : Int32)) ?_
  refine go_aloadN (q := 1) X0 hx (hb hby d3_0) rfl rfl rfl ?_
  refine go_iloadN (q := 2) X0 hx (hb hby d3_1) rfl rfl ?_
  refine go_iaload (q := 3) (v := (.int x5)) X0 hx hZ e0 V_ax ⟨by decide, by decide⟩ rfl (hb hby d3_2) rfl ?_
  refine go_i2l (q := 4) (v := (x5.toInt64)) X0 hx (hb hby d3_3) rfl rfl ?_
  refine go_aloadN (q := 5) X0 hx (hb hby d3_4) rfl rfl rfl ?_
  refine go_iloadN (q := 6) X0 hx (hb hby d3_5) rfl rfl ?_
  refine go_iaload (q := 7) (v := (.int y0)) X0 hx hZ e0 V_ay ⟨by decide, by decide⟩ rfl (hb hby d3_6) rfl ?_
  refine go_i2l (q := 8) (v := (y0.toInt64)) X0 hx (hb hby d3_7) rfl rfl ?_
  refine go_lmul (q := 9) (v := ((x5.toInt64) * (y0.toInt64))) X0 hx (hb hby d3_8) rfl rfl ?_
  refine go_aloadN (q := 10) X0 hx (hb hby d3_9) rfl rfl rfl ?_
  refine go_iloadN (q := 11) X0 hx (hb hby d3_10) rfl rfl ?_
  refine go_iaload (q := 12) (v := (.int x0)) X0 hx hZ e0 V_ax ⟨by decide, by decide⟩ rfl (hb hby d3_11) rfl ?_
  refine go_i2l (q := 13) (v := (x0.toInt64)) X0 hx (hb hby d3_12) rfl rfl ?_
  refine go_aloadN (q := 14) X0 hx (hb hby d3_13) rfl rfl rfl ?_
  refine go_iloadN (q := 15) X0 hx (hb hby d3_14) rfl rfl ?_
  refine go_iaload (q := 16) (v := (.int y5)) X0 hx hZ e0 V_ay ⟨by decide, by decide⟩ rfl (hb hby d3_15) rfl ?_
  refine go_i2l (q := 17) (v := (y5.toInt64)) X0 hx (hb hby d3_16) rfl rfl ?_
  refine go_lmul (q := 18) (v := ((x0.toInt64) * (y5.toInt64))) X0 hx (hb hby d3_17) rfl rfl ?_
  refine go_lsub (q := 19) (v := (((x5.toInt64) * (y0.toInt64)) - ((x0.toInt64) * (y5.toInt64)))) X0 hx (hb hby d3_18) rfl rfl ?_
  exact go_retJ X0 hx hret hlk (hb hby d3_19) (by decide) (by decide) ⟨fun _ => Fr.nil _, rfl, e0⟩
theorem d2_0 : decode prog_12_method_11_code 0 = .ok (.dconst 0, 1) := by decide +kernel
theorem d2_1 : decode prog_12_method_11_code 1 = .ok (.dstore_n 3, 1) := by decide +kernel
theorem d2_2 : decode prog_12_method_11_code 2 = .ok (.iconst 1, 1) := by decide +kernel
theorem d2_3 : decode prog_12_method_11_code 3 = .ok (.istore 5, 2) := by decide +kernel
theorem d2_5 : decode prog_12_method_11_code 5 = .ok (.iload 5, 2) := by decide +kernel
theorem d2_7 : decode prog_12_method_11_code 7 = .ok (.iconst 1, 1) := by decide +kernel
theorem d2_8 : decode prog_12_method_11_code 8 = .ok (.iadd, 1) := by decide +kernel
theorem d2_9 : decode prog_12_method_11_code 9 = .ok (.iload_n 2, 1) := by decide +kernel
theorem d2_10 : decode prog_12_method_11_code 10 = .ok (.if_icmp .ge 51, 3) := by decide +kernel
theorem d2_61 : decode prog_12_method_11_code 61 = .ok (.dload_n 3, 1) := by decide +kernel
theorem d2_62 : decode prog_12_method_11_code 62 = .ok (.ldc2_w 134, 3) := by decide +kernel
theorem d2_65 : decode prog_12_method_11_code 65 = .ok (.ddiv, 1) := by decide +kernel
theorem d2_66 : decode prog_12_method_11_code 66 = .ok (.dreturn, 1) := by decide +kernel
theorem pn_2 : plainName "com/example/orbweave/orbweave/plane/Convex" = true := by first | (simp [plainName, overriddenIn]; done) | decide +kernel
theorem ef_2 (m : MethodId) (x0 : Addr) (x1 : Addr) (x2 : Int32) : entryFrame m #[(.ref x0), (.ref x1), (.int x2)] 6 = mkF m 0 #[.val (.ref x0), .val (.ref x1), .val (.int x2), .unset, .unset, .unset] [] := by first | (simp [entryFrame, mkF, argsToLocals, Value.category]; done) | rfl
set_option maxRecDepth 65536 in
set_option maxHeartbeats 40000000 in
theorem rm2_0 (l : Launch) (Z : State) (a0 : Array Value) (hw : ∀ d ∈ tables_1, d.before a0 Z = true) (ws : List Jvm.Cond) (ax : Addr) (ay : Addr) (kx ky : ClassId) (dx dy : Value) (u0 w0 u1 w1 u2 w2 u3 w3 u4 w4 u5 w5 : UInt64) (E m0 n0 m1 n1 m2 n2 m3 n3 m4 n4 m5 n5 : Int) (h0 : Heap) (V_ax : Arv Z h0 ax kx .double (6 : Int32) [.double u0, .double u1, .double u2, .double u3, .double u4, .double u5] dx) (V_ay : Arv Z h0 ay ky .double (6 : Int32) [.double w0, .double w1, .double w2, .double w3, .double w4, .double w5] dy) (hE : -31 ≤ E ∧ E ≤ 31) (Fu0 : DB E 32768 m0 u0) (Fw0 : DB E 32768 n0 w0) (Fu1 : DB E 32768 m1 u1) (Fw1 : DB E 32768 n1 w1) (Fu2 : DB E 32768 m2 u2) (Fw2 : DB E 32768 n2 w2) (Fu3 : DB E 32768 m3 u3) (Fw3 : DB E 32768 n3 w3) (Fu4 : DB E 32768 m4 u4) (Fw4 : DB E 32768 n4 w4) (Fu5 : DB E 32768 m5 u5) (Fw5 : DB E 32768 n5 w5) :
    Con l (⟨"com/example/orbweave/orbweave/plane/Convex", "shoelace", "([D[DI)D"⟩ : MethodName) prog_12_method_11_code 6 (some .double) ws ({ frames := 0, cells := 0, slots := 0, locals := 0 } : Room) Z #[(.ref ax), (.ref ay), (.int (0 : Int32))] h0 (fun v h L => (∀ n, Fr n L) ∧ (∃ r : UInt64, v = some (.double r) ∧ DB (E + E - 1) 0 0 r) ∧ h = h0) := by
  refine con_of (plainFor_of_name pn_2) ?_
  intro p e s m below meth c s₁ X0 hx hby hml hret hlk hown hnm hZ e0
  refine Go.cast (ef_2 m ax ay (0 : Int32)) ?_
  refine go_dconst0 (q := 1) (v := (0 : UInt64)) X0 hx (hb hby d2_0) rfl rfl ?_
  refine go_dstoreN (q := 2) (l' := #[.val (.ref ax), .val (.ref ay), .val (.int (0 : Int32)), .val (.double (0 : UInt64)), .second, .unset]) X0 hx (hb hby d2_1) rfl rfl ?_
  refine go_iconst (q := 3) (v := (1 : Int32)) X0 hx (hb hby d2_2) rfl rfl ?_
  refine go_istore (q := 5) (l' := #[.val (.ref ax), .val (.ref ay), .val (.int (0 : Int32)), .val (.double (0 : UInt64)), .second, .val (.int (1 : Int32))]) X0 hx (hb hby d2_3) rfl rfl ?_
  refine go_iload (q := 7) X0 hx (hb hby d2_5) rfl rfl ?_
  refine go_iconst (q := 8) (v := (1 : Int32)) X0 hx (hb hby d2_7) rfl rfl ?_
  refine go_iadd (q := 9) (v := (2 : Int32)) X0 hx (hb hby d2_8) rfl rfl ?_
  refine go_iloadN (q := 10) X0 hx (hb hby d2_9) rfl rfl ?_
  refine go_icmp_ge (q := 13) (q' := 61) X0 hx (hb hby d2_10) rfl (by decide) rfl (fun hc10 => ?_) (fun hc10 => ?_)
  · refine go_dloadN (q := 62) X0 hx (hb hby d2_61) rfl rfl ?_
    refine go_ldc2D (q := 65) (v := (4611686018427387904 : UInt64)) X0 hx hZ hown (hw _ (List.mem_of_getElem? (i := 10) rfl)) (hb hby d2_62) rfl ?_
    refine go_ddivB (q := 66) (kk := (E + E - 1)) (w0 := 0) X0 hx (hb hby d2_65) rfl (own_z (E + E)) own_two (by decide) (by omega) (by decide) (by omega) (by omega) (by omega) (fun z1 hz1 => ?_)
    exact go_retD X0 hx hret hlk (hb hby d2_66) (by decide) (by decide) ⟨fun _ => Fr.nil _, ⟨_, rfl, hz1⟩, e0⟩
  · exact absurd hc10 (by decide)
set_option maxRecDepth 65536 in
set_option maxHeartbeats 40000000 in
theorem rm2_1 (l : Launch) (Z : State) (a0 : Array Value) (hw : ∀ d ∈ tables_1, d.before a0 Z = true) (ws : List Jvm.Cond) (ax : Addr) (ay : Addr) (kx ky : ClassId) (dx dy : Value) (u0 w0 u1 w1 u2 w2 u3 w3 u4 w4 u5 w5 : UInt64) (E m0 n0 m1 n1 m2 n2 m3 n3 m4 n4 m5 n5 : Int) (h0 : Heap) (V_ax : Arv Z h0 ax kx .double (6 : Int32) [.double u0, .double u1, .double u2, .double u3, .double u4, .double u5] dx) (V_ay : Arv Z h0 ay ky .double (6 : Int32) [.double w0, .double w1, .double w2, .double w3, .double w4, .double w5] dy) (hE : -31 ≤ E ∧ E ≤ 31) (Fu0 : DB E 32768 m0 u0) (Fw0 : DB E 32768 n0 w0) (Fu1 : DB E 32768 m1 u1) (Fw1 : DB E 32768 n1 w1) (Fu2 : DB E 32768 m2 u2) (Fw2 : DB E 32768 n2 w2) (Fu3 : DB E 32768 m3 u3) (Fw3 : DB E 32768 n3 w3) (Fu4 : DB E 32768 m4 u4) (Fw4 : DB E 32768 n4 w4) (Fu5 : DB E 32768 m5 u5) (Fw5 : DB E 32768 n5 w5) :
    Con l (⟨"com/example/orbweave/orbweave/plane/Convex", "shoelace", "([D[DI)D"⟩ : MethodName) prog_12_method_11_code 6 (some .double) ws ({ frames := 0, cells := 0, slots := 0, locals := 0 } : Room) Z #[(.ref ax), (.ref ay), (.int (1 : Int32))] h0 (fun v h L => (∀ n, Fr n L) ∧ (∃ r : UInt64, v = some (.double r) ∧ DB (E + E - 1) 0 0 r) ∧ h = h0) := by
  refine con_of (plainFor_of_name pn_2) ?_
  intro p e s m below meth c s₁ X0 hx hby hml hret hlk hown hnm hZ e0
  refine Go.cast (ef_2 m ax ay (1 : Int32)) ?_
  refine go_dconst0 (q := 1) (v := (0 : UInt64)) X0 hx (hb hby d2_0) rfl rfl ?_
  refine go_dstoreN (q := 2) (l' := #[.val (.ref ax), .val (.ref ay), .val (.int (1 : Int32)), .val (.double (0 : UInt64)), .second, .unset]) X0 hx (hb hby d2_1) rfl rfl ?_
  refine go_iconst (q := 3) (v := (1 : Int32)) X0 hx (hb hby d2_2) rfl rfl ?_
  refine go_istore (q := 5) (l' := #[.val (.ref ax), .val (.ref ay), .val (.int (1 : Int32)), .val (.double (0 : UInt64)), .second, .val (.int (1 : Int32))]) X0 hx (hb hby d2_3) rfl rfl ?_
  refine go_iload (q := 7) X0 hx (hb hby d2_5) rfl rfl ?_
  refine go_iconst (q := 8) (v := (1 : Int32)) X0 hx (hb hby d2_7) rfl rfl ?_
  refine go_iadd (q := 9) (v := (2 : Int32)) X0 hx (hb hby d2_8) rfl rfl ?_
  refine go_iloadN (q := 10) X0 hx (hb hby d2_9) rfl rfl ?_
  refine go_icmp_ge (q := 13) (q' := 61) X0 hx (hb hby d2_10) rfl (by decide) rfl (fun hc10 => ?_) (fun hc10 => ?_)
  · refine go_dloadN (q := 62) X0 hx (hb hby d2_61) rfl rfl ?_
    refine go_ldc2D (q := 65) (v := (4611686018427387904 : UInt64)) X0 hx hZ hown (hw _ (List.mem_of_getElem? (i := 10) rfl)) (hb hby d2_62) rfl ?_
    refine go_ddivB (q := 66) (kk := (E + E - 1)) (w0 := 0) X0 hx (hb hby d2_65) rfl (own_z (E + E)) own_two (by decide) (by omega) (by decide) (by omega) (by omega) (by omega) (fun z1 hz1 => ?_)
    exact go_retD X0 hx hret hlk (hb hby d2_66) (by decide) (by decide) ⟨fun _ => Fr.nil _, ⟨_, rfl, hz1⟩, e0⟩
  · exact absurd hc10 (by decide)
set_option maxRecDepth 65536 in
set_option maxHeartbeats 40000000 in
theorem rm2_2 (l : Launch) (Z : State) (a0 : Array Value) (hw : ∀ d ∈ tables_1, d.before a0 Z = true) (ws : List Jvm.Cond) (ax : Addr) (ay : Addr) (kx ky : ClassId) (dx dy : Value) (u0 w0 u1 w1 u2 w2 u3 w3 u4 w4 u5 w5 : UInt64) (E m0 n0 m1 n1 m2 n2 m3 n3 m4 n4 m5 n5 : Int) (h0 : Heap) (V_ax : Arv Z h0 ax kx .double (6 : Int32) [.double u0, .double u1, .double u2, .double u3, .double u4, .double u5] dx) (V_ay : Arv Z h0 ay ky .double (6 : Int32) [.double w0, .double w1, .double w2, .double w3, .double w4, .double w5] dy) (hE : -31 ≤ E ∧ E ≤ 31) (Fu0 : DB E 32768 m0 u0) (Fw0 : DB E 32768 n0 w0) (Fu1 : DB E 32768 m1 u1) (Fw1 : DB E 32768 n1 w1) (Fu2 : DB E 32768 m2 u2) (Fw2 : DB E 32768 n2 w2) (Fu3 : DB E 32768 m3 u3) (Fw3 : DB E 32768 n3 w3) (Fu4 : DB E 32768 m4 u4) (Fw4 : DB E 32768 n4 w4) (Fu5 : DB E 32768 m5 u5) (Fw5 : DB E 32768 n5 w5) :
    Con l (⟨"com/example/orbweave/orbweave/plane/Convex", "shoelace", "([D[DI)D"⟩ : MethodName) prog_12_method_11_code 6 (some .double) ws ({ frames := 0, cells := 0, slots := 0, locals := 0 } : Room) Z #[(.ref ax), (.ref ay), (.int (2 : Int32))] h0 (fun v h L => (∀ n, Fr n L) ∧ (∃ r : UInt64, v = some (.double r) ∧ DB (E + E - 1) 0 0 r) ∧ h = h0) := by
  refine con_of (plainFor_of_name pn_2) ?_
  intro p e s m below meth c s₁ X0 hx hby hml hret hlk hown hnm hZ e0
  refine Go.cast (ef_2 m ax ay (2 : Int32)) ?_
  refine go_dconst0 (q := 1) (v := (0 : UInt64)) X0 hx (hb hby d2_0) rfl rfl ?_
  refine go_dstoreN (q := 2) (l' := #[.val (.ref ax), .val (.ref ay), .val (.int (2 : Int32)), .val (.double (0 : UInt64)), .second, .unset]) X0 hx (hb hby d2_1) rfl rfl ?_
  refine go_iconst (q := 3) (v := (1 : Int32)) X0 hx (hb hby d2_2) rfl rfl ?_
  refine go_istore (q := 5) (l' := #[.val (.ref ax), .val (.ref ay), .val (.int (2 : Int32)), .val (.double (0 : UInt64)), .second, .val (.int (1 : Int32))]) X0 hx (hb hby d2_3) rfl rfl ?_
  refine go_iload (q := 7) X0 hx (hb hby d2_5) rfl rfl ?_
  refine go_iconst (q := 8) (v := (1 : Int32)) X0 hx (hb hby d2_7) rfl rfl ?_
  refine go_iadd (q := 9) (v := (2 : Int32)) X0 hx (hb hby d2_8) rfl rfl ?_
  refine go_iloadN (q := 10) X0 hx (hb hby d2_9) rfl rfl ?_
  refine go_icmp_ge (q := 13) (q' := 61) X0 hx (hb hby d2_10) rfl (by decide) rfl (fun hc10 => ?_) (fun hc10 => ?_)
  · refine go_dloadN (q := 62) X0 hx (hb hby d2_61) rfl rfl ?_
    refine go_ldc2D (q := 65) (v := (4611686018427387904 : UInt64)) X0 hx hZ hown (hw _ (List.mem_of_getElem? (i := 10) rfl)) (hb hby d2_62) rfl ?_
    refine go_ddivB (q := 66) (kk := (E + E - 1)) (w0 := 0) X0 hx (hb hby d2_65) rfl (own_z (E + E)) own_two (by decide) (by omega) (by decide) (by omega) (by omega) (by omega) (fun z1 hz1 => ?_)
    exact go_retD X0 hx hret hlk (hb hby d2_66) (by decide) (by decide) ⟨fun _ => Fr.nil _, ⟨_, rfl, hz1⟩, e0⟩
  · exact absurd hc10 (by decide)
theorem d2_13 : decode prog_12_method_11_code 13 = .ok (.dload_n 3, 1) := by decide +kernel
theorem d2_14 : decode prog_12_method_11_code 14 = .ok (.aload_n 0, 1) := by decide +kernel
theorem d2_15 : decode prog_12_method_11_code 15 = .ok (.iload 5, 2) := by decide +kernel
theorem d2_17 : decode prog_12_method_11_code 17 = .ok (.daload, 1) := by decide +kernel
theorem d2_18 : decode prog_12_method_11_code 18 = .ok (.aload_n 0, 1) := by decide +kernel
theorem d2_19 : decode prog_12_method_11_code 19 = .ok (.iconst 0, 1) := by decide +kernel
theorem d2_20 : decode prog_12_method_11_code 20 = .ok (.daload, 1) := by decide +kernel
theorem d2_21 : decode prog_12_method_11_code 21 = .ok (.dsub, 1) := by decide +kernel
theorem d2_22 : decode prog_12_method_11_code 22 = .ok (.aload_n 1, 1) := by decide +kernel
theorem d2_23 : decode prog_12_method_11_code 23 = .ok (.iload 5, 2) := by decide +kernel
theorem d2_25 : decode prog_12_method_11_code 25 = .ok (.iconst 1, 1) := by decide +kernel
theorem d2_26 : decode prog_12_method_11_code 26 = .ok (.iadd, 1) := by decide +kernel
theorem d2_27 : decode prog_12_method_11_code 27 = .ok (.daload, 1) := by decide +kernel
theorem d2_28 : decode prog_12_method_11_code 28 = .ok (.aload_n 1, 1) := by decide +kernel
theorem d2_29 : decode prog_12_method_11_code 29 = .ok (.iconst 0, 1) := by decide +kernel
theorem d2_30 : decode prog_12_method_11_code 30 = .ok (.daload, 1) := by decide +kernel
theorem d2_31 : decode prog_12_method_11_code 31 = .ok (.dsub, 1) := by decide +kernel
theorem d2_32 : decode prog_12_method_11_code 32 = .ok (.dmul, 1) := by decide +kernel
theorem d2_33 : decode prog_12_method_11_code 33 = .ok (.aload_n 0, 1) := by decide +kernel
theorem d2_34 : decode prog_12_method_11_code 34 = .ok (.iload 5, 2) := by decide +kernel
theorem d2_36 : decode prog_12_method_11_code 36 = .ok (.iconst 1, 1) := by decide +kernel
theorem d2_37 : decode prog_12_method_11_code 37 = .ok (.iadd, 1) := by decide +kernel
theorem d2_38 : decode prog_12_method_11_code 38 = .ok (.daload, 1) := by decide +kernel
theorem d2_39 : decode prog_12_method_11_code 39 = .ok (.aload_n 0, 1) := by decide +kernel
theorem d2_40 : decode prog_12_method_11_code 40 = .ok (.iconst 0, 1) := by decide +kernel
theorem d2_41 : decode prog_12_method_11_code 41 = .ok (.daload, 1) := by decide +kernel
theorem d2_42 : decode prog_12_method_11_code 42 = .ok (.dsub, 1) := by decide +kernel
theorem d2_43 : decode prog_12_method_11_code 43 = .ok (.aload_n 1, 1) := by decide +kernel
theorem d2_44 : decode prog_12_method_11_code 44 = .ok (.iload 5, 2) := by decide +kernel
theorem d2_46 : decode prog_12_method_11_code 46 = .ok (.daload, 1) := by decide +kernel
theorem d2_47 : decode prog_12_method_11_code 47 = .ok (.aload_n 1, 1) := by decide +kernel
theorem d2_48 : decode prog_12_method_11_code 48 = .ok (.iconst 0, 1) := by decide +kernel
theorem d2_49 : decode prog_12_method_11_code 49 = .ok (.daload, 1) := by decide +kernel
theorem d2_50 : decode prog_12_method_11_code 50 = .ok (.dsub, 1) := by decide +kernel
theorem d2_51 : decode prog_12_method_11_code 51 = .ok (.dmul, 1) := by decide +kernel
theorem d2_52 : decode prog_12_method_11_code 52 = .ok (.dsub, 1) := by decide +kernel
theorem d2_53 : decode prog_12_method_11_code 53 = .ok (.dadd, 1) := by decide +kernel
theorem d2_54 : decode prog_12_method_11_code 54 = .ok (.dstore_n 3, 1) := by decide +kernel
theorem d2_55 : decode prog_12_method_11_code 55 = .ok (.iinc 5 1, 3) := by decide +kernel
theorem d2_58 : decode prog_12_method_11_code 58 = .ok (.goto (-53), 3) := by decide +kernel
set_option maxRecDepth 65536 in
set_option maxHeartbeats 40000000 in
theorem rm2_3 (l : Launch) (Z : State) (a0 : Array Value) (hw : ∀ d ∈ tables_1, d.before a0 Z = true) (ws : List Jvm.Cond) (ax : Addr) (ay : Addr) (kx ky : ClassId) (dx dy : Value) (u0 w0 u1 w1 u2 w2 u3 w3 u4 w4 u5 w5 : UInt64) (E m0 n0 m1 n1 m2 n2 m3 n3 m4 n4 m5 n5 : Int) (h0 : Heap) (V_ax : Arv Z h0 ax kx .double (6 : Int32) [.double u0, .double u1, .double u2, .double u3, .double u4, .double u5] dx) (V_ay : Arv Z h0 ay ky .double (6 : Int32) [.double w0, .double w1, .double w2, .double w3, .double w4, .double w5] dy) (hE : -31 ≤ E ∧ E ≤ 31) (Fu0 : DB E 32768 m0 u0) (Fw0 : DB E 32768 n0 w0) (Fu1 : DB E 32768 m1 u1) (Fw1 : DB E 32768 n1 w1) (Fu2 : DB E 32768 m2 u2) (Fw2 : DB E 32768 n2 w2) (Fu3 : DB E 32768 m3 u3) (Fw3 : DB E 32768 n3 w3) (Fu4 : DB E 32768 m4 u4) (Fw4 : DB E 32768 n4 w4) (Fu5 : DB E 32768 m5 u5) (Fw5 : DB E 32768 n5 w5) :
    Con l (⟨"com/example/orbweave/orbweave/plane/Convex", "shoelace", "([D[DI)D"⟩ : MethodName) prog_12_method_11_code 6 (some .double) ws ({ frames := 0, cells := 0, slots := 0, locals := 0 } : Room) Z #[(.ref ax), (.ref ay), (.int (3 : Int32))] h0 (fun v h L => (∀ n, Fr n L) ∧ (∃ r : UInt64, v = some (.double r) ∧ DB (E + E - 1) 8589934592 (0 + ((m1 - m0) * (n2 - n0) - (m2 - m0) * (n1 - n0))) r) ∧ h = h0) := by
  refine con_of (plainFor_of_name pn_2) ?_
  intro p e s m below meth c s₁ X0 hx hby hml hret hlk hown hnm hZ e0
  refine Go.cast (ef_2 m ax ay (3 : Int32)) ?_
  refine go_dconst0 (q := 1) (v := (0 : UInt64)) X0 hx (hb hby d2_0) rfl rfl ?_
  refine go_dstoreN (q := 2) (l' := #[.val (.ref ax), .val (.ref ay), .val (.int (3 : Int32)), .val (.double (0 : UInt64)), .second, .unset]) X0 hx (hb hby d2_1) rfl rfl ?_
  refine go_iconst (q := 3) (v := (1 : Int32)) X0 hx (hb hby d2_2) rfl rfl ?_
  refine go_istore (q := 5) (l' := #[.val (.ref ax), .val (.ref ay), .val (.int (3 : Int32)), .val (.double (0 : UInt64)), .second, .val (.int (1 : Int32))]) X0 hx (hb hby d2_3) rfl rfl ?_
  refine go_iload (q := 7) X0 hx (hb hby d2_5) rfl rfl ?_
  refine go_iconst (q := 8) (v := (1 : Int32)) X0 hx (hb hby d2_7) rfl rfl ?_
  refine go_iadd (q := 9) (v := (2 : Int32)) X0 hx (hb hby d2_8) rfl rfl ?_
  refine go_iloadN (q := 10) X0 hx (hb hby d2_9) rfl rfl ?_
  refine go_icmp_ge (q := 13) (q' := 61) X0 hx (hb hby d2_10) rfl (by decide) rfl (fun hc10 => ?_) (fun hc10 => ?_)
  · exact absurd (by decide) hc10
  · refine go_dloadN (q := 14) X0 hx (hb hby d2_13) rfl rfl ?_
    refine go_aloadN (q := 15) X0 hx (hb hby d2_14) rfl rfl rfl ?_
    refine go_iload (q := 17) X0 hx (hb hby d2_15) rfl rfl ?_
    refine go_daload (q := 18) (v := (.double u1)) X0 hx hZ e0 V_ax ⟨by decide, by decide⟩ rfl (hb hby d2_17) rfl ?_
    refine go_aloadN (q := 19) X0 hx (hb hby d2_18) rfl rfl rfl ?_
    refine go_iconst (q := 20) (v := (0 : Int32)) X0 hx (hb hby d2_19) rfl rfl ?_
    refine go_daload (q := 21) (v := (.double u0)) X0 hx hZ e0 V_ax ⟨by decide, by decide⟩ rfl (hb hby d2_20) rfl ?_
    refine go_dsubB (q := 22) (C := 65536) X0 hx (hb hby d2_21) rfl Fu1 Fu0 (by decide) (by omega) (by omega) rfl (fun z1 hz1 => ?_)
    refine go_aloadN (q := 23) X0 hx (hb hby d2_22) rfl rfl rfl ?_
    refine go_iload (q := 25) X0 hx (hb hby d2_23) rfl rfl ?_
    refine go_iconst (q := 26) (v := (1 : Int32)) X0 hx (hb hby d2_25) rfl rfl ?_
    refine go_iadd (q := 27) (v := (2 : Int32)) X0 hx (hb hby d2_26) rfl rfl ?_
    refine go_daload (q := 28) (v := (.double w2)) X0 hx hZ e0 V_ay ⟨by decide, by decide⟩ rfl (hb hby d2_27) rfl ?_
    refine go_aloadN (q := 29) X0 hx (hb hby d2_28) rfl rfl rfl ?_
    refine go_iconst (q := 30) (v := (0 : Int32)) X0 hx (hb hby d2_29) rfl rfl ?_
    refine go_daload (q := 31) (v := (.double w0)) X0 hx hZ e0 V_ay ⟨by decide, by decide⟩ rfl (hb hby d2_30) rfl ?_
    refine go_dsubB (q := 32) (C := 65536) X0 hx (hb hby d2_31) rfl Fw2 Fw0 (by decide) (by omega) (by omega) rfl (fun z2 hz2 => ?_)
    refine go_dmulB (q := 33) (kk := (E + E)) (C := 4294967296) X0 hx (hb hby d2_32) rfl hz1 hz2 (by decide) (by omega) (by omega) (by omega) rfl (fun z3 hz3 => ?_)
    refine go_aloadN (q := 34) X0 hx (hb hby d2_33) rfl rfl rfl ?_
    refine go_iload (q := 36) X0 hx (hb hby d2_34) rfl rfl ?_
    refine go_iconst (q := 37) (v := (1 : Int32)) X0 hx (hb hby d2_36) rfl rfl ?_
    refine go_iadd (q := 38) (v := (2 : Int32)) X0 hx (hb hby d2_37) rfl rfl ?_
    refine go_daload (q := 39) (v := (.double u2)) X0 hx hZ e0 V_ax ⟨by decide, by decide⟩ rfl (hb hby d2_38) rfl ?_
    refine go_aloadN (q := 40) X0 hx (hb hby d2_39) rfl rfl rfl ?_
    refine go_iconst (q := 41) (v := (0 : Int32)) X0 hx (hb hby d2_40) rfl rfl ?_
    refine go_daload (q := 42) (v := (.double u0)) X0 hx hZ e0 V_ax ⟨by decide, by decide⟩ rfl (hb hby d2_41) rfl ?_
    refine go_dsubB (q := 43) (C := 65536) X0 hx (hb hby d2_42) rfl Fu2 Fu0 (by decide) (by omega) (by omega) rfl (fun z4 hz4 => ?_)
    refine go_aloadN (q := 44) X0 hx (hb hby d2_43) rfl rfl rfl ?_
    refine go_iload (q := 46) X0 hx (hb hby d2_44) rfl rfl ?_
    refine go_daload (q := 47) (v := (.double w1)) X0 hx hZ e0 V_ay ⟨by decide, by decide⟩ rfl (hb hby d2_46) rfl ?_
    refine go_aloadN (q := 48) X0 hx (hb hby d2_47) rfl rfl rfl ?_
    refine go_iconst (q := 49) (v := (0 : Int32)) X0 hx (hb hby d2_48) rfl rfl ?_
    refine go_daload (q := 50) (v := (.double w0)) X0 hx hZ e0 V_ay ⟨by decide, by decide⟩ rfl (hb hby d2_49) rfl ?_
    refine go_dsubB (q := 51) (C := 65536) X0 hx (hb hby d2_50) rfl Fw1 Fw0 (by decide) (by omega) (by omega) rfl (fun z5 hz5 => ?_)
    refine go_dmulB (q := 52) (kk := (E + E)) (C := 4294967296) X0 hx (hb hby d2_51) rfl hz4 hz5 (by decide) (by omega) (by omega) (by omega) rfl (fun z6 hz6 => ?_)
    refine go_dsubB (q := 53) (C := 8589934592) X0 hx (hb hby d2_52) rfl hz3 hz6 (by decide) (by omega) (by omega) rfl (fun z7 hz7 => ?_)
    refine go_daddB (q := 54) (C := 8589934592) X0 hx (hb hby d2_53) rfl (own_z (E + E)) hz7 (by decide) (by omega) (by omega) rfl (fun z8 hz8 => ?_)
    refine go_dstoreN (q := 55) (l' := #[.val (.ref ax), .val (.ref ay), .val (.int (3 : Int32)), .val (.double z8), .second, .val (.int (1 : Int32))]) X0 hx (hb hby d2_54) rfl rfl ?_
    refine go_iinc (q := 58) (l' := #[.val (.ref ax), .val (.ref ay), .val (.int (3 : Int32)), .val (.double z8), .second, .val (.int (2 : Int32))]) X0 hx (hb hby d2_55) rfl rfl rfl ?_
    refine go_goto (q := 5) X0 hx (hb hby d2_58) (by decide) rfl ?_
    refine go_iload (q := 7) X0 hx (hb hby d2_5) rfl rfl ?_
    refine go_iconst (q := 8) (v := (1 : Int32)) X0 hx (hb hby d2_7) rfl rfl ?_
    refine go_iadd (q := 9) (v := (3 : Int32)) X0 hx (hb hby d2_8) rfl rfl ?_
    refine go_iloadN (q := 10) X0 hx (hb hby d2_9) rfl rfl ?_
    refine go_icmp_ge (q := 13) (q' := 61) X0 hx (hb hby d2_10) rfl (by decide) rfl (fun hc10 => ?_) (fun hc10 => ?_)
    · refine go_dloadN (q := 62) X0 hx (hb hby d2_61) rfl rfl ?_
      refine go_ldc2D (q := 65) (v := (4611686018427387904 : UInt64)) X0 hx hZ hown (hw _ (List.mem_of_getElem? (i := 10) rfl)) (hb hby d2_62) rfl ?_
      refine go_ddivB (q := 66) (kk := (E + E - 1)) (w0 := (0 + (((m1 - m0) * (n2 - n0)) - ((m2 - m0) * (n1 - n0))))) X0 hx (hb hby d2_65) rfl hz8 own_two (by decide) (by omega) (by decide) (by omega) (by omega) (by omega) (fun z9 hz9 => ?_)
      exact go_retD X0 hx hret hlk (hb hby d2_66) (by decide) (by decide) ⟨fun _ => Fr.nil _, ⟨_, rfl, hz9⟩, e0⟩
    · exact absurd hc10 (by decide)
set_option maxRecDepth 65536 in
set_option maxHeartbeats 40000000 in
theorem rm2_4 (l : Launch) (Z : State) (a0 : Array Value) (hw : ∀ d ∈ tables_1, d.before a0 Z = true) (ws : List Jvm.Cond) (ax : Addr) (ay : Addr) (kx ky : ClassId) (dx dy : Value) (u0 w0 u1 w1 u2 w2 u3 w3 u4 w4 u5 w5 : UInt64) (E m0 n0 m1 n1 m2 n2 m3 n3 m4 n4 m5 n5 : Int) (h0 : Heap) (V_ax : Arv Z h0 ax kx .double (6 : Int32) [.double u0, .double u1, .double u2, .double u3, .double u4, .double u5] dx) (V_ay : Arv Z h0 ay ky .double (6 : Int32) [.double w0, .double w1, .double w2, .double w3, .double w4, .double w5] dy) (hE : -31 ≤ E ∧ E ≤ 31) (Fu0 : DB E 32768 m0 u0) (Fw0 : DB E 32768 n0 w0) (Fu1 : DB E 32768 m1 u1) (Fw1 : DB E 32768 n1 w1) (Fu2 : DB E 32768 m2 u2) (Fw2 : DB E 32768 n2 w2) (Fu3 : DB E 32768 m3 u3) (Fw3 : DB E 32768 n3 w3) (Fu4 : DB E 32768 m4 u4) (Fw4 : DB E 32768 n4 w4) (Fu5 : DB E 32768 m5 u5) (Fw5 : DB E 32768 n5 w5) :
    Con l (⟨"com/example/orbweave/orbweave/plane/Convex", "shoelace", "([D[DI)D"⟩ : MethodName) prog_12_method_11_code 6 (some .double) ws ({ frames := 0, cells := 0, slots := 0, locals := 0 } : Room) Z #[(.ref ax), (.ref ay), (.int (4 : Int32))] h0 (fun v h L => (∀ n, Fr n L) ∧ (∃ r : UInt64, v = some (.double r) ∧ DB (E + E - 1) 17179869184 ((0 + ((m1 - m0) * (n2 - n0) - (m2 - m0) * (n1 - n0))) + ((m2 - m0) * (n3 - n0) - (m3 - m0) * (n2 - n0))) r) ∧ h = h0) := by
  refine con_of (plainFor_of_name pn_2) ?_
  intro p e s m below meth c s₁ X0 hx hby hml hret hlk hown hnm hZ e0
  refine Go.cast (ef_2 m ax ay (4 : Int32)) ?_
  refine go_dconst0 (q := 1) (v := (0 : UInt64)) X0 hx (hb hby d2_0) rfl rfl ?_
  refine go_dstoreN (q := 2) (l' := #[.val (.ref ax), .val (.ref ay), .val (.int (4 : Int32)), .val (.double (0 : UInt64)), .second, .unset]) X0 hx (hb hby d2_1) rfl rfl ?_
  refine go_iconst (q := 3) (v := (1 : Int32)) X0 hx (hb hby d2_2) rfl rfl ?_
  refine go_istore (q := 5) (l' := #[.val (.ref ax), .val (.ref ay), .val (.int (4 : Int32)), .val (.double (0 : UInt64)), .second, .val (.int (1 : Int32))]) X0 hx (hb hby d2_3) rfl rfl ?_
  refine go_iload (q := 7) X0 hx (hb hby d2_5) rfl rfl ?_
  refine go_iconst (q := 8) (v := (1 : Int32)) X0 hx (hb hby d2_7) rfl rfl ?_
  refine go_iadd (q := 9) (v := (2 : Int32)) X0 hx (hb hby d2_8) rfl rfl ?_
  refine go_iloadN (q := 10) X0 hx (hb hby d2_9) rfl rfl ?_
  refine go_icmp_ge (q := 13) (q' := 61) X0 hx (hb hby d2_10) rfl (by decide) rfl (fun hc10 => ?_) (fun hc10 => ?_)
  · exact absurd (by decide) hc10
  · refine go_dloadN (q := 14) X0 hx (hb hby d2_13) rfl rfl ?_
    refine go_aloadN (q := 15) X0 hx (hb hby d2_14) rfl rfl rfl ?_
    refine go_iload (q := 17) X0 hx (hb hby d2_15) rfl rfl ?_
    refine go_daload (q := 18) (v := (.double u1)) X0 hx hZ e0 V_ax ⟨by decide, by decide⟩ rfl (hb hby d2_17) rfl ?_
    refine go_aloadN (q := 19) X0 hx (hb hby d2_18) rfl rfl rfl ?_
    refine go_iconst (q := 20) (v := (0 : Int32)) X0 hx (hb hby d2_19) rfl rfl ?_
    refine go_daload (q := 21) (v := (.double u0)) X0 hx hZ e0 V_ax ⟨by decide, by decide⟩ rfl (hb hby d2_20) rfl ?_
    refine go_dsubB (q := 22) (C := 65536) X0 hx (hb hby d2_21) rfl Fu1 Fu0 (by decide) (by omega) (by omega) rfl (fun z1 hz1 => ?_)
    refine go_aloadN (q := 23) X0 hx (hb hby d2_22) rfl rfl rfl ?_
    refine go_iload (q := 25) X0 hx (hb hby d2_23) rfl rfl ?_
    refine go_iconst (q := 26) (v := (1 : Int32)) X0 hx (hb hby d2_25) rfl rfl ?_
    refine go_iadd (q := 27) (v := (2 : Int32)) X0 hx (hb hby d2_26) rfl rfl ?_
    refine go_daload (q := 28) (v := (.double w2)) X0 hx hZ e0 V_ay ⟨by decide, by decide⟩ rfl (hb hby d2_27) rfl ?_
    refine go_aloadN (q := 29) X0 hx (hb hby d2_28) rfl rfl rfl ?_
    refine go_iconst (q := 30) (v := (0 : Int32)) X0 hx (hb hby d2_29) rfl rfl ?_
    refine go_daload (q := 31) (v := (.double w0)) X0 hx hZ e0 V_ay ⟨by decide, by decide⟩ rfl (hb hby d2_30) rfl ?_
    refine go_dsubB (q := 32) (C := 65536) X0 hx (hb hby d2_31) rfl Fw2 Fw0 (by decide) (by omega) (by omega) rfl (fun z2 hz2 => ?_)
    refine go_dmulB (q := 33) (kk := (E + E)) (C := 4294967296) X0 hx (hb hby d2_32) rfl hz1 hz2 (by decide) (by omega) (by omega) (by omega) rfl (fun z3 hz3 => ?_)
    refine go_aloadN (q := 34) X0 hx (hb hby d2_33) rfl rfl rfl ?_
    refine go_iload (q := 36) X0 hx (hb hby d2_34) rfl rfl ?_
    refine go_iconst (q := 37) (v := (1 : Int32)) X0 hx (hb hby d2_36) rfl rfl ?_
    refine go_iadd (q := 38) (v := (2 : Int32)) X0 hx (hb hby d2_37) rfl rfl ?_
    refine go_daload (q := 39) (v := (.double u2)) X0 hx hZ e0 V_ax ⟨by decide, by decide⟩ rfl (hb hby d2_38) rfl ?_
    refine go_aloadN (q := 40) X0 hx (hb hby d2_39) rfl rfl rfl ?_
    refine go_iconst (q := 41) (v := (0 : Int32)) X0 hx (hb hby d2_40) rfl rfl ?_
    refine go_daload (q := 42) (v := (.double u0)) X0 hx hZ e0 V_ax ⟨by decide, by decide⟩ rfl (hb hby d2_41) rfl ?_
    refine go_dsubB (q := 43) (C := 65536) X0 hx (hb hby d2_42) rfl Fu2 Fu0 (by decide) (by omega) (by omega) rfl (fun z4 hz4 => ?_)
    refine go_aloadN (q := 44) X0 hx (hb hby d2_43) rfl rfl rfl ?_
    refine go_iload (q := 46) X0 hx (hb hby d2_44) rfl rfl ?_
    refine go_daload (q := 47) (v := (.double w1)) X0 hx hZ e0 V_ay ⟨by decide, by decide⟩ rfl (hb hby d2_46) rfl ?_
    refine go_aloadN (q := 48) X0 hx (hb hby d2_47) rfl rfl rfl ?_
    refine go_iconst (q := 49) (v := (0 : Int32)) X0 hx (hb hby d2_48) rfl rfl ?_
    refine go_daload (q := 50) (v := (.double w0)) X0 hx hZ e0 V_ay ⟨by decide, by decide⟩ rfl (hb hby d2_49) rfl ?_
    refine go_dsubB (q := 51) (C := 65536) X0 hx (hb hby d2_50) rfl Fw1 Fw0 (by decide) (by omega) (by omega) rfl (fun z5 hz5 => ?_)
    refine go_dmulB (q := 52) (kk := (E + E)) (C := 4294967296) X0 hx (hb hby d2_51) rfl hz4 hz5 (by decide) (by omega) (by omega) (by omega) rfl (fun z6 hz6 => ?_)
    refine go_dsubB (q := 53) (C := 8589934592) X0 hx (hb hby d2_52) rfl hz3 hz6 (by decide) (by omega) (by omega) rfl (fun z7 hz7 => ?_)
    refine go_daddB (q := 54) (C := 8589934592) X0 hx (hb hby d2_53) rfl (own_z (E + E)) hz7 (by decide) (by omega) (by omega) rfl (fun z8 hz8 => ?_)
    refine go_dstoreN (q := 55) (l' := #[.val (.ref ax), .val (.ref ay), .val (.int (4 : Int32)), .val (.double z8), .second, .val (.int (1 : Int32))]) X0 hx (hb hby d2_54) rfl rfl ?_
    refine go_iinc (q := 58) (l' := #[.val (.ref ax), .val (.ref ay), .val (.int (4 : Int32)), .val (.double z8), .second, .val (.int (2 : Int32))]) X0 hx (hb hby d2_55) rfl rfl rfl ?_
    refine go_goto (q := 5) X0 hx (hb hby d2_58) (by decide) rfl ?_
    refine go_iload (q := 7) X0 hx (hb hby d2_5) rfl rfl ?_
    refine go_iconst (q := 8) (v := (1 : Int32)) X0 hx (hb hby d2_7) rfl rfl ?_
    refine go_iadd (q := 9) (v := (3 : Int32)) X0 hx (hb hby d2_8) rfl rfl ?_
    refine go_iloadN (q := 10) X0 hx (hb hby d2_9) rfl rfl ?_
    refine go_icmp_ge (q := 13) (q' := 61) X0 hx (hb hby d2_10) rfl (by decide) rfl (fun hc10 => ?_) (fun hc10 => ?_)
    · exact absurd (by decide) hc10
    · refine go_dloadN (q := 14) X0 hx (hb hby d2_13) rfl rfl ?_
      refine go_aloadN (q := 15) X0 hx (hb hby d2_14) rfl rfl rfl ?_
      refine go_iload (q := 17) X0 hx (hb hby d2_15) rfl rfl ?_
      refine go_daload (q := 18) (v := (.double u2)) X0 hx hZ e0 V_ax ⟨by decide, by decide⟩ rfl (hb hby d2_17) rfl ?_
      refine go_aloadN (q := 19) X0 hx (hb hby d2_18) rfl rfl rfl ?_
      refine go_iconst (q := 20) (v := (0 : Int32)) X0 hx (hb hby d2_19) rfl rfl ?_
      refine go_daload (q := 21) (v := (.double u0)) X0 hx hZ e0 V_ax ⟨by decide, by decide⟩ rfl (hb hby d2_20) rfl ?_
      refine go_dsubB (q := 22) (C := 65536) X0 hx (hb hby d2_21) rfl Fu2 Fu0 (by decide) (by omega) (by omega) rfl (fun z9 hz9 => ?_)
      refine go_aloadN (q := 23) X0 hx (hb hby d2_22) rfl rfl rfl ?_
      refine go_iload (q := 25) X0 hx (hb hby d2_23) rfl rfl ?_
      refine go_iconst (q := 26) (v := (1 : Int32)) X0 hx (hb hby d2_25) rfl rfl ?_
      refine go_iadd (q := 27) (v := (3 : Int32)) X0 hx (hb hby d2_26) rfl rfl ?_
      refine go_daload (q := 28) (v := (.double w3)) X0 hx hZ e0 V_ay ⟨by decide, by decide⟩ rfl (hb hby d2_27) rfl ?_
      refine go_aloadN (q := 29) X0 hx (hb hby d2_28) rfl rfl rfl ?_
      refine go_iconst (q := 30) (v := (0 : Int32)) X0 hx (hb hby d2_29) rfl rfl ?_
      refine go_daload (q := 31) (v := (.double w0)) X0 hx hZ e0 V_ay ⟨by decide, by decide⟩ rfl (hb hby d2_30) rfl ?_
      refine go_dsubB (q := 32) (C := 65536) X0 hx (hb hby d2_31) rfl Fw3 Fw0 (by decide) (by omega) (by omega) rfl (fun z10 hz10 => ?_)
      refine go_dmulB (q := 33) (kk := (E + E)) (C := 4294967296) X0 hx (hb hby d2_32) rfl hz9 hz10 (by decide) (by omega) (by omega) (by omega) rfl (fun z11 hz11 => ?_)
      refine go_aloadN (q := 34) X0 hx (hb hby d2_33) rfl rfl rfl ?_
      refine go_iload (q := 36) X0 hx (hb hby d2_34) rfl rfl ?_
      refine go_iconst (q := 37) (v := (1 : Int32)) X0 hx (hb hby d2_36) rfl rfl ?_
      refine go_iadd (q := 38) (v := (3 : Int32)) X0 hx (hb hby d2_37) rfl rfl ?_
      refine go_daload (q := 39) (v := (.double u3)) X0 hx hZ e0 V_ax ⟨by decide, by decide⟩ rfl (hb hby d2_38) rfl ?_
      refine go_aloadN (q := 40) X0 hx (hb hby d2_39) rfl rfl rfl ?_
      refine go_iconst (q := 41) (v := (0 : Int32)) X0 hx (hb hby d2_40) rfl rfl ?_
      refine go_daload (q := 42) (v := (.double u0)) X0 hx hZ e0 V_ax ⟨by decide, by decide⟩ rfl (hb hby d2_41) rfl ?_
      refine go_dsubB (q := 43) (C := 65536) X0 hx (hb hby d2_42) rfl Fu3 Fu0 (by decide) (by omega) (by omega) rfl (fun z12 hz12 => ?_)
      refine go_aloadN (q := 44) X0 hx (hb hby d2_43) rfl rfl rfl ?_
      refine go_iload (q := 46) X0 hx (hb hby d2_44) rfl rfl ?_
      refine go_daload (q := 47) (v := (.double w2)) X0 hx hZ e0 V_ay ⟨by decide, by decide⟩ rfl (hb hby d2_46) rfl ?_
      refine go_aloadN (q := 48) X0 hx (hb hby d2_47) rfl rfl rfl ?_
      refine go_iconst (q := 49) (v := (0 : Int32)) X0 hx (hb hby d2_48) rfl rfl ?_
      refine go_daload (q := 50) (v := (.double w0)) X0 hx hZ e0 V_ay ⟨by decide, by decide⟩ rfl (hb hby d2_49) rfl ?_
      refine go_dsubB (q := 51) (C := 65536) X0 hx (hb hby d2_50) rfl Fw2 Fw0 (by decide) (by omega) (by omega) rfl (fun z13 hz13 => ?_)
      refine go_dmulB (q := 52) (kk := (E + E)) (C := 4294967296) X0 hx (hb hby d2_51) rfl hz12 hz13 (by decide) (by omega) (by omega) (by omega) rfl (fun z14 hz14 => ?_)
      refine go_dsubB (q := 53) (C := 8589934592) X0 hx (hb hby d2_52) rfl hz11 hz14 (by decide) (by omega) (by omega) rfl (fun z15 hz15 => ?_)
      refine go_daddB (q := 54) (C := 17179869184) X0 hx (hb hby d2_53) rfl hz8 hz15 (by decide) (by omega) (by omega) rfl (fun z16 hz16 => ?_)
      refine go_dstoreN (q := 55) (l' := #[.val (.ref ax), .val (.ref ay), .val (.int (4 : Int32)), .val (.double z16), .second, .val (.int (2 : Int32))]) X0 hx (hb hby d2_54) rfl rfl ?_
      refine go_iinc (q := 58) (l' := #[.val (.ref ax), .val (.ref ay), .val (.int (4 : Int32)), .val (.double z16), .second, .val (.int (3 : Int32))]) X0 hx (hb hby d2_55) rfl rfl rfl ?_
      refine go_goto (q := 5) X0 hx (hb hby d2_58) (by decide) rfl ?_
      refine go_iload (q := 7) X0 hx (hb hby d2_5) rfl rfl ?_
      refine go_iconst (q := 8) (v := (1 : Int32)) X0 hx (hb hby d2_7) rfl rfl ?_
      refine go_iadd (q := 9) (v := (4 : Int32)) X0 hx (hb hby d2_8) rfl rfl ?_
      refine go_iloadN (q := 10) X0 hx (hb hby d2_9) rfl rfl ?_
      refine go_icmp_ge (q := 13) (q' := 61) X0 hx (hb hby d2_10) rfl (by decide) rfl (fun hc10 => ?_) (fun hc10 => ?_)
      · refine go_dloadN (q := 62) X0 hx (hb hby d2_61) rfl rfl ?_
        refine go_ldc2D (q := 65) (v := (4611686018427387904 : UInt64)) X0 hx hZ hown (hw _ (List.mem_of_getElem? (i := 10) rfl)) (hb hby d2_62) rfl ?_
        refine go_ddivB (q := 66) (kk := (E + E - 1)) (w0 := ((0 + (((m1 - m0) * (n2 - n0)) - ((m2 - m0) * (n1 - n0)))) + (((m2 - m0) * (n3 - n0)) - ((m3 - m0) * (n2 - n0))))) X0 hx (hb hby d2_65) rfl hz16 own_two (by decide) (by omega) (by decide) (by omega) (by omega) (by omega) (fun z17 hz17 => ?_)
        exact go_retD X0 hx hret hlk (hb hby d2_66) (by decide) (by decide) ⟨fun _ => Fr.nil _, ⟨_, rfl, hz17⟩, e0⟩
      · exact absurd hc10 (by decide)
set_option maxRecDepth 65536 in
set_option maxHeartbeats 40000000 in
theorem rm2_5 (l : Launch) (Z : State) (a0 : Array Value) (hw : ∀ d ∈ tables_1, d.before a0 Z = true) (ws : List Jvm.Cond) (ax : Addr) (ay : Addr) (kx ky : ClassId) (dx dy : Value) (u0 w0 u1 w1 u2 w2 u3 w3 u4 w4 u5 w5 : UInt64) (E m0 n0 m1 n1 m2 n2 m3 n3 m4 n4 m5 n5 : Int) (h0 : Heap) (V_ax : Arv Z h0 ax kx .double (6 : Int32) [.double u0, .double u1, .double u2, .double u3, .double u4, .double u5] dx) (V_ay : Arv Z h0 ay ky .double (6 : Int32) [.double w0, .double w1, .double w2, .double w3, .double w4, .double w5] dy) (hE : -31 ≤ E ∧ E ≤ 31) (Fu0 : DB E 32768 m0 u0) (Fw0 : DB E 32768 n0 w0) (Fu1 : DB E 32768 m1 u1) (Fw1 : DB E 32768 n1 w1) (Fu2 : DB E 32768 m2 u2) (Fw2 : DB E 32768 n2 w2) (Fu3 : DB E 32768 m3 u3) (Fw3 : DB E 32768 n3 w3) (Fu4 : DB E 32768 m4 u4) (Fw4 : DB E 32768 n4 w4) (Fu5 : DB E 32768 m5 u5) (Fw5 : DB E 32768 n5 w5) :
    Con l (⟨"com/example/orbweave/orbweave/plane/Convex", "shoelace", "([D[DI)D"⟩ : MethodName) prog_12_method_11_code 6 (some .double) ws ({ frames := 0, cells := 0, slots := 0, locals := 0 } : Room) Z #[(.ref ax), (.ref ay), (.int (5 : Int32))] h0 (fun v h L => (∀ n, Fr n L) ∧ (∃ r : UInt64, v = some (.double r) ∧ DB (E + E - 1) 25769803776 (((0 + ((m1 - m0) * (n2 - n0) - (m2 - m0) * (n1 - n0))) + ((m2 - m0) * (n3 - n0) - (m3 - m0) * (n2 - n0))) + ((m3 - m0) * (n4 - n0) - (m4 - m0) * (n3 - n0))) r) ∧ h = h0) := by
  refine con_of (plainFor_of_name pn_2) ?_
  intro p e s m below meth c s₁ X0 hx hby hml hret hlk hown hnm hZ e0
  refine Go.cast (ef_2 m ax ay (5 : Int32)) ?_
  refine go_dconst0 (q := 1) (v := (0 : UInt64)) X0 hx (hb hby d2_0) rfl rfl ?_
  refine go_dstoreN (q := 2) (l' := #[.val (.ref ax), .val (.ref ay), .val (.int (5 : Int32)), .val (.double (0 : UInt64)), .second, .unset]) X0 hx (hb hby d2_1) rfl rfl ?_
  refine go_iconst (q := 3) (v := (1 : Int32)) X0 hx (hb hby d2_2) rfl rfl ?_
  refine go_istore (q := 5) (l' := #[.val (.ref ax), .val (.ref ay), .val (.int (5 : Int32)), .val (.double (0 : UInt64)), .second, .val (.int (1 : Int32))]) X0 hx (hb hby d2_3) rfl rfl ?_
  refine go_iload (q := 7) X0 hx (hb hby d2_5) rfl rfl ?_
  refine go_iconst (q := 8) (v := (1 : Int32)) X0 hx (hb hby d2_7) rfl rfl ?_
  refine go_iadd (q := 9) (v := (2 : Int32)) X0 hx (hb hby d2_8) rfl rfl ?_
  refine go_iloadN (q := 10) X0 hx (hb hby d2_9) rfl rfl ?_
  refine go_icmp_ge (q := 13) (q' := 61) X0 hx (hb hby d2_10) rfl (by decide) rfl (fun hc10 => ?_) (fun hc10 => ?_)
  · exact absurd (by decide) hc10
  · refine go_dloadN (q := 14) X0 hx (hb hby d2_13) rfl rfl ?_
    refine go_aloadN (q := 15) X0 hx (hb hby d2_14) rfl rfl rfl ?_
    refine go_iload (q := 17) X0 hx (hb hby d2_15) rfl rfl ?_
    refine go_daload (q := 18) (v := (.double u1)) X0 hx hZ e0 V_ax ⟨by decide, by decide⟩ rfl (hb hby d2_17) rfl ?_
    refine go_aloadN (q := 19) X0 hx (hb hby d2_18) rfl rfl rfl ?_
    refine go_iconst (q := 20) (v := (0 : Int32)) X0 hx (hb hby d2_19) rfl rfl ?_
    refine go_daload (q := 21) (v := (.double u0)) X0 hx hZ e0 V_ax ⟨by decide, by decide⟩ rfl (hb hby d2_20) rfl ?_
    refine go_dsubB (q := 22) (C := 65536) X0 hx (hb hby d2_21) rfl Fu1 Fu0 (by decide) (by omega) (by omega) rfl (fun z1 hz1 => ?_)
    refine go_aloadN (q := 23) X0 hx (hb hby d2_22) rfl rfl rfl ?_
    refine go_iload (q := 25) X0 hx (hb hby d2_23) rfl rfl ?_
    refine go_iconst (q := 26) (v := (1 : Int32)) X0 hx (hb hby d2_25) rfl rfl ?_
    refine go_iadd (q := 27) (v := (2 : Int32)) X0 hx (hb hby d2_26) rfl rfl ?_
    refine go_daload (q := 28) (v := (.double w2)) X0 hx hZ e0 V_ay ⟨by decide, by decide⟩ rfl (hb hby d2_27) rfl ?_
    refine go_aloadN (q := 29) X0 hx (hb hby d2_28) rfl rfl rfl ?_
    refine go_iconst (q := 30) (v := (0 : Int32)) X0 hx (hb hby d2_29) rfl rfl ?_
    refine go_daload (q := 31) (v := (.double w0)) X0 hx hZ e0 V_ay ⟨by decide, by decide⟩ rfl (hb hby d2_30) rfl ?_
    refine go_dsubB (q := 32) (C := 65536) X0 hx (hb hby d2_31) rfl Fw2 Fw0 (by decide) (by omega) (by omega) rfl (fun z2 hz2 => ?_)
    refine go_dmulB (q := 33) (kk := (E + E)) (C := 4294967296) X0 hx (hb hby d2_32) rfl hz1 hz2 (by decide) (by omega) (by omega) (by omega) rfl (fun z3 hz3 => ?_)
    refine go_aloadN (q := 34) X0 hx (hb hby d2_33) rfl rfl rfl ?_
    refine go_iload (q := 36) X0 hx (hb hby d2_34) rfl rfl ?_
    refine go_iconst (q := 37) (v := (1 : Int32)) X0 hx (hb hby d2_36) rfl rfl ?_
    refine go_iadd (q := 38) (v := (2 : Int32)) X0 hx (hb hby d2_37) rfl rfl ?_
    refine go_daload (q := 39) (v := (.double u2)) X0 hx hZ e0 V_ax ⟨by decide, by decide⟩ rfl (hb hby d2_38) rfl ?_
    refine go_aloadN (q := 40) X0 hx (hb hby d2_39) rfl rfl rfl ?_
    refine go_iconst (q := 41) (v := (0 : Int32)) X0 hx (hb hby d2_40) rfl rfl ?_
    refine go_daload (q := 42) (v := (.double u0)) X0 hx hZ e0 V_ax ⟨by decide, by decide⟩ rfl (hb hby d2_41) rfl ?_
    refine go_dsubB (q := 43) (C := 65536) X0 hx (hb hby d2_42) rfl Fu2 Fu0 (by decide) (by omega) (by omega) rfl (fun z4 hz4 => ?_)
    refine go_aloadN (q := 44) X0 hx (hb hby d2_43) rfl rfl rfl ?_
    refine go_iload (q := 46) X0 hx (hb hby d2_44) rfl rfl ?_
    refine go_daload (q := 47) (v := (.double w1)) X0 hx hZ e0 V_ay ⟨by decide, by decide⟩ rfl (hb hby d2_46) rfl ?_
    refine go_aloadN (q := 48) X0 hx (hb hby d2_47) rfl rfl rfl ?_
    refine go_iconst (q := 49) (v := (0 : Int32)) X0 hx (hb hby d2_48) rfl rfl ?_
    refine go_daload (q := 50) (v := (.double w0)) X0 hx hZ e0 V_ay ⟨by decide, by decide⟩ rfl (hb hby d2_49) rfl ?_
    refine go_dsubB (q := 51) (C := 65536) X0 hx (hb hby d2_50) rfl Fw1 Fw0 (by decide) (by omega) (by omega) rfl (fun z5 hz5 => ?_)
    refine go_dmulB (q := 52) (kk := (E + E)) (C := 4294967296) X0 hx (hb hby d2_51) rfl hz4 hz5 (by decide) (by omega) (by omega) (by omega) rfl (fun z6 hz6 => ?_)
    refine go_dsubB (q := 53) (C := 8589934592) X0 hx (hb hby d2_52) rfl hz3 hz6 (by decide) (by omega) (by omega) rfl (fun z7 hz7 => ?_)
    refine go_daddB (q := 54) (C := 8589934592) X0 hx (hb hby d2_53) rfl (own_z (E + E)) hz7 (by decide) (by omega) (by omega) rfl (fun z8 hz8 => ?_)
    refine go_dstoreN (q := 55) (l' := #[.val (.ref ax), .val (.ref ay), .val (.int (5 : Int32)), .val (.double z8), .second, .val (.int (1 : Int32))]) X0 hx (hb hby d2_54) rfl rfl ?_
    refine go_iinc (q := 58) (l' := #[.val (.ref ax), .val (.ref ay), .val (.int (5 : Int32)), .val (.double z8), .second, .val (.int (2 : Int32))]) X0 hx (hb hby d2_55) rfl rfl rfl ?_
    refine go_goto (q := 5) X0 hx (hb hby d2_58) (by decide) rfl ?_
    refine go_iload (q := 7) X0 hx (hb hby d2_5) rfl rfl ?_
    refine go_iconst (q := 8) (v := (1 : Int32)) X0 hx (hb hby d2_7) rfl rfl ?_
    refine go_iadd (q := 9) (v := (3 : Int32)) X0 hx (hb hby d2_8) rfl rfl ?_
    refine go_iloadN (q := 10) X0 hx (hb hby d2_9) rfl rfl ?_
    refine go_icmp_ge (q := 13) (q' := 61) X0 hx (hb hby d2_10) rfl (by decide) rfl (fun hc10 => ?_) (fun hc10 => ?_)
    · exact absurd (by decide) hc10
    · refine go_dloadN (q := 14) X0 hx (hb hby d2_13) rfl rfl ?_
      refine go_aloadN (q := 15) X0 hx (hb hby d2_14) rfl rfl rfl ?_
      refine go_iload (q := 17) X0 hx (hb hby d2_15) rfl rfl ?_
      refine go_daload (q := 18) (v := (.double u2)) X0 hx hZ e0 V_ax ⟨by decide, by decide⟩ rfl (hb hby d2_17) rfl ?_
      refine go_aloadN (q := 19) X0 hx (hb hby d2_18) rfl rfl rfl ?_
      refine go_iconst (q := 20) (v := (0 : Int32)) X0 hx (hb hby d2_19) rfl rfl ?_
      refine go_daload (q := 21) (v := (.double u0)) X0 hx hZ e0 V_ax ⟨by decide, by decide⟩ rfl (hb hby d2_20) rfl ?_
      refine go_dsubB (q := 22) (C := 65536) X0 hx (hb hby d2_21) rfl Fu2 Fu0 (by decide) (by omega) (by omega) rfl (fun z9 hz9 => ?_)
      refine go_aloadN (q := 23) X0 hx (hb hby d2_22) rfl rfl rfl ?_
      refine go_iload (q := 25) X0 hx (hb hby d2_23) rfl rfl ?_
      refine go_iconst (q := 26) (v := (1 : Int32)) X0 hx (hb hby d2_25) rfl rfl ?_
      refine go_iadd (q := 27) (v := (3 : Int32)) X0 hx (hb hby d2_26) rfl rfl ?_
      refine go_daload (q := 28) (v := (.double w3)) X0 hx hZ e0 V_ay ⟨by decide, by decide⟩ rfl (hb hby d2_27) rfl ?_
      refine go_aloadN (q := 29) X0 hx (hb hby d2_28) rfl rfl rfl ?_
      refine go_iconst (q := 30) (v := (0 : Int32)) X0 hx (hb hby d2_29) rfl rfl ?_
      refine go_daload (q := 31) (v := (.double w0)) X0 hx hZ e0 V_ay ⟨by decide, by decide⟩ rfl (hb hby d2_30) rfl ?_
      refine go_dsubB (q := 32) (C := 65536) X0 hx (hb hby d2_31) rfl Fw3 Fw0 (by decide) (by omega) (by omega) rfl (fun z10 hz10 => ?_)
      refine go_dmulB (q := 33) (kk := (E + E)) (C := 4294967296) X0 hx (hb hby d2_32) rfl hz9 hz10 (by decide) (by omega) (by omega) (by omega) rfl (fun z11 hz11 => ?_)
      refine go_aloadN (q := 34) X0 hx (hb hby d2_33) rfl rfl rfl ?_
      refine go_iload (q := 36) X0 hx (hb hby d2_34) rfl rfl ?_
      refine go_iconst (q := 37) (v := (1 : Int32)) X0 hx (hb hby d2_36) rfl rfl ?_
      refine go_iadd (q := 38) (v := (3 : Int32)) X0 hx (hb hby d2_37) rfl rfl ?_
      refine go_daload (q := 39) (v := (.double u3)) X0 hx hZ e0 V_ax ⟨by decide, by decide⟩ rfl (hb hby d2_38) rfl ?_
      refine go_aloadN (q := 40) X0 hx (hb hby d2_39) rfl rfl rfl ?_
      refine go_iconst (q := 41) (v := (0 : Int32)) X0 hx (hb hby d2_40) rfl rfl ?_
      refine go_daload (q := 42) (v := (.double u0)) X0 hx hZ e0 V_ax ⟨by decide, by decide⟩ rfl (hb hby d2_41) rfl ?_
      refine go_dsubB (q := 43) (C := 65536) X0 hx (hb hby d2_42) rfl Fu3 Fu0 (by decide) (by omega) (by omega) rfl (fun z12 hz12 => ?_)
      refine go_aloadN (q := 44) X0 hx (hb hby d2_43) rfl rfl rfl ?_
      refine go_iload (q := 46) X0 hx (hb hby d2_44) rfl rfl ?_
      refine go_daload (q := 47) (v := (.double w2)) X0 hx hZ e0 V_ay ⟨by decide, by decide⟩ rfl (hb hby d2_46) rfl ?_
      refine go_aloadN (q := 48) X0 hx (hb hby d2_47) rfl rfl rfl ?_
      refine go_iconst (q := 49) (v := (0 : Int32)) X0 hx (hb hby d2_48) rfl rfl ?_
      refine go_daload (q := 50) (v := (.double w0)) X0 hx hZ e0 V_ay ⟨by decide, by decide⟩ rfl (hb hby d2_49) rfl ?_
      refine go_dsubB (q := 51) (C := 65536) X0 hx (hb hby d2_50) rfl Fw2 Fw0 (by decide) (by omega) (by omega) rfl (fun z13 hz13 => ?_)
      refine go_dmulB (q := 52) (kk := (E + E)) (C := 4294967296) X0 hx (hb hby d2_51) rfl hz12 hz13 (by decide) (by omega) (by omega) (by omega) rfl (fun z14 hz14 => ?_)
      refine go_dsubB (q := 53) (C := 8589934592) X0 hx (hb hby d2_52) rfl hz11 hz14 (by decide) (by omega) (by omega) rfl (fun z15 hz15 => ?_)
      refine go_daddB (q := 54) (C := 17179869184) X0 hx (hb hby d2_53) rfl hz8 hz15 (by decide) (by omega) (by omega) rfl (fun z16 hz16 => ?_)
      refine go_dstoreN (q := 55) (l' := #[.val (.ref ax), .val (.ref ay), .val (.int (5 : Int32)), .val (.double z16), .second, .val (.int (2 : Int32))]) X0 hx (hb hby d2_54) rfl rfl ?_
      refine go_iinc (q := 58) (l' := #[.val (.ref ax), .val (.ref ay), .val (.int (5 : Int32)), .val (.double z16), .second, .val (.int (3 : Int32))]) X0 hx (hb hby d2_55) rfl rfl rfl ?_
      refine go_goto (q := 5) X0 hx (hb hby d2_58) (by decide) rfl ?_
      refine go_iload (q := 7) X0 hx (hb hby d2_5) rfl rfl ?_
      refine go_iconst (q := 8) (v := (1 : Int32)) X0 hx (hb hby d2_7) rfl rfl ?_
      refine go_iadd (q := 9) (v := (4 : Int32)) X0 hx (hb hby d2_8) rfl rfl ?_
      refine go_iloadN (q := 10) X0 hx (hb hby d2_9) rfl rfl ?_
      refine go_icmp_ge (q := 13) (q' := 61) X0 hx (hb hby d2_10) rfl (by decide) rfl (fun hc10 => ?_) (fun hc10 => ?_)
      · exact absurd (by decide) hc10
      · refine go_dloadN (q := 14) X0 hx (hb hby d2_13) rfl rfl ?_
        refine go_aloadN (q := 15) X0 hx (hb hby d2_14) rfl rfl rfl ?_
        refine go_iload (q := 17) X0 hx (hb hby d2_15) rfl rfl ?_
        refine go_daload (q := 18) (v := (.double u3)) X0 hx hZ e0 V_ax ⟨by decide, by decide⟩ rfl (hb hby d2_17) rfl ?_
        refine go_aloadN (q := 19) X0 hx (hb hby d2_18) rfl rfl rfl ?_
        refine go_iconst (q := 20) (v := (0 : Int32)) X0 hx (hb hby d2_19) rfl rfl ?_
        refine go_daload (q := 21) (v := (.double u0)) X0 hx hZ e0 V_ax ⟨by decide, by decide⟩ rfl (hb hby d2_20) rfl ?_
        refine go_dsubB (q := 22) (C := 65536) X0 hx (hb hby d2_21) rfl Fu3 Fu0 (by decide) (by omega) (by omega) rfl (fun z17 hz17 => ?_)
        refine go_aloadN (q := 23) X0 hx (hb hby d2_22) rfl rfl rfl ?_
        refine go_iload (q := 25) X0 hx (hb hby d2_23) rfl rfl ?_
        refine go_iconst (q := 26) (v := (1 : Int32)) X0 hx (hb hby d2_25) rfl rfl ?_
        refine go_iadd (q := 27) (v := (4 : Int32)) X0 hx (hb hby d2_26) rfl rfl ?_
        refine go_daload (q := 28) (v := (.double w4)) X0 hx hZ e0 V_ay ⟨by decide, by decide⟩ rfl (hb hby d2_27) rfl ?_
        refine go_aloadN (q := 29) X0 hx (hb hby d2_28) rfl rfl rfl ?_
        refine go_iconst (q := 30) (v := (0 : Int32)) X0 hx (hb hby d2_29) rfl rfl ?_
        refine go_daload (q := 31) (v := (.double w0)) X0 hx hZ e0 V_ay ⟨by decide, by decide⟩ rfl (hb hby d2_30) rfl ?_
        refine go_dsubB (q := 32) (C := 65536) X0 hx (hb hby d2_31) rfl Fw4 Fw0 (by decide) (by omega) (by omega) rfl (fun z18 hz18 => ?_)
        refine go_dmulB (q := 33) (kk := (E + E)) (C := 4294967296) X0 hx (hb hby d2_32) rfl hz17 hz18 (by decide) (by omega) (by omega) (by omega) rfl (fun z19 hz19 => ?_)
        refine go_aloadN (q := 34) X0 hx (hb hby d2_33) rfl rfl rfl ?_
        refine go_iload (q := 36) X0 hx (hb hby d2_34) rfl rfl ?_
        refine go_iconst (q := 37) (v := (1 : Int32)) X0 hx (hb hby d2_36) rfl rfl ?_
        refine go_iadd (q := 38) (v := (4 : Int32)) X0 hx (hb hby d2_37) rfl rfl ?_
        refine go_daload (q := 39) (v := (.double u4)) X0 hx hZ e0 V_ax ⟨by decide, by decide⟩ rfl (hb hby d2_38) rfl ?_
        refine go_aloadN (q := 40) X0 hx (hb hby d2_39) rfl rfl rfl ?_
        refine go_iconst (q := 41) (v := (0 : Int32)) X0 hx (hb hby d2_40) rfl rfl ?_
        refine go_daload (q := 42) (v := (.double u0)) X0 hx hZ e0 V_ax ⟨by decide, by decide⟩ rfl (hb hby d2_41) rfl ?_
        refine go_dsubB (q := 43) (C := 65536) X0 hx (hb hby d2_42) rfl Fu4 Fu0 (by decide) (by omega) (by omega) rfl (fun z20 hz20 => ?_)
        refine go_aloadN (q := 44) X0 hx (hb hby d2_43) rfl rfl rfl ?_
        refine go_iload (q := 46) X0 hx (hb hby d2_44) rfl rfl ?_
        refine go_daload (q := 47) (v := (.double w3)) X0 hx hZ e0 V_ay ⟨by decide, by decide⟩ rfl (hb hby d2_46) rfl ?_
        refine go_aloadN (q := 48) X0 hx (hb hby d2_47) rfl rfl rfl ?_
        refine go_iconst (q := 49) (v := (0 : Int32)) X0 hx (hb hby d2_48) rfl rfl ?_
        refine go_daload (q := 50) (v := (.double w0)) X0 hx hZ e0 V_ay ⟨by decide, by decide⟩ rfl (hb hby d2_49) rfl ?_
        refine go_dsubB (q := 51) (C := 65536) X0 hx (hb hby d2_50) rfl Fw3 Fw0 (by decide) (by omega) (by omega) rfl (fun z21 hz21 => ?_)
        refine go_dmulB (q := 52) (kk := (E + E)) (C := 4294967296) X0 hx (hb hby d2_51) rfl hz20 hz21 (by decide) (by omega) (by omega) (by omega) rfl (fun z22 hz22 => ?_)
        refine go_dsubB (q := 53) (C := 8589934592) X0 hx (hb hby d2_52) rfl hz19 hz22 (by decide) (by omega) (by omega) rfl (fun z23 hz23 => ?_)
        refine go_daddB (q := 54) (C := 25769803776) X0 hx (hb hby d2_53) rfl hz16 hz23 (by decide) (by omega) (by omega) rfl (fun z24 hz24 => ?_)
        refine go_dstoreN (q := 55) (l' := #[.val (.ref ax), .val (.ref ay), .val (.int (5 : Int32)), .val (.double z24), .second, .val (.int (3 : Int32))]) X0 hx (hb hby d2_54) rfl rfl ?_
        refine go_iinc (q := 58) (l' := #[.val (.ref ax), .val (.ref ay), .val (.int (5 : Int32)), .val (.double z24), .second, .val (.int (4 : Int32))]) X0 hx (hb hby d2_55) rfl rfl rfl ?_
        refine go_goto (q := 5) X0 hx (hb hby d2_58) (by decide) rfl ?_
        refine go_iload (q := 7) X0 hx (hb hby d2_5) rfl rfl ?_
        refine go_iconst (q := 8) (v := (1 : Int32)) X0 hx (hb hby d2_7) rfl rfl ?_
        refine go_iadd (q := 9) (v := (5 : Int32)) X0 hx (hb hby d2_8) rfl rfl ?_
        refine go_iloadN (q := 10) X0 hx (hb hby d2_9) rfl rfl ?_
        refine go_icmp_ge (q := 13) (q' := 61) X0 hx (hb hby d2_10) rfl (by decide) rfl (fun hc10 => ?_) (fun hc10 => ?_)
        · refine go_dloadN (q := 62) X0 hx (hb hby d2_61) rfl rfl ?_
          refine go_ldc2D (q := 65) (v := (4611686018427387904 : UInt64)) X0 hx hZ hown (hw _ (List.mem_of_getElem? (i := 10) rfl)) (hb hby d2_62) rfl ?_
          refine go_ddivB (q := 66) (kk := (E + E - 1)) (w0 := (((0 + (((m1 - m0) * (n2 - n0)) - ((m2 - m0) * (n1 - n0)))) + (((m2 - m0) * (n3 - n0)) - ((m3 - m0) * (n2 - n0)))) + (((m3 - m0) * (n4 - n0)) - ((m4 - m0) * (n3 - n0))))) X0 hx (hb hby d2_65) rfl hz24 own_two (by decide) (by omega) (by decide) (by omega) (by omega) (by omega) (fun z25 hz25 => ?_)
          exact go_retD X0 hx hret hlk (hb hby d2_66) (by decide) (by decide) ⟨fun _ => Fr.nil _, ⟨_, rfl, hz25⟩, e0⟩
        · exact absurd hc10 (by decide)
set_option maxRecDepth 65536 in
set_option maxHeartbeats 40000000 in
theorem rm2_6 (l : Launch) (Z : State) (a0 : Array Value) (hw : ∀ d ∈ tables_1, d.before a0 Z = true) (ws : List Jvm.Cond) (ax : Addr) (ay : Addr) (kx ky : ClassId) (dx dy : Value) (u0 w0 u1 w1 u2 w2 u3 w3 u4 w4 u5 w5 : UInt64) (E m0 n0 m1 n1 m2 n2 m3 n3 m4 n4 m5 n5 : Int) (h0 : Heap) (V_ax : Arv Z h0 ax kx .double (6 : Int32) [.double u0, .double u1, .double u2, .double u3, .double u4, .double u5] dx) (V_ay : Arv Z h0 ay ky .double (6 : Int32) [.double w0, .double w1, .double w2, .double w3, .double w4, .double w5] dy) (hE : -31 ≤ E ∧ E ≤ 31) (Fu0 : DB E 32768 m0 u0) (Fw0 : DB E 32768 n0 w0) (Fu1 : DB E 32768 m1 u1) (Fw1 : DB E 32768 n1 w1) (Fu2 : DB E 32768 m2 u2) (Fw2 : DB E 32768 n2 w2) (Fu3 : DB E 32768 m3 u3) (Fw3 : DB E 32768 n3 w3) (Fu4 : DB E 32768 m4 u4) (Fw4 : DB E 32768 n4 w4) (Fu5 : DB E 32768 m5 u5) (Fw5 : DB E 32768 n5 w5) :
    Con l (⟨"com/example/orbweave/orbweave/plane/Convex", "shoelace", "([D[DI)D"⟩ : MethodName) prog_12_method_11_code 6 (some .double) ws ({ frames := 0, cells := 0, slots := 0, locals := 0 } : Room) Z #[(.ref ax), (.ref ay), (.int (6 : Int32))] h0 (fun v h L => (∀ n, Fr n L) ∧ (∃ r : UInt64, v = some (.double r) ∧ DB (E + E - 1) 34359738368 ((((0 + ((m1 - m0) * (n2 - n0) - (m2 - m0) * (n1 - n0))) + ((m2 - m0) * (n3 - n0) - (m3 - m0) * (n2 - n0))) + ((m3 - m0) * (n4 - n0) - (m4 - m0) * (n3 - n0))) + ((m4 - m0) * (n5 - n0) - (m5 - m0) * (n4 - n0))) r) ∧ h = h0) := by
  refine con_of (plainFor_of_name pn_2) ?_
  intro p e s m below meth c s₁ X0 hx hby hml hret hlk hown hnm hZ e0
  refine Go.cast (ef_2 m ax ay (6 : Int32)) ?_
  refine go_dconst0 (q := 1) (v := (0 : UInt64)) X0 hx (hb hby d2_0) rfl rfl ?_
  refine go_dstoreN (q := 2) (l' := #[.val (.ref ax), .val (.ref ay), .val (.int (6 : Int32)), .val (.double (0 : UInt64)), .second, .unset]) X0 hx (hb hby d2_1) rfl rfl ?_
  refine go_iconst (q := 3) (v := (1 : Int32)) X0 hx (hb hby d2_2) rfl rfl ?_
  refine go_istore (q := 5) (l' := #[.val (.ref ax), .val (.ref ay), .val (.int (6 : Int32)), .val (.double (0 : UInt64)), .second, .val (.int (1 : Int32))]) X0 hx (hb hby d2_3) rfl rfl ?_
  refine go_iload (q := 7) X0 hx (hb hby d2_5) rfl rfl ?_
  refine go_iconst (q := 8) (v := (1 : Int32)) X0 hx (hb hby d2_7) rfl rfl ?_
  refine go_iadd (q := 9) (v := (2 : Int32)) X0 hx (hb hby d2_8) rfl rfl ?_
  refine go_iloadN (q := 10) X0 hx (hb hby d2_9) rfl rfl ?_
  refine go_icmp_ge (q := 13) (q' := 61) X0 hx (hb hby d2_10) rfl (by decide) rfl (fun hc10 => ?_) (fun hc10 => ?_)
  · exact absurd (by decide) hc10
  · refine go_dloadN (q := 14) X0 hx (hb hby d2_13) rfl rfl ?_
    refine go_aloadN (q := 15) X0 hx (hb hby d2_14) rfl rfl rfl ?_
    refine go_iload (q := 17) X0 hx (hb hby d2_15) rfl rfl ?_
    refine go_daload (q := 18) (v := (.double u1)) X0 hx hZ e0 V_ax ⟨by decide, by decide⟩ rfl (hb hby d2_17) rfl ?_
    refine go_aloadN (q := 19) X0 hx (hb hby d2_18) rfl rfl rfl ?_
    refine go_iconst (q := 20) (v := (0 : Int32)) X0 hx (hb hby d2_19) rfl rfl ?_
    refine go_daload (q := 21) (v := (.double u0)) X0 hx hZ e0 V_ax ⟨by decide, by decide⟩ rfl (hb hby d2_20) rfl ?_
    refine go_dsubB (q := 22) (C := 65536) X0 hx (hb hby d2_21) rfl Fu1 Fu0 (by decide) (by omega) (by omega) rfl (fun z1 hz1 => ?_)
    refine go_aloadN (q := 23) X0 hx (hb hby d2_22) rfl rfl rfl ?_
    refine go_iload (q := 25) X0 hx (hb hby d2_23) rfl rfl ?_
    refine go_iconst (q := 26) (v := (1 : Int32)) X0 hx (hb hby d2_25) rfl rfl ?_
    refine go_iadd (q := 27) (v := (2 : Int32)) X0 hx (hb hby d2_26) rfl rfl ?_
    refine go_daload (q := 28) (v := (.double w2)) X0 hx hZ e0 V_ay ⟨by decide, by decide⟩ rfl (hb hby d2_27) rfl ?_
    refine go_aloadN (q := 29) X0 hx (hb hby d2_28) rfl rfl rfl ?_
    refine go_iconst (q := 30) (v := (0 : Int32)) X0 hx (hb hby d2_29) rfl rfl ?_
    refine go_daload (q := 31) (v := (.double w0)) X0 hx hZ e0 V_ay ⟨by decide, by decide⟩ rfl (hb hby d2_30) rfl ?_
    refine go_dsubB (q := 32) (C := 65536) X0 hx (hb hby d2_31) rfl Fw2 Fw0 (by decide) (by omega) (by omega) rfl (fun z2 hz2 => ?_)
    refine go_dmulB (q := 33) (kk := (E + E)) (C := 4294967296) X0 hx (hb hby d2_32) rfl hz1 hz2 (by decide) (by omega) (by omega) (by omega) rfl (fun z3 hz3 => ?_)
    refine go_aloadN (q := 34) X0 hx (hb hby d2_33) rfl rfl rfl ?_
    refine go_iload (q := 36) X0 hx (hb hby d2_34) rfl rfl ?_
    refine go_iconst (q := 37) (v := (1 : Int32)) X0 hx (hb hby d2_36) rfl rfl ?_
    refine go_iadd (q := 38) (v := (2 : Int32)) X0 hx (hb hby d2_37) rfl rfl ?_
    refine go_daload (q := 39) (v := (.double u2)) X0 hx hZ e0 V_ax ⟨by decide, by decide⟩ rfl (hb hby d2_38) rfl ?_
    refine go_aloadN (q := 40) X0 hx (hb hby d2_39) rfl rfl rfl ?_
    refine go_iconst (q := 41) (v := (0 : Int32)) X0 hx (hb hby d2_40) rfl rfl ?_
    refine go_daload (q := 42) (v := (.double u0)) X0 hx hZ e0 V_ax ⟨by decide, by decide⟩ rfl (hb hby d2_41) rfl ?_
    refine go_dsubB (q := 43) (C := 65536) X0 hx (hb hby d2_42) rfl Fu2 Fu0 (by decide) (by omega) (by omega) rfl (fun z4 hz4 => ?_)
    refine go_aloadN (q := 44) X0 hx (hb hby d2_43) rfl rfl rfl ?_
    refine go_iload (q := 46) X0 hx (hb hby d2_44) rfl rfl ?_
    refine go_daload (q := 47) (v := (.double w1)) X0 hx hZ e0 V_ay ⟨by decide, by decide⟩ rfl (hb hby d2_46) rfl ?_
    refine go_aloadN (q := 48) X0 hx (hb hby d2_47) rfl rfl rfl ?_
    refine go_iconst (q := 49) (v := (0 : Int32)) X0 hx (hb hby d2_48) rfl rfl ?_
    refine go_daload (q := 50) (v := (.double w0)) X0 hx hZ e0 V_ay ⟨by decide, by decide⟩ rfl (hb hby d2_49) rfl ?_
    refine go_dsubB (q := 51) (C := 65536) X0 hx (hb hby d2_50) rfl Fw1 Fw0 (by decide) (by omega) (by omega) rfl (fun z5 hz5 => ?_)
    refine go_dmulB (q := 52) (kk := (E + E)) (C := 4294967296) X0 hx (hb hby d2_51) rfl hz4 hz5 (by decide) (by omega) (by omega) (by omega) rfl (fun z6 hz6 => ?_)
    refine go_dsubB (q := 53) (C := 8589934592) X0 hx (hb hby d2_52) rfl hz3 hz6 (by decide) (by omega) (by omega) rfl (fun z7 hz7 => ?_)
    refine go_daddB (q := 54) (C := 8589934592) X0 hx (hb hby d2_53) rfl (own_z (E + E)) hz7 (by decide) (by omega) (by omega) rfl (fun z8 hz8 => ?_)
    refine go_dstoreN (q := 55) (l' := #[.val (.ref ax), .val (.ref ay), .val (.int (6 : Int32)), .val (.double z8), .second, .val (.int (1 : Int32))]) X0 hx (hb hby d2_54) rfl rfl ?_
    refine go_iinc (q := 58) (l' := #[.val (.ref ax), .val (.ref ay), .val (.int (6 : Int32)), .val (.double z8), .second, .val (.int (2 : Int32))]) X0 hx (hb hby d2_55) rfl rfl rfl ?_
    refine go_goto (q := 5) X0 hx (hb hby d2_58) (by decide) rfl ?_
    refine go_iload (q := 7) X0 hx (hb hby d2_5) rfl rfl ?_
    refine go_iconst (q := 8) (v := (1 : Int32)) X0 hx (hb hby d2_7) rfl rfl ?_
    refine go_iadd (q := 9) (v := (3 : Int32)) X0 hx (hb hby d2_8) rfl rfl ?_
    refine go_iloadN (q := 10) X0 hx (hb hby d2_9) rfl rfl ?_
    refine go_icmp_ge (q := 13) (q' := 61) X0 hx (hb hby d2_10) rfl (by decide) rfl (fun hc10 => ?_) (fun hc10 => ?_)
    · exact absurd (by decide) hc10
    · refine go_dloadN (q := 14) X0 hx (hb hby d2_13) rfl rfl ?_
      refine go_aloadN (q := 15) X0 hx (hb hby d2_14) rfl rfl rfl ?_
      refine go_iload (q := 17) X0 hx (hb hby d2_15) rfl rfl ?_
      refine go_daload (q := 18) (v := (.double u2)) X0 hx hZ e0 V_ax ⟨by decide, by decide⟩ rfl (hb hby d2_17) rfl ?_
      refine go_aloadN (q := 19) X0 hx (hb hby d2_18) rfl rfl rfl ?_
      refine go_iconst (q := 20) (v := (0 : Int32)) X0 hx (hb hby d2_19) rfl rfl ?_
      refine go_daload (q := 21) (v := (.double u0)) X0 hx hZ e0 V_ax ⟨by decide, by decide⟩ rfl (hb hby d2_20) rfl ?_
      refine go_dsubB (q := 22) (C := 65536) X0 hx (hb hby d2_21) rfl Fu2 Fu0 (by decide) (by omega) (by omega) rfl (fun z9 hz9 => ?_)
      refine go_aloadN (q := 23) X0 hx (hb hby d2_22) rfl rfl rfl ?_
      refine go_iload (q := 25) X0 hx (hb hby d2_23) rfl rfl ?_
      refine go_iconst (q := 26) (v := (1 : Int32)) X0 hx (hb hby d2_25) rfl rfl ?_
      refine go_iadd (q := 27) (v := (3 : Int32)) X0 hx (hb hby d2_26) rfl rfl ?_
      refine go_daload (q := 28) (v := (.double w3)) X0 hx hZ e0 V_ay ⟨by decide, by decide⟩ rfl (hb hby d2_27) rfl ?_
      refine go_aloadN (q := 29) X0 hx (hb hby d2_28) rfl rfl rfl ?_
      refine go_iconst (q := 30) (v := (0 : Int32)) X0 hx (hb hby d2_29) rfl rfl ?_
      refine go_daload (q := 31) (v := (.double w0)) X0 hx hZ e0 V_ay ⟨by decide, by decide⟩ rfl (hb hby d2_30) rfl ?_
      refine go_dsubB (q := 32) (C := 65536) X0 hx (hb hby d2_31) rfl Fw3 Fw0 (by decide) (by omega) (by omega) rfl (fun z10 hz10 => ?_)
      refine go_dmulB (q := 33) (kk := (E + E)) (C := 4294967296) X0 hx (hb hby d2_32) rfl hz9 hz10 (by decide) (by omega) (by omega) (by omega) rfl (fun z11 hz11 => ?_)
      refine go_aloadN (q := 34) X0 hx (hb hby d2_33) rfl rfl rfl ?_
      refine go_iload (q := 36) X0 hx (hb hby d2_34) rfl rfl ?_
      refine go_iconst (q := 37) (v := (1 : Int32)) X0 hx (hb hby d2_36) rfl rfl ?_
      refine go_iadd (q := 38) (v := (3 : Int32)) X0 hx (hb hby d2_37) rfl rfl ?_
      refine go_daload (q := 39) (v := (.double u3)) X0 hx hZ e0 V_ax ⟨by decide, by decide⟩ rfl (hb hby d2_38) rfl ?_
      refine go_aloadN (q := 40) X0 hx (hb hby d2_39) rfl rfl rfl ?_
      refine go_iconst (q := 41) (v := (0 : Int32)) X0 hx (hb hby d2_40) rfl rfl ?_
      refine go_daload (q := 42) (v := (.double u0)) X0 hx hZ e0 V_ax ⟨by decide, by decide⟩ rfl (hb hby d2_41) rfl ?_
      refine go_dsubB (q := 43) (C := 65536) X0 hx (hb hby d2_42) rfl Fu3 Fu0 (by decide) (by omega) (by omega) rfl (fun z12 hz12 => ?_)
      refine go_aloadN (q := 44) X0 hx (hb hby d2_43) rfl rfl rfl ?_
      refine go_iload (q := 46) X0 hx (hb hby d2_44) rfl rfl ?_
      refine go_daload (q := 47) (v := (.double w2)) X0 hx hZ e0 V_ay ⟨by decide, by decide⟩ rfl (hb hby d2_46) rfl ?_
      refine go_aloadN (q := 48) X0 hx (hb hby d2_47) rfl rfl rfl ?_
      refine go_iconst (q := 49) (v := (0 : Int32)) X0 hx (hb hby d2_48) rfl rfl ?_
      refine go_daload (q := 50) (v := (.double w0)) X0 hx hZ e0 V_ay ⟨by decide, by decide⟩ rfl (hb hby d2_49) rfl ?_
      refine go_dsubB (q := 51) (C := 65536) X0 hx (hb hby d2_50) rfl Fw2 Fw0 (by decide) (by omega) (by omega) rfl (fun z13 hz13 => ?_)
      refine go_dmulB (q := 52) (kk := (E + E)) (C := 4294967296) X0 hx (hb hby d2_51) rfl hz12 hz13 (by decide) (by omega) (by omega) (by omega) rfl (fun z14 hz14 => ?_)
      refine go_dsubB (q := 53) (C := 8589934592) X0 hx (hb hby d2_52) rfl hz11 hz14 (by decide) (by omega) (by omega) rfl (fun z15 hz15 => ?_)
      refine go_daddB (q := 54) (C := 17179869184) X0 hx (hb hby d2_53) rfl hz8 hz15 (by decide) (by omega) (by omega) rfl (fun z16 hz16 => ?_)
      refine go_dstoreN (q := 55) (l' := #[.val (.ref ax), .val (.ref ay), .val (.int (6 : Int32)), .val (.double z16), .second, .val (.int (2 : Int32))]) X0 hx (hb hby d2_54) rfl rfl ?_
      refine go_iinc (q := 58) (l' := #[.val (.ref ax), .val (.ref ay), .val (.int (6 : Int32)), .val (.double z16), .second, .val (.int (3 : Int32))]) X0 hx (hb hby d2_55) rfl rfl rfl ?_
      refine go_goto (q := 5) X0 hx (hb hby d2_58) (by decide) rfl ?_
      refine go_iload (q := 7) X0 hx (hb hby d2_5) rfl rfl ?_
      refine go_iconst (q := 8) (v := (1 : Int32)) X0 hx (hb hby d2_7) rfl rfl ?_
      refine go_iadd (q := 9) (v := (4 : Int32)) X0 hx (hb hby d2_8) rfl rfl ?_
      refine go_iloadN (q := 10) X0 hx (hb hby d2_9) rfl rfl ?_
      refine go_icmp_ge (q := 13) (q' := 61) X0 hx (hb hby d2_10) rfl (by decide) rfl (fun hc10 => ?_) (fun hc10 => ?_)
      · exact absurd (by decide) hc10
      · refine go_dloadN (q := 14) X0 hx (hb hby d2_13) rfl rfl ?_
        refine go_aloadN (q := 15) X0 hx (hb hby d2_14) rfl rfl rfl ?_
        refine go_iload (q := 17) X0 hx (hb hby d2_15) rfl rfl ?_
        refine go_daload (q := 18) (v := (.double u3)) X0 hx hZ e0 V_ax ⟨by decide, by decide⟩ rfl (hb hby d2_17) rfl ?_
        refine go_aloadN (q := 19) X0 hx (hb hby d2_18) rfl rfl rfl ?_
        refine go_iconst (q := 20) (v := (0 : Int32)) X0 hx (hb hby d2_19) rfl rfl ?_
        refine go_daload (q := 21) (v := (.double u0)) X0 hx hZ e0 V_ax ⟨by decide, by decide⟩ rfl (hb hby d2_20) rfl ?_
        refine go_dsubB (q := 22) (C := 65536) X0 hx (hb hby d2_21) rfl Fu3 Fu0 (by decide) (by omega) (by omega) rfl (fun z17 hz17 => ?_)
        refine go_aloadN (q := 23) X0 hx (hb hby d2_22) rfl rfl rfl ?_
        refine go_iload (q := 25) X0 hx (hb hby d2_23) rfl rfl ?_
        refine go_iconst (q := 26) (v := (1 : Int32)) X0 hx (hb hby d2_25) rfl rfl ?_
        refine go_iadd (q := 27) (v := (4 : Int32)) X0 hx (hb hby d2_26) rfl rfl ?_
        refine go_daload (q := 28) (v := (.double w4)) X0 hx hZ e0 V_ay ⟨by decide, by decide⟩ rfl (hb hby d2_27) rfl ?_
        refine go_aloadN (q := 29) X0 hx (hb hby d2_28) rfl rfl rfl ?_
        refine go_iconst (q := 30) (v := (0 : Int32)) X0 hx (hb hby d2_29) rfl rfl ?_
        refine go_daload (q := 31) (v := (.double w0)) X0 hx hZ e0 V_ay ⟨by decide, by decide⟩ rfl (hb hby d2_30) rfl ?_
        refine go_dsubB (q := 32) (C := 65536) X0 hx (hb hby d2_31) rfl Fw4 Fw0 (by decide) (by omega) (by omega) rfl (fun z18 hz18 => ?_)
        refine go_dmulB (q := 33) (kk := (E + E)) (C := 4294967296) X0 hx (hb hby d2_32) rfl hz17 hz18 (by decide) (by omega) (by omega) (by omega) rfl (fun z19 hz19 => ?_)
        refine go_aloadN (q := 34) X0 hx (hb hby d2_33) rfl rfl rfl ?_
        refine go_iload (q := 36) X0 hx (hb hby d2_34) rfl rfl ?_
        refine go_iconst (q := 37) (v := (1 : Int32)) X0 hx (hb hby d2_36) rfl rfl ?_
        refine go_iadd (q := 38) (v := (4 : Int32)) X0 hx (hb hby d2_37) rfl rfl ?_
        refine go_daload (q := 39) (v := (.double u4)) X0 hx hZ e0 V_ax ⟨by decide, by decide⟩ rfl (hb hby d2_38) rfl ?_
        refine go_aloadN (q := 40) X0 hx (hb hby d2_39) rfl rfl rfl ?_
        refine go_iconst (q := 41) (v := (0 : Int32)) X0 hx (hb hby d2_40) rfl rfl ?_
        refine go_daload (q := 42) (v := (.double u0)) X0 hx hZ e0 V_ax ⟨by decide, by decide⟩ rfl (hb hby d2_41) rfl ?_
        refine go_dsubB (q := 43) (C := 65536) X0 hx (hb hby d2_42) rfl Fu4 Fu0 (by decide) (by omega) (by omega) rfl (fun z20 hz20 => ?_)
        refine go_aloadN (q := 44) X0 hx (hb hby d2_43) rfl rfl rfl ?_
        refine go_iload (q := 46) X0 hx (hb hby d2_44) rfl rfl ?_
        refine go_daload (q := 47) (v := (.double w3)) X0 hx hZ e0 V_ay ⟨by decide, by decide⟩ rfl (hb hby d2_46) rfl ?_
        refine go_aloadN (q := 48) X0 hx (hb hby d2_47) rfl rfl rfl ?_
        refine go_iconst (q := 49) (v := (0 : Int32)) X0 hx (hb hby d2_48) rfl rfl ?_
        refine go_daload (q := 50) (v := (.double w0)) X0 hx hZ e0 V_ay ⟨by decide, by decide⟩ rfl (hb hby d2_49) rfl ?_
        refine go_dsubB (q := 51) (C := 65536) X0 hx (hb hby d2_50) rfl Fw3 Fw0 (by decide) (by omega) (by omega) rfl (fun z21 hz21 => ?_)
        refine go_dmulB (q := 52) (kk := (E + E)) (C := 4294967296) X0 hx (hb hby d2_51) rfl hz20 hz21 (by decide) (by omega) (by omega) (by omega) rfl (fun z22 hz22 => ?_)
        refine go_dsubB (q := 53) (C := 8589934592) X0 hx (hb hby d2_52) rfl hz19 hz22 (by decide) (by omega) (by omega) rfl (fun z23 hz23 => ?_)
        refine go_daddB (q := 54) (C := 25769803776) X0 hx (hb hby d2_53) rfl hz16 hz23 (by decide) (by omega) (by omega) rfl (fun z24 hz24 => ?_)
        refine go_dstoreN (q := 55) (l' := #[.val (.ref ax), .val (.ref ay), .val (.int (6 : Int32)), .val (.double z24), .second, .val (.int (3 : Int32))]) X0 hx (hb hby d2_54) rfl rfl ?_
        refine go_iinc (q := 58) (l' := #[.val (.ref ax), .val (.ref ay), .val (.int (6 : Int32)), .val (.double z24), .second, .val (.int (4 : Int32))]) X0 hx (hb hby d2_55) rfl rfl rfl ?_
        refine go_goto (q := 5) X0 hx (hb hby d2_58) (by decide) rfl ?_
        refine go_iload (q := 7) X0 hx (hb hby d2_5) rfl rfl ?_
        refine go_iconst (q := 8) (v := (1 : Int32)) X0 hx (hb hby d2_7) rfl rfl ?_
        refine go_iadd (q := 9) (v := (5 : Int32)) X0 hx (hb hby d2_8) rfl rfl ?_
        refine go_iloadN (q := 10) X0 hx (hb hby d2_9) rfl rfl ?_
        refine go_icmp_ge (q := 13) (q' := 61) X0 hx (hb hby d2_10) rfl (by decide) rfl (fun hc10 => ?_) (fun hc10 => ?_)
        · exact absurd (by decide) hc10
        · refine go_dloadN (q := 14) X0 hx (hb hby d2_13) rfl rfl ?_
          refine go_aloadN (q := 15) X0 hx (hb hby d2_14) rfl rfl rfl ?_
          refine go_iload (q := 17) X0 hx (hb hby d2_15) rfl rfl ?_
          refine go_daload (q := 18) (v := (.double u4)) X0 hx hZ e0 V_ax ⟨by decide, by decide⟩ rfl (hb hby d2_17) rfl ?_
          refine go_aloadN (q := 19) X0 hx (hb hby d2_18) rfl rfl rfl ?_
          refine go_iconst (q := 20) (v := (0 : Int32)) X0 hx (hb hby d2_19) rfl rfl ?_
          refine go_daload (q := 21) (v := (.double u0)) X0 hx hZ e0 V_ax ⟨by decide, by decide⟩ rfl (hb hby d2_20) rfl ?_
          refine go_dsubB (q := 22) (C := 65536) X0 hx (hb hby d2_21) rfl Fu4 Fu0 (by decide) (by omega) (by omega) rfl (fun z25 hz25 => ?_)
          refine go_aloadN (q := 23) X0 hx (hb hby d2_22) rfl rfl rfl ?_
          refine go_iload (q := 25) X0 hx (hb hby d2_23) rfl rfl ?_
          refine go_iconst (q := 26) (v := (1 : Int32)) X0 hx (hb hby d2_25) rfl rfl ?_
          refine go_iadd (q := 27) (v := (5 : Int32)) X0 hx (hb hby d2_26) rfl rfl ?_
          refine go_daload (q := 28) (v := (.double w5)) X0 hx hZ e0 V_ay ⟨by decide, by decide⟩ rfl (hb hby d2_27) rfl ?_
          refine go_aloadN (q := 29) X0 hx (hb hby d2_28) rfl rfl rfl ?_
          refine go_iconst (q := 30) (v := (0 : Int32)) X0 hx (hb hby d2_29) rfl rfl ?_
          refine go_daload (q := 31) (v := (.double w0)) X0 hx hZ e0 V_ay ⟨by decide, by decide⟩ rfl (hb hby d2_30) rfl ?_
          refine go_dsubB (q := 32) (C := 65536) X0 hx (hb hby d2_31) rfl Fw5 Fw0 (by decide) (by omega) (by omega) rfl (fun z26 hz26 => ?_)
          refine go_dmulB (q := 33) (kk := (E + E)) (C := 4294967296) X0 hx (hb hby d2_32) rfl hz25 hz26 (by decide) (by omega) (by omega) (by omega) rfl (fun z27 hz27 => ?_)
          refine go_aloadN (q := 34) X0 hx (hb hby d2_33) rfl rfl rfl ?_
          refine go_iload (q := 36) X0 hx (hb hby d2_34) rfl rfl ?_
          refine go_iconst (q := 37) (v := (1 : Int32)) X0 hx (hb hby d2_36) rfl rfl ?_
          refine go_iadd (q := 38) (v := (5 : Int32)) X0 hx (hb hby d2_37) rfl rfl ?_
          refine go_daload (q := 39) (v := (.double u5)) X0 hx hZ e0 V_ax ⟨by decide, by decide⟩ rfl (hb hby d2_38) rfl ?_
          refine go_aloadN (q := 40) X0 hx (hb hby d2_39) rfl rfl rfl ?_
          refine go_iconst (q := 41) (v := (0 : Int32)) X0 hx (hb hby d2_40) rfl rfl ?_
          refine go_daload (q := 42) (v := (.double u0)) X0 hx hZ e0 V_ax ⟨by decide, by decide⟩ rfl (hb hby d2_41) rfl ?_
          refine go_dsubB (q := 43) (C := 65536) X0 hx (hb hby d2_42) rfl Fu5 Fu0 (by decide) (by omega) (by omega) rfl (fun z28 hz28 => ?_)
          refine go_aloadN (q := 44) X0 hx (hb hby d2_43) rfl rfl rfl ?_
          refine go_iload (q := 46) X0 hx (hb hby d2_44) rfl rfl ?_
          refine go_daload (q := 47) (v := (.double w4)) X0 hx hZ e0 V_ay ⟨by decide, by decide⟩ rfl (hb hby d2_46) rfl ?_
          refine go_aloadN (q := 48) X0 hx (hb hby d2_47) rfl rfl rfl ?_
          refine go_iconst (q := 49) (v := (0 : Int32)) X0 hx (hb hby d2_48) rfl rfl ?_
          refine go_daload (q := 50) (v := (.double w0)) X0 hx hZ e0 V_ay ⟨by decide, by decide⟩ rfl (hb hby d2_49) rfl ?_
          refine go_dsubB (q := 51) (C := 65536) X0 hx (hb hby d2_50) rfl Fw4 Fw0 (by decide) (by omega) (by omega) rfl (fun z29 hz29 => ?_)
          refine go_dmulB (q := 52) (kk := (E + E)) (C := 4294967296) X0 hx (hb hby d2_51) rfl hz28 hz29 (by decide) (by omega) (by omega) (by omega) rfl (fun z30 hz30 => ?_)
          refine go_dsubB (q := 53) (C := 8589934592) X0 hx (hb hby d2_52) rfl hz27 hz30 (by decide) (by omega) (by omega) rfl (fun z31 hz31 => ?_)
          refine go_daddB (q := 54) (C := 34359738368) X0 hx (hb hby d2_53) rfl hz24 hz31 (by decide) (by omega) (by omega) rfl (fun z32 hz32 => ?_)
          refine go_dstoreN (q := 55) (l' := #[.val (.ref ax), .val (.ref ay), .val (.int (6 : Int32)), .val (.double z32), .second, .val (.int (4 : Int32))]) X0 hx (hb hby d2_54) rfl rfl ?_
          refine go_iinc (q := 58) (l' := #[.val (.ref ax), .val (.ref ay), .val (.int (6 : Int32)), .val (.double z32), .second, .val (.int (5 : Int32))]) X0 hx (hb hby d2_55) rfl rfl rfl ?_
          refine go_goto (q := 5) X0 hx (hb hby d2_58) (by decide) rfl ?_
          refine go_iload (q := 7) X0 hx (hb hby d2_5) rfl rfl ?_
          refine go_iconst (q := 8) (v := (1 : Int32)) X0 hx (hb hby d2_7) rfl rfl ?_
          refine go_iadd (q := 9) (v := (6 : Int32)) X0 hx (hb hby d2_8) rfl rfl ?_
          refine go_iloadN (q := 10) X0 hx (hb hby d2_9) rfl rfl ?_
          refine go_icmp_ge (q := 13) (q' := 61) X0 hx (hb hby d2_10) rfl (by decide) rfl (fun hc10 => ?_) (fun hc10 => ?_)
          · refine go_dloadN (q := 62) X0 hx (hb hby d2_61) rfl rfl ?_
            refine go_ldc2D (q := 65) (v := (4611686018427387904 : UInt64)) X0 hx hZ hown (hw _ (List.mem_of_getElem? (i := 10) rfl)) (hb hby d2_62) rfl ?_
            refine go_ddivB (q := 66) (kk := (E + E - 1)) (w0 := ((((0 + (((m1 - m0) * (n2 - n0)) - ((m2 - m0) * (n1 - n0)))) + (((m2 - m0) * (n3 - n0)) - ((m3 - m0) * (n2 - n0)))) + (((m3 - m0) * (n4 - n0)) - ((m4 - m0) * (n3 - n0)))) + (((m4 - m0) * (n5 - n0)) - ((m5 - m0) * (n4 - n0))))) X0 hx (hb hby d2_65) rfl hz32 own_two (by decide) (by omega) (by decide) (by omega) (by omega) (by omega) (fun z33 hz33 => ?_)
            exact go_retD X0 hx hret hlk (hb hby d2_66) (by decide) (by decide) ⟨fun _ => Fr.nil _, ⟨_, rfl, hz33⟩, e0⟩
          · exact absurd hc10 (by decide)
theorem pn_0 : plainName "com/example/orbweave/orbweave/plane/ConvexShoelacePinLaw" = true := by first | (simp [plainName, overriddenIn]; done) | decide +kernel
theorem ef_0 (m : MethodId) (x0 : Int64) (x1 : Int64) (x2 : Int64) (x3 : Int32) : entryFrame m #[(.long x0), (.long x1), (.long x2), (.int x3)] maxLocals = mkF m 0 #[.val (.long x0), .second, .val (.long x1), .second, .val (.long x2), .second, .val (.int x3), .unset, .unset, .unset, .unset, .unset, .unset, .unset, .unset, .unset, .unset, .unset, .unset, .unset, .unset, .unset] [] := by first | (simp [entryFrame, mkF, argsToLocals, Value.category, maxLocals]; done) | rfl
set_option maxRecDepth 65536 in
set_option maxHeartbeats 40000000 in
theorem rm0 (l : Launch) (Z : State) (a0 : Array Value) (hw : ∀ d ∈ tables_1, d.before a0 Z = true) (ws : List Jvm.Cond) (p_ : Int64) (q_ : Int64) (r_ : Int64) (k_ : Int32)  (h0 : Heap)  :
    Con l x code maxLocals ret ws room_1 Z #[(.long p_), (.long q_), (.long r_), (.int k_)] h0 (fun v h L => v = some (.int (1 : Int32)) ∧ Fr h0.size L) := by
  refine con_of (plainFor_of_name pn_0) ?_
  intro p e s m below meth c s₁ X0 hx hby hml hret hlk hown hnm hZ e0
  refine Go.cast (ef_0 m p_ q_ r_ k_) ?_
  have N0 := Fr.nil h0.size
  have hsz : h0.size ≤ h0.size := (Nat.le_refl _)
  refine go_iload (q := 2) X0 hx (hb hby at_0) rfl rfl ?_
  refine go_bipush (q := 4) (v := (7 : Int32)) X0 hx (hb hby at_2) rfl rfl ?_
  refine go_iand (q := 5) (v := (k_ &&& (7 : Int32))) X0 hx (hb hby at_4) rfl rfl ?_
  refine go_bipush (q := 7) (v := (7 : Int32)) X0 hx (hb hby at_5) rfl rfl ?_
  refine go_irem (q := 8) (v := ((k_ &&& (7 : Int32)) % (7 : Int32))) X0 hx (hb hby at_7) rfl (by decide) rfl ?_
  refine go_istore (q := 10) (l' := #[.val (.long p_), .second, .val (.long q_), .second, .val (.long r_), .second, .val (.int k_), .val (.int ((k_ &&& (7 : Int32)) % (7 : Int32))), .unset, .unset, .unset, .unset, .unset, .unset, .unset, .unset, .unset, .unset, .unset, .unset, .unset, .unset]) X0 hx (hb hby at_8) rfl rfl ?_
  suffices Hn_ : ∀ n_ : Int32, n_ = ((k_ &&& (7 : Int32)) % (7 : Int32)) → Go p e below s (fun v h L => v = some (.int (1 : Int32)) ∧ Fr h0.size L) room_1.cells room_1.slots s₁ (mkF m 10 #[.val (.long p_), .second, .val (.long q_), .second, .val (.long r_), .second, .val (.int k_), .val (.int n_), .unset, .unset, .unset, .unset, .unset, .unset, .unset, .unset, .unset, .unset, .unset, .unset, .unset, .unset] []) from Hn_ _ rfl
  intro n_ en_
  have hn : n_ = 0 ∨ n_ = 1 ∨ n_ = 2 ∨ n_ = 3 ∨ n_ = 4 ∨ n_ = 5 ∨ n_ = 6 := by rw [en_]; exact own_n _
  refine go_iload (q := 12) X0 hx (hb hby at_10) rfl rfl ?_
  refine go_iconst (q := 13) (v := (3 : Int32)) X0 hx (hb hby at_12) rfl rfl ?_
  refine go_iushr (q := 14) (v := ((k_.toUInt32 >>> ((3 : Int32) &&& 31).toUInt32).toInt32)) X0 hx (hb hby at_13) rfl rfl ?_
  refine go_bipush (q := 16) (v := (31 : Int32)) X0 hx (hb hby at_14) rfl rfl ?_
  refine go_iand (q := 17) (v := (((k_.toUInt32 >>> ((3 : Int32) &&& 31).toUInt32).toInt32) &&& (31 : Int32))) X0 hx (hb hby at_16) rfl rfl ?_
  refine go_istore (q := 19) (l' := #[.val (.long p_), .second, .val (.long q_), .second, .val (.long r_), .second, .val (.int k_), .val (.int n_), .val (.int (((k_.toUInt32 >>> ((3 : Int32) &&& 31).toUInt32).toInt32) &&& (31 : Int32))), .unset, .unset, .unset, .unset, .unset, .unset, .unset, .unset, .unset, .unset, .unset, .unset, .unset]) X0 hx (hb hby at_17) rfl rfl ?_
  suffices Ht_ : ∀ t_ : Int32, t_ = (((k_.toUInt32 >>> ((3 : Int32) &&& 31).toUInt32).toInt32) &&& (31 : Int32)) → Go p e below s (fun v h L => v = some (.int (1 : Int32)) ∧ Fr h0.size L) room_1.cells room_1.slots s₁ (mkF m 19 #[.val (.long p_), .second, .val (.long q_), .second, .val (.long r_), .second, .val (.int k_), .val (.int n_), .val (.int t_), .unset, .unset, .unset, .unset, .unset, .unset, .unset, .unset, .unset, .unset, .unset, .unset, .unset] []) from Ht_ _ rfl
  intro t_ et_
  have ht : 0 ≤ t_.toInt ∧ t_.toInt ≤ 31 := by rw [et_]; exact own_t _
  refine go_iload (q := 21) X0 hx (hb hby at_19) rfl rfl ?_
  refine go_bipush (q := 23) (v := (8 : Int32)) X0 hx (hb hby at_21) rfl rfl ?_
  refine go_iushr (q := 24) (v := ((k_.toUInt32 >>> ((8 : Int32) &&& 31).toUInt32).toInt32)) X0 hx (hb hby at_23) rfl rfl ?_
  refine go_iconst (q := 25) (v := (1 : Int32)) X0 hx (hb hby at_24) rfl rfl ?_
  refine go_iand (q := 26) (v := (((k_.toUInt32 >>> ((8 : Int32) &&& 31).toUInt32).toInt32) &&& (1 : Int32))) X0 hx (hb hby at_25) rfl rfl ?_
  suffices J0 : ∀ sk : Int32, Go p e below s (fun v h L => v = some (.int (1 : Int32)) ∧ Fr h0.size L) room_1.cells room_1.slots s₁ (mkF m 36 #[.val (.long p_), .second, .val (.long q_), .second, .val (.long r_), .second, .val (.int k_), .val (.int n_), .val (.int t_), .val (.int sk), .unset, .unset, .unset, .unset, .unset, .unset, .unset, .unset, .unset, .unset, .unset, .unset] []) by
    refine go_if_eq (q := 29) (q' := 33) X0 hx (hb hby at_26) rfl (by decide) rfl (fun hc26 => ?_) (fun hc26 => ?_)
    · refine go_iconst (q := 34) (v := (0 : Int32)) X0 hx (hb hby at_33) rfl rfl ?_
      refine go_istore (q := 36) (l' := #[.val (.long p_), .second, .val (.long q_), .second, .val (.long r_), .second, .val (.int k_), .val (.int n_), .val (.int t_), .val (.int (0 : Int32)), .unset, .unset, .unset, .unset, .unset, .unset, .unset, .unset, .unset, .unset, .unset, .unset]) X0 hx (hb hby at_34) rfl rfl ?_
      exact J0 _
    · refine go_iconst (q := 30) (v := (1 : Int32)) X0 hx (hb hby at_29) rfl rfl ?_
      refine go_goto (q := 34) X0 hx (hb hby at_30) (by decide) rfl ?_
      refine go_istore (q := 36) (l' := #[.val (.long p_), .second, .val (.long q_), .second, .val (.long r_), .second, .val (.int k_), .val (.int n_), .val (.int t_), .val (.int (1 : Int32)), .unset, .unset, .unset, .unset, .unset, .unset, .unset, .unset, .unset, .unset, .unset, .unset]) X0 hx (hb hby at_34) rfl rfl ?_
      exact J0 _
  intro sk
  refine go_lconst (q := 37) (v := (1 : Int64)) X0 hx (hb hby at_36) rfl rfl ?_
  refine go_iload (q := 39) X0 hx (hb hby at_37) rfl rfl ?_
  refine go_lshl (q := 40) (v := ((1 : Int64) <<< (t_ &&& 0x3f).toInt64)) X0 hx (hb hby at_39) rfl rfl ?_
  suffices Hpw : ∀ pw : Int64, pw = ((1 : Int64) <<< (t_ &&& 0x3f).toInt64) → Go p e below s (fun v h L => v = some (.int (1 : Int32)) ∧ Fr h0.size L) room_1.cells room_1.slots s₁ (mkF m 40 #[.val (.long p_), .second, .val (.long q_), .second, .val (.long r_), .second, .val (.int k_), .val (.int n_), .val (.int t_), .val (.int sk), .unset, .unset, .unset, .unset, .unset, .unset, .unset, .unset, .unset, .unset, .unset, .unset] [(.long pw)]) from Hpw _ rfl
  intro pw epw
  have hpw : pw.toInt = 2 ^ t_.toInt.toNat := by rw [epw]; exact own_pw ht
  refine go_l2d (q := 41) X0 hx (hb hby at_40) rfl rfl ?_
  refine go_dstore (q := 43) (l' := #[.val (.long p_), .second, .val (.long q_), .second, .val (.long r_), .second, .val (.int k_), .val (.int n_), .val (.int t_), .val (.int sk), .val (.double (FP.l2d pw)), .second, .unset, .unset, .unset, .unset, .unset, .unset, .unset, .unset, .unset, .unset]) X0 hx (hb hby at_41) rfl rfl ?_
  refine go_iload (q := 45) X0 hx (hb hby at_43) rfl rfl ?_
  suffices J1 : ∀ (sc : UInt64) (E : Int), -31 ≤ E ∧ E ≤ 31 → DB E 1 1 sc → Go p e below s (fun v h L => v = some (.int (1 : Int32)) ∧ Fr h0.size L) room_1.cells room_1.slots s₁ (mkF m 54 #[.val (.long p_), .second, .val (.long q_), .second, .val (.long r_), .second, .val (.int k_), .val (.int n_), .val (.int t_), .val (.int sk), .val (.double sc), .second, .unset, .unset, .unset, .unset, .unset, .unset, .unset, .unset, .unset, .unset] []) by
    refine go_if_eq (q := 48) (q' := 54) X0 hx (hb hby at_45) rfl (by decide) rfl (fun hc45 => ?_) (fun hc45 => ?_)
    · exact J1 _ t_.toInt ⟨by omega, by omega⟩ ⟨own_l2p hpw ht, by decide⟩
    · refine go_dconst1 (q := 49) (v := (4607182418800017408 : UInt64)) X0 hx (hb hby at_48) rfl rfl ?_
      refine go_dload (q := 51) X0 hx (hb hby at_49) rfl rfl ?_
      refine go_ddiv (q := 52) X0 hx (hb hby at_51) rfl (own_inv hpw ht).2 rfl ?_
      refine go_dstore (q := 54) (l' := #[.val (.long p_), .second, .val (.long q_), .second, .val (.long r_), .second, .val (.int k_), .val (.int n_), .val (.int t_), .val (.int sk), .val (.double (FP.ddiv (4607182418800017408 : UInt64) (FP.l2d pw))), .second, .unset, .unset, .unset, .unset, .unset, .unset, .unset, .unset, .unset, .unset]) X0 hx (hb hby at_52) rfl rfl ?_
      exact J1 _ (0 - t_.toInt) ⟨by omega, by omega⟩ ⟨(own_inv hpw ht).1, by decide⟩
  intro sc E hE hsc
  refine go_bipush (q := 56) (v := (6 : Int32)) X0 hx (hb hby at_54) rfl rfl ?_
  refine go_newP (q := 58) X0 hx hZ (hw _ (List.mem_of_getElem? (i := 0) rfl)) e0 (hb hby at_56) rfl (by decide) 6 (by decide) (by decide) (by decide) (by decide) (fun T1 h1 k_bx bx eb1 X1 e1 E1 V_bx => ?_)
  have g_bx : h0.size ≤ bx := Nat.le_trans hsz (Nat.le_of_eq eb1.symm)
  replace hsz := Nat.le_trans hsz E1.1
  replace V_bx : Arv Z h1 bx k_bx .int (6 : Int32) [(.int (0 : Int32)), (.int (0 : Int32)), (.int (0 : Int32)), (.int (0 : Int32)), (.int (0 : Int32)), (.int (0 : Int32))] (.int (0 : Int32)) := V_bx.pad (pad_rep [] (.int (0 : Int32)) 6)
  refine go_dup (q := 59) X1 hx (hb hby at_58) rfl rfl ?_
  refine go_iconst (q := 60) (v := (0 : Int32)) X1 hx (hb hby at_59) rfl rfl ?_
  refine go_lloadN (q := 61) X1 hx (hb hby at_60) rfl rfl ?_
  refine go_iconst (q := 62) (v := (0 : Int32)) X1 hx (hb hby at_61) rfl rfl ?_
  refine go_callS (q := 65) (W := 3) X1 hx hZ hown e1 (hw _ (List.mem_of_getElem? (i := 1) rfl)) (hw _ (List.mem_of_getElem? (i := 2) rfl)) (hw _ (List.mem_of_getElem? (i := 3) rfl)) (hw _ (List.mem_of_getElem? (i := 4) rfl)) (by decide) [(.long p_), (.int (0 : Int32))] [(.int (0 : Int32)), (.ref bx), (.ref bx)] (rm1 l Z a0 hw [] p_ (0 : Int32) h1) (by rw [hml]; rfl) rfl (lenOf pd_0 rfl) (Nat.le_of_eq rfl) (by decide) (by decide) (hb hby at_62) rfl (by decide) (by decide) ?_
  rintro T2 L2 v2 X2 ⟨Np2, ⟨x0, rfl, hx0⟩, e2⟩
  have N2 := Fr.app N0 (Np2 _)
  show Go p e below s (fun v h L => v = some (.int (1 : Int32)) ∧ Fr h0.size L) room_1.cells room_1.slots T2 (mkF m 65 #[.val (.long p_), .second, .val (.long q_), .second, .val (.long r_), .second, .val (.int k_), .val (.int n_), .val (.int t_), .val (.int sk), .val (.double sc), .second, .unset, .unset, .unset, .unset, .unset, .unset, .unset, .unset, .unset, .unset] [(.int x0), (.int (0 : Int32)), (.ref bx), (.ref bx)])
  refine go_iastore (q := 66) X2 hx hZ e2 V_bx ⟨by decide, by decide⟩ 0 rfl (Nat.le_of_ble_eq_true rfl) N2 g_bx (hb hby at_65) rfl (fun T3 h3 l3 X3 N3 e3 W3 V3 => ?_)
  replace hsz := Nat.le_trans hsz (Nat.le_of_eq W3.size.symm)
  replace V_bx : Arv Z h3 bx k_bx .int (6 : Int32) [(.int x0), (.int (0 : Int32)), (.int (0 : Int32)), (.int (0 : Int32)), (.int (0 : Int32)), (.int (0 : Int32))] (.int (0 : Int32)) := V3
  refine go_dup (q := 67) X3 hx (hb hby at_66) rfl rfl ?_
  refine go_iconst (q := 68) (v := (1 : Int32)) X3 hx (hb hby at_67) rfl rfl ?_
  refine go_lloadN (q := 69) X3 hx (hb hby at_68) rfl rfl ?_
  refine go_iconst (q := 70) (v := (2 : Int32)) X3 hx (hb hby at_69) rfl rfl ?_
  refine go_callS (q := 73) (W := 3) X3 hx hZ hown e3 (hw _ (List.mem_of_getElem? (i := 1) rfl)) (hw _ (List.mem_of_getElem? (i := 2) rfl)) (hw _ (List.mem_of_getElem? (i := 3) rfl)) (hw _ (List.mem_of_getElem? (i := 4) rfl)) (by decide) [(.long p_), (.int (2 : Int32))] [(.int (1 : Int32)), (.ref bx), (.ref bx)] (rm1 l Z a0 hw [] p_ (2 : Int32) h3) (by rw [hml]; rfl) rfl (lenOf pd_0 rfl) (Nat.le_of_eq rfl) (by decide) (by decide) (hb hby at_70) rfl (by decide) (by decide) ?_
  rintro T4 L4 v4 X4 ⟨Np4, ⟨x1, rfl, hx1⟩, e4⟩
  have N4 := Fr.app N3 (Np4 _)
  show Go p e below s (fun v h L => v = some (.int (1 : Int32)) ∧ Fr h0.size L) room_1.cells room_1.slots T4 (mkF m 73 #[.val (.long p_), .second, .val (.long q_), .second, .val (.long r_), .second, .val (.int k_), .val (.int n_), .val (.int t_), .val (.int sk), .val (.double sc), .second, .unset, .unset, .unset, .unset, .unset, .unset, .unset, .unset, .unset, .unset] [(.int x1), (.int (1 : Int32)), (.ref bx), (.ref bx)])
  refine go_iastore (q := 74) X4 hx hZ e4 V_bx ⟨by decide, by decide⟩ 1 rfl (Nat.le_of_ble_eq_true rfl) N4 g_bx (hb hby at_73) rfl (fun T5 h5 l5 X5 N5 e5 W5 V5 => ?_)
  replace hsz := Nat.le_trans hsz (Nat.le_of_eq W5.size.symm)
  replace V_bx : Arv Z h5 bx k_bx .int (6 : Int32) [(.int x0), (.int x1), (.int (0 : Int32)), (.int (0 : Int32)), (.int (0 : Int32)), (.int (0 : Int32))] (.int (0 : Int32)) := V5
  refine go_dup (q := 75) X5 hx (hb hby at_74) rfl rfl ?_
  refine go_iconst (q := 76) (v := (2 : Int32)) X5 hx (hb hby at_75) rfl rfl ?_
  refine go_lloadN (q := 77) X5 hx (hb hby at_76) rfl rfl ?_
  refine go_iconst (q := 78) (v := (0 : Int32)) X5 hx (hb hby at_77) rfl rfl ?_
  refine go_callS (q := 81) (W := 3) X5 hx hZ hown e5 (hw _ (List.mem_of_getElem? (i := 1) rfl)) (hw _ (List.mem_of_getElem? (i := 2) rfl)) (hw _ (List.mem_of_getElem? (i := 3) rfl)) (hw _ (List.mem_of_getElem? (i := 4) rfl)) (by decide) [(.long q_), (.int (0 : Int32))] [(.int (2 : Int32)), (.ref bx), (.ref bx)] (rm1 l Z a0 hw [] q_ (0 : Int32) h5) (by rw [hml]; rfl) rfl (lenOf pd_0 rfl) (Nat.le_of_eq rfl) (by decide) (by decide) (hb hby at_78) rfl (by decide) (by decide) ?_
  rintro T6 L6 v6 X6 ⟨Np6, ⟨x2, rfl, hx2⟩, e6⟩
  have N6 := Fr.app N5 (Np6 _)
  show Go p e below s (fun v h L => v = some (.int (1 : Int32)) ∧ Fr h0.size L) room_1.cells room_1.slots T6 (mkF m 81 #[.val (.long p_), .second, .val (.long q_), .second, .val (.long r_), .second, .val (.int k_), .val (.int n_), .val (.int t_), .val (.int sk), .val (.double sc), .second, .unset, .unset, .unset, .unset, .unset, .unset, .unset, .unset, .unset, .unset] [(.int x2), (.int (2 : Int32)), (.ref bx), (.ref bx)])
  refine go_iastore (q := 82) X6 hx hZ e6 V_bx ⟨by decide, by decide⟩ 2 rfl (Nat.le_of_ble_eq_true rfl) N6 g_bx (hb hby at_81) rfl (fun T7 h7 l7 X7 N7 e7 W7 V7 => ?_)
  replace hsz := Nat.le_trans hsz (Nat.le_of_eq W7.size.symm)
  replace V_bx : Arv Z h7 bx k_bx .int (6 : Int32) [(.int x0), (.int x1), (.int x2), (.int (0 : Int32)), (.int (0 : Int32)), (.int (0 : Int32))] (.int (0 : Int32)) := V7
  refine go_dup (q := 83) X7 hx (hb hby at_82) rfl rfl ?_
  refine go_iconst (q := 84) (v := (3 : Int32)) X7 hx (hb hby at_83) rfl rfl ?_
  refine go_lloadN (q := 85) X7 hx (hb hby at_84) rfl rfl ?_
  refine go_iconst (q := 86) (v := (2 : Int32)) X7 hx (hb hby at_85) rfl rfl ?_
  refine go_callS (q := 89) (W := 3) X7 hx hZ hown e7 (hw _ (List.mem_of_getElem? (i := 1) rfl)) (hw _ (List.mem_of_getElem? (i := 2) rfl)) (hw _ (List.mem_of_getElem? (i := 3) rfl)) (hw _ (List.mem_of_getElem? (i := 4) rfl)) (by decide) [(.long q_), (.int (2 : Int32))] [(.int (3 : Int32)), (.ref bx), (.ref bx)] (rm1 l Z a0 hw [] q_ (2 : Int32) h7) (by rw [hml]; rfl) rfl (lenOf pd_0 rfl) (Nat.le_of_eq rfl) (by decide) (by decide) (hb hby at_86) rfl (by decide) (by decide) ?_
  rintro T8 L8 v8 X8 ⟨Np8, ⟨x3, rfl, hx3⟩, e8⟩
  have N8 := Fr.app N7 (Np8 _)
  show Go p e below s (fun v h L => v = some (.int (1 : Int32)) ∧ Fr h0.size L) room_1.cells room_1.slots T8 (mkF m 89 #[.val (.long p_), .second, .val (.long q_), .second, .val (.long r_), .second, .val (.int k_), .val (.int n_), .val (.int t_), .val (.int sk), .val (.double sc), .second, .unset, .unset, .unset, .unset, .unset, .unset, .unset, .unset, .unset, .unset] [(.int x3), (.int (3 : Int32)), (.ref bx), (.ref bx)])
  refine go_iastore (q := 90) X8 hx hZ e8 V_bx ⟨by decide, by decide⟩ 3 rfl (Nat.le_of_ble_eq_true rfl) N8 g_bx (hb hby at_89) rfl (fun T9 h9 l9 X9 N9 e9 W9 V9 => ?_)
  replace hsz := Nat.le_trans hsz (Nat.le_of_eq W9.size.symm)
  replace V_bx : Arv Z h9 bx k_bx .int (6 : Int32) [(.int x0), (.int x1), (.int x2), (.int x3), (.int (0 : Int32)), (.int (0 : Int32))] (.int (0 : Int32)) := V9
  refine go_dup (q := 91) X9 hx (hb hby at_90) rfl rfl ?_
  refine go_iconst (q := 92) (v := (4 : Int32)) X9 hx (hb hby at_91) rfl rfl ?_
  refine go_lload (q := 94) X9 hx (hb hby at_92) rfl rfl ?_
  refine go_iconst (q := 95) (v := (0 : Int32)) X9 hx (hb hby at_94) rfl rfl ?_
  refine go_callS (q := 98) (W := 3) X9 hx hZ hown e9 (hw _ (List.mem_of_getElem? (i := 1) rfl)) (hw _ (List.mem_of_getElem? (i := 2) rfl)) (hw _ (List.mem_of_getElem? (i := 3) rfl)) (hw _ (List.mem_of_getElem? (i := 4) rfl)) (by decide) [(.long r_), (.int (0 : Int32))] [(.int (4 : Int32)), (.ref bx), (.ref bx)] (rm1 l Z a0 hw [] r_ (0 : Int32) h9) (by rw [hml]; rfl) rfl (lenOf pd_0 rfl) (Nat.le_of_eq rfl) (by decide) (by decide) (hb hby at_95) rfl (by decide) (by decide) ?_
  rintro T10 L10 v10 X10 ⟨Np10, ⟨x4, rfl, hx4⟩, e10⟩
  have N10 := Fr.app N9 (Np10 _)
  show Go p e below s (fun v h L => v = some (.int (1 : Int32)) ∧ Fr h0.size L) room_1.cells room_1.slots T10 (mkF m 98 #[.val (.long p_), .second, .val (.long q_), .second, .val (.long r_), .second, .val (.int k_), .val (.int n_), .val (.int t_), .val (.int sk), .val (.double sc), .second, .unset, .unset, .unset, .unset, .unset, .unset, .unset, .unset, .unset, .unset] [(.int x4), (.int (4 : Int32)), (.ref bx), (.ref bx)])
  refine go_iastore (q := 99) X10 hx hZ e10 V_bx ⟨by decide, by decide⟩ 4 rfl (Nat.le_of_ble_eq_true rfl) N10 g_bx (hb hby at_98) rfl (fun T11 h11 l11 X11 N11 e11 W11 V11 => ?_)
  replace hsz := Nat.le_trans hsz (Nat.le_of_eq W11.size.symm)
  replace V_bx : Arv Z h11 bx k_bx .int (6 : Int32) [(.int x0), (.int x1), (.int x2), (.int x3), (.int x4), (.int (0 : Int32))] (.int (0 : Int32)) := V11
  refine go_dup (q := 100) X11 hx (hb hby at_99) rfl rfl ?_
  refine go_iconst (q := 101) (v := (5 : Int32)) X11 hx (hb hby at_100) rfl rfl ?_
  refine go_lload (q := 103) X11 hx (hb hby at_101) rfl rfl ?_
  refine go_iconst (q := 104) (v := (2 : Int32)) X11 hx (hb hby at_103) rfl rfl ?_
  refine go_callS (q := 107) (W := 3) X11 hx hZ hown e11 (hw _ (List.mem_of_getElem? (i := 1) rfl)) (hw _ (List.mem_of_getElem? (i := 2) rfl)) (hw _ (List.mem_of_getElem? (i := 3) rfl)) (hw _ (List.mem_of_getElem? (i := 4) rfl)) (by decide) [(.long r_), (.int (2 : Int32))] [(.int (5 : Int32)), (.ref bx), (.ref bx)] (rm1 l Z a0 hw [] r_ (2 : Int32) h11) (by rw [hml]; rfl) rfl (lenOf pd_0 rfl) (Nat.le_of_eq rfl) (by decide) (by decide) (hb hby at_104) rfl (by decide) (by decide) ?_
  rintro T12 L12 v12 X12 ⟨Np12, ⟨x5, rfl, hx5⟩, e12⟩
  have N12 := Fr.app N11 (Np12 _)
  show Go p e below s (fun v h L => v = some (.int (1 : Int32)) ∧ Fr h0.size L) room_1.cells room_1.slots T12 (mkF m 107 #[.val (.long p_), .second, .val (.long q_), .second, .val (.long r_), .second, .val (.int k_), .val (.int n_), .val (.int t_), .val (.int sk), .val (.double sc), .second, .unset, .unset, .unset, .unset, .unset, .unset, .unset, .unset, .unset, .unset] [(.int x5), (.int (5 : Int32)), (.ref bx), (.ref bx)])
  refine go_iastore (q := 108) X12 hx hZ e12 V_bx ⟨by decide, by decide⟩ 5 rfl (Nat.le_of_ble_eq_true rfl) N12 g_bx (hb hby at_107) rfl (fun T13 h13 l13 X13 N13 e13 W13 V13 => ?_)
  replace hsz := Nat.le_trans hsz (Nat.le_of_eq W13.size.symm)
  replace V_bx : Arv Z h13 bx k_bx .int (6 : Int32) [(.int x0), (.int x1), (.int x2), (.int x3), (.int x4), (.int x5)] (.int (0 : Int32)) := V13
  refine go_astore (q := 110) (l' := #[.val (.long p_), .second, .val (.long q_), .second, .val (.long r_), .second, .val (.int k_), .val (.int n_), .val (.int t_), .val (.int sk), .val (.double sc), .second, .val (.ref bx), .unset, .unset, .unset, .unset, .unset, .unset, .unset, .unset, .unset]) X13 hx (hb hby at_108) rfl rfl rfl ?_
  refine go_bipush (q := 112) (v := (6 : Int32)) X13 hx (hb hby at_110) rfl rfl ?_
  refine go_newP (q := 114) X13 hx hZ (hw _ (List.mem_of_getElem? (i := 0) rfl)) e13 (hb hby at_112) rfl (by decide) 6 (by decide) (by decide) (by decide) (by decide) (fun T14 h14 k_bw bw eb14 X14 e14 E14 V_bw => ?_)
  have g_bw : h0.size ≤ bw := Nat.le_trans hsz (Nat.le_of_eq eb14.symm)
  have ne_bx_bw : bx ≠ bw := Nat.ne_of_lt (Nat.lt_of_lt_of_eq V_bx.lt eb14.symm)
  replace V_bx := V_bx.ext E14
  replace hsz := Nat.le_trans hsz E14.1
  replace V_bw : Arv Z h14 bw k_bw .int (6 : Int32) [(.int (0 : Int32)), (.int (0 : Int32)), (.int (0 : Int32)), (.int (0 : Int32)), (.int (0 : Int32)), (.int (0 : Int32))] (.int (0 : Int32)) := V_bw.pad (pad_rep [] (.int (0 : Int32)) 6)
  refine go_dup (q := 115) X14 hx (hb hby at_114) rfl rfl ?_
  refine go_iconst (q := 116) (v := (0 : Int32)) X14 hx (hb hby at_115) rfl rfl ?_
  refine go_lloadN (q := 117) X14 hx (hb hby at_116) rfl rfl ?_
  refine go_iconst (q := 118) (v := (1 : Int32)) X14 hx (hb hby at_117) rfl rfl ?_
  refine go_callS (q := 121) (W := 3) X14 hx hZ hown e14 (hw _ (List.mem_of_getElem? (i := 1) rfl)) (hw _ (List.mem_of_getElem? (i := 2) rfl)) (hw _ (List.mem_of_getElem? (i := 3) rfl)) (hw _ (List.mem_of_getElem? (i := 4) rfl)) (by decide) [(.long p_), (.int (1 : Int32))] [(.int (0 : Int32)), (.ref bw), (.ref bw)] (rm1 l Z a0 hw [] p_ (1 : Int32) h14) (by rw [hml]; rfl) rfl (lenOf pd_0 rfl) (Nat.le_of_eq rfl) (by decide) (by decide) (hb hby at_118) rfl (by decide) (by decide) ?_
  rintro T15 L15 v15 X15 ⟨Np15, ⟨y0, rfl, hy0⟩, e15⟩
  have N15 := Fr.app N13 (Np15 _)
  show Go p e below s (fun v h L => v = some (.int (1 : Int32)) ∧ Fr h0.size L) room_1.cells room_1.slots T15 (mkF m 121 #[.val (.long p_), .second, .val (.long q_), .second, .val (.long r_), .second, .val (.int k_), .val (.int n_), .val (.int t_), .val (.int sk), .val (.double sc), .second, .val (.ref bx), .unset, .unset, .unset, .unset, .unset, .unset, .unset, .unset, .unset] [(.int y0), (.int (0 : Int32)), (.ref bw), (.ref bw)])
  refine go_iastore (q := 122) X15 hx hZ e15 V_bw ⟨by decide, by decide⟩ 0 rfl (Nat.le_of_ble_eq_true rfl) N15 g_bw (hb hby at_121) rfl (fun T16 h16 l16 X16 N16 e16 W16 V16 => ?_)
  replace V_bx := V_bx.other W16 ne_bx_bw
  replace hsz := Nat.le_trans hsz (Nat.le_of_eq W16.size.symm)
  replace V_bw : Arv Z h16 bw k_bw .int (6 : Int32) [(.int y0), (.int (0 : Int32)), (.int (0 : Int32)), (.int (0 : Int32)), (.int (0 : Int32)), (.int (0 : Int32))] (.int (0 : Int32)) := V16
  refine go_dup (q := 123) X16 hx (hb hby at_122) rfl rfl ?_
  refine go_iconst (q := 124) (v := (1 : Int32)) X16 hx (hb hby at_123) rfl rfl ?_
  refine go_lloadN (q := 125) X16 hx (hb hby at_124) rfl rfl ?_
  refine go_iconst (q := 126) (v := (3 : Int32)) X16 hx (hb hby at_125) rfl rfl ?_
  refine go_callS (q := 129) (W := 3) X16 hx hZ hown e16 (hw _ (List.mem_of_getElem? (i := 1) rfl)) (hw _ (List.mem_of_getElem? (i := 2) rfl)) (hw _ (List.mem_of_getElem? (i := 3) rfl)) (hw _ (List.mem_of_getElem? (i := 4) rfl)) (by decide) [(.long p_), (.int (3 : Int32))] [(.int (1 : Int32)), (.ref bw), (.ref bw)] (rm1 l Z a0 hw [] p_ (3 : Int32) h16) (by rw [hml]; rfl) rfl (lenOf pd_0 rfl) (Nat.le_of_eq rfl) (by decide) (by decide) (hb hby at_126) rfl (by decide) (by decide) ?_
  rintro T17 L17 v17 X17 ⟨Np17, ⟨y1, rfl, hy1⟩, e17⟩
  have N17 := Fr.app N16 (Np17 _)
  show Go p e below s (fun v h L => v = some (.int (1 : Int32)) ∧ Fr h0.size L) room_1.cells room_1.slots T17 (mkF m 129 #[.val (.long p_), .second, .val (.long q_), .second, .val (.long r_), .second, .val (.int k_), .val (.int n_), .val (.int t_), .val (.int sk), .val (.double sc), .second, .val (.ref bx), .unset, .unset, .unset, .unset, .unset, .unset, .unset, .unset, .unset] [(.int y1), (.int (1 : Int32)), (.ref bw), (.ref bw)])
  refine go_iastore (q := 130) X17 hx hZ e17 V_bw ⟨by decide, by decide⟩ 1 rfl (Nat.le_of_ble_eq_true rfl) N17 g_bw (hb hby at_129) rfl (fun T18 h18 l18 X18 N18 e18 W18 V18 => ?_)
  replace V_bx := V_bx.other W18 ne_bx_bw
  replace hsz := Nat.le_trans hsz (Nat.le_of_eq W18.size.symm)
  replace V_bw : Arv Z h18 bw k_bw .int (6 : Int32) [(.int y0), (.int y1), (.int (0 : Int32)), (.int (0 : Int32)), (.int (0 : Int32)), (.int (0 : Int32))] (.int (0 : Int32)) := V18
  refine go_dup (q := 131) X18 hx (hb hby at_130) rfl rfl ?_
  refine go_iconst (q := 132) (v := (2 : Int32)) X18 hx (hb hby at_131) rfl rfl ?_
  refine go_lloadN (q := 133) X18 hx (hb hby at_132) rfl rfl ?_
  refine go_iconst (q := 134) (v := (1 : Int32)) X18 hx (hb hby at_133) rfl rfl ?_
  refine go_callS (q := 137) (W := 3) X18 hx hZ hown e18 (hw _ (List.mem_of_getElem? (i := 1) rfl)) (hw _ (List.mem_of_getElem? (i := 2) rfl)) (hw _ (List.mem_of_getElem? (i := 3) rfl)) (hw _ (List.mem_of_getElem? (i := 4) rfl)) (by decide) [(.long q_), (.int (1 : Int32))] [(.int (2 : Int32)), (.ref bw), (.ref bw)] (rm1 l Z a0 hw [] q_ (1 : Int32) h18) (by rw [hml]; rfl) rfl (lenOf pd_0 rfl) (Nat.le_of_eq rfl) (by decide) (by decide) (hb hby at_134) rfl (by decide) (by decide) ?_
  rintro T19 L19 v19 X19 ⟨Np19, ⟨y2, rfl, hy2⟩, e19⟩
  have N19 := Fr.app N18 (Np19 _)
  show Go p e below s (fun v h L => v = some (.int (1 : Int32)) ∧ Fr h0.size L) room_1.cells room_1.slots T19 (mkF m 137 #[.val (.long p_), .second, .val (.long q_), .second, .val (.long r_), .second, .val (.int k_), .val (.int n_), .val (.int t_), .val (.int sk), .val (.double sc), .second, .val (.ref bx), .unset, .unset, .unset, .unset, .unset, .unset, .unset, .unset, .unset] [(.int y2), (.int (2 : Int32)), (.ref bw), (.ref bw)])
  refine go_iastore (q := 138) X19 hx hZ e19 V_bw ⟨by decide, by decide⟩ 2 rfl (Nat.le_of_ble_eq_true rfl) N19 g_bw (hb hby at_137) rfl (fun T20 h20 l20 X20 N20 e20 W20 V20 => ?_)
  replace V_bx := V_bx.other W20 ne_bx_bw
  replace hsz := Nat.le_trans hsz (Nat.le_of_eq W20.size.symm)
  replace V_bw : Arv Z h20 bw k_bw .int (6 : Int32) [(.int y0), (.int y1), (.int y2), (.int (0 : Int32)), (.int (0 : Int32)), (.int (0 : Int32))] (.int (0 : Int32)) := V20
  refine go_dup (q := 139) X20 hx (hb hby at_138) rfl rfl ?_
  refine go_iconst (q := 140) (v := (3 : Int32)) X20 hx (hb hby at_139) rfl rfl ?_
  refine go_lloadN (q := 141) X20 hx (hb hby at_140) rfl rfl ?_
  refine go_iconst (q := 142) (v := (3 : Int32)) X20 hx (hb hby at_141) rfl rfl ?_
  refine go_callS (q := 145) (W := 3) X20 hx hZ hown e20 (hw _ (List.mem_of_getElem? (i := 1) rfl)) (hw _ (List.mem_of_getElem? (i := 2) rfl)) (hw _ (List.mem_of_getElem? (i := 3) rfl)) (hw _ (List.mem_of_getElem? (i := 4) rfl)) (by decide) [(.long q_), (.int (3 : Int32))] [(.int (3 : Int32)), (.ref bw), (.ref bw)] (rm1 l Z a0 hw [] q_ (3 : Int32) h20) (by rw [hml]; rfl) rfl (lenOf pd_0 rfl) (Nat.le_of_eq rfl) (by decide) (by decide) (hb hby at_142) rfl (by decide) (by decide) ?_
  rintro T21 L21 v21 X21 ⟨Np21, ⟨y3, rfl, hy3⟩, e21⟩
  have N21 := Fr.app N20 (Np21 _)
  show Go p e below s (fun v h L => v = some (.int (1 : Int32)) ∧ Fr h0.size L) room_1.cells room_1.slots T21 (mkF m 145 #[.val (.long p_), .second, .val (.long q_), .second, .val (.long r_), .second, .val (.int k_), .val (.int n_), .val (.int t_), .val (.int sk), .val (.double sc), .second, .val (.ref bx), .unset, .unset, .unset, .unset, .unset, .unset, .unset, .unset, .unset] [(.int y3), (.int (3 : Int32)), (.ref bw), (.ref bw)])
  refine go_iastore (q := 146) X21 hx hZ e21 V_bw ⟨by decide, by decide⟩ 3 rfl (Nat.le_of_ble_eq_true rfl) N21 g_bw (hb hby at_145) rfl (fun T22 h22 l22 X22 N22 e22 W22 V22 => ?_)
  replace V_bx := V_bx.other W22 ne_bx_bw
  replace hsz := Nat.le_trans hsz (Nat.le_of_eq W22.size.symm)
  replace V_bw : Arv Z h22 bw k_bw .int (6 : Int32) [(.int y0), (.int y1), (.int y2), (.int y3), (.int (0 : Int32)), (.int (0 : Int32))] (.int (0 : Int32)) := V22
  refine go_dup (q := 147) X22 hx (hb hby at_146) rfl rfl ?_
  refine go_iconst (q := 148) (v := (4 : Int32)) X22 hx (hb hby at_147) rfl rfl ?_
  refine go_lload (q := 150) X22 hx (hb hby at_148) rfl rfl ?_
  refine go_iconst (q := 151) (v := (1 : Int32)) X22 hx (hb hby at_150) rfl rfl ?_
  refine go_callS (q := 154) (W := 3) X22 hx hZ hown e22 (hw _ (List.mem_of_getElem? (i := 1) rfl)) (hw _ (List.mem_of_getElem? (i := 2) rfl)) (hw _ (List.mem_of_getElem? (i := 3) rfl)) (hw _ (List.mem_of_getElem? (i := 4) rfl)) (by decide) [(.long r_), (.int (1 : Int32))] [(.int (4 : Int32)), (.ref bw), (.ref bw)] (rm1 l Z a0 hw [] r_ (1 : Int32) h22) (by rw [hml]; rfl) rfl (lenOf pd_0 rfl) (Nat.le_of_eq rfl) (by decide) (by decide) (hb hby at_151) rfl (by decide) (by decide) ?_
  rintro T23 L23 v23 X23 ⟨Np23, ⟨y4, rfl, hy4⟩, e23⟩
  have N23 := Fr.app N22 (Np23 _)
  show Go p e below s (fun v h L => v = some (.int (1 : Int32)) ∧ Fr h0.size L) room_1.cells room_1.slots T23 (mkF m 154 #[.val (.long p_), .second, .val (.long q_), .second, .val (.long r_), .second, .val (.int k_), .val (.int n_), .val (.int t_), .val (.int sk), .val (.double sc), .second, .val (.ref bx), .unset, .unset, .unset, .unset, .unset, .unset, .unset, .unset, .unset] [(.int y4), (.int (4 : Int32)), (.ref bw), (.ref bw)])
  refine go_iastore (q := 155) X23 hx hZ e23 V_bw ⟨by decide, by decide⟩ 4 rfl (Nat.le_of_ble_eq_true rfl) N23 g_bw (hb hby at_154) rfl (fun T24 h24 l24 X24 N24 e24 W24 V24 => ?_)
  replace V_bx := V_bx.other W24 ne_bx_bw
  replace hsz := Nat.le_trans hsz (Nat.le_of_eq W24.size.symm)
  replace V_bw : Arv Z h24 bw k_bw .int (6 : Int32) [(.int y0), (.int y1), (.int y2), (.int y3), (.int y4), (.int (0 : Int32))] (.int (0 : Int32)) := V24
  refine go_dup (q := 156) X24 hx (hb hby at_155) rfl rfl ?_
  refine go_iconst (q := 157) (v := (5 : Int32)) X24 hx (hb hby at_156) rfl rfl ?_
  refine go_lload (q := 159) X24 hx (hb hby at_157) rfl rfl ?_
  refine go_iconst (q := 160) (v := (3 : Int32)) X24 hx (hb hby at_159) rfl rfl ?_
  refine go_callS (q := 163) (W := 3) X24 hx hZ hown e24 (hw _ (List.mem_of_getElem? (i := 1) rfl)) (hw _ (List.mem_of_getElem? (i := 2) rfl)) (hw _ (List.mem_of_getElem? (i := 3) rfl)) (hw _ (List.mem_of_getElem? (i := 4) rfl)) (by decide) [(.long r_), (.int (3 : Int32))] [(.int (5 : Int32)), (.ref bw), (.ref bw)] (rm1 l Z a0 hw [] r_ (3 : Int32) h24) (by rw [hml]; rfl) rfl (lenOf pd_0 rfl) (Nat.le_of_eq rfl) (by decide) (by decide) (hb hby at_160) rfl (by decide) (by decide) ?_
  rintro T25 L25 v25 X25 ⟨Np25, ⟨y5, rfl, hy5⟩, e25⟩
  have N25 := Fr.app N24 (Np25 _)
  show Go p e below s (fun v h L => v = some (.int (1 : Int32)) ∧ Fr h0.size L) room_1.cells room_1.slots T25 (mkF m 163 #[.val (.long p_), .second, .val (.long q_), .second, .val (.long r_), .second, .val (.int k_), .val (.int n_), .val (.int t_), .val (.int sk), .val (.double sc), .second, .val (.ref bx), .unset, .unset, .unset, .unset, .unset, .unset, .unset, .unset, .unset] [(.int y5), (.int (5 : Int32)), (.ref bw), (.ref bw)])
  refine go_iastore (q := 164) X25 hx hZ e25 V_bw ⟨by decide, by decide⟩ 5 rfl (Nat.le_of_ble_eq_true rfl) N25 g_bw (hb hby at_163) rfl (fun T26 h26 l26 X26 N26 e26 W26 V26 => ?_)
  replace V_bx := V_bx.other W26 ne_bx_bw
  replace hsz := Nat.le_trans hsz (Nat.le_of_eq W26.size.symm)
  replace V_bw : Arv Z h26 bw k_bw .int (6 : Int32) [(.int y0), (.int y1), (.int y2), (.int y3), (.int y4), (.int y5)] (.int (0 : Int32)) := V26
  refine go_astore (q := 166) (l' := #[.val (.long p_), .second, .val (.long q_), .second, .val (.long r_), .second, .val (.int k_), .val (.int n_), .val (.int t_), .val (.int sk), .val (.double sc), .second, .val (.ref bx), .val (.ref bw), .unset, .unset, .unset, .unset, .unset, .unset, .unset, .unset]) X26 hx (hb hby at_164) rfl rfl rfl ?_
  refine go_bipush (q := 168) (v := (6 : Int32)) X26 hx (hb hby at_166) rfl rfl ?_
  refine go_newP (q := 170) X26 hx hZ (hw _ (List.mem_of_getElem? (i := 5) rfl)) e26 (hb hby at_168) rfl (by decide) 6 (by decide) (by decide) (by decide) (by decide) (fun T27 h27 k_bu bu eb27 X27 e27 E27 V_bu => ?_)
  have g_bu : h0.size ≤ bu := Nat.le_trans hsz (Nat.le_of_eq eb27.symm)
  have ne_bx_bu : bx ≠ bu := Nat.ne_of_lt (Nat.lt_of_lt_of_eq V_bx.lt eb27.symm)
  have ne_bw_bu : bw ≠ bu := Nat.ne_of_lt (Nat.lt_of_lt_of_eq V_bw.lt eb27.symm)
  replace V_bx := V_bx.ext E27
  replace V_bw := V_bw.ext E27
  replace hsz := Nat.le_trans hsz E27.1
  replace V_bu : Arv Z h27 bu k_bu .double (6 : Int32) [(.double (0 : UInt64)), (.double (0 : UInt64)), (.double (0 : UInt64)), (.double (0 : UInt64)), (.double (0 : UInt64)), (.double (0 : UInt64))] (.double (0 : UInt64)) := V_bu.pad (pad_rep [] (.double (0 : UInt64)) 6)
  refine go_astore (q := 172) (l' := #[.val (.long p_), .second, .val (.long q_), .second, .val (.long r_), .second, .val (.int k_), .val (.int n_), .val (.int t_), .val (.int sk), .val (.double sc), .second, .val (.ref bx), .val (.ref bw), .val (.ref bu), .unset, .unset, .unset, .unset, .unset, .unset, .unset]) X27 hx (hb hby at_170) rfl rfl rfl ?_
  refine go_bipush (q := 174) (v := (6 : Int32)) X27 hx (hb hby at_172) rfl rfl ?_
  refine go_newP (q := 176) X27 hx hZ (hw _ (List.mem_of_getElem? (i := 5) rfl)) e27 (hb hby at_174) rfl (by decide) 6 (by decide) (by decide) (by decide) (by decide) (fun T28 h28 k_bv bv eb28 X28 e28 E28 V_bv => ?_)
  have g_bv : h0.size ≤ bv := Nat.le_trans hsz (Nat.le_of_eq eb28.symm)
  have ne_bx_bv : bx ≠ bv := Nat.ne_of_lt (Nat.lt_of_lt_of_eq V_bx.lt eb28.symm)
  have ne_bw_bv : bw ≠ bv := Nat.ne_of_lt (Nat.lt_of_lt_of_eq V_bw.lt eb28.symm)
  have ne_bu_bv : bu ≠ bv := Nat.ne_of_lt (Nat.lt_of_lt_of_eq V_bu.lt eb28.symm)
  replace V_bx := V_bx.ext E28
  replace V_bw := V_bw.ext E28
  replace V_bu := V_bu.ext E28
  replace hsz := Nat.le_trans hsz E28.1
  replace V_bv : Arv Z h28 bv k_bv .double (6 : Int32) [(.double (0 : UInt64)), (.double (0 : UInt64)), (.double (0 : UInt64)), (.double (0 : UInt64)), (.double (0 : UInt64)), (.double (0 : UInt64))] (.double (0 : UInt64)) := V_bv.pad (pad_rep [] (.double (0 : UInt64)) 6)
  refine go_astore (q := 178) (l' := #[.val (.long p_), .second, .val (.long q_), .second, .val (.long r_), .second, .val (.int k_), .val (.int n_), .val (.int t_), .val (.int sk), .val (.double sc), .second, .val (.ref bx), .val (.ref bw), .val (.ref bu), .val (.ref bv), .unset, .unset, .unset, .unset, .unset, .unset]) X28 hx (hb hby at_176) rfl rfl rfl ?_
  refine go_aload (q := 180) X28 hx (hb hby at_178) rfl rfl rfl ?_
  refine go_iconst (q := 181) (v := (0 : Int32)) X28 hx (hb hby at_180) rfl rfl ?_
  refine go_aload (q := 183) X28 hx (hb hby at_181) rfl rfl rfl ?_
  refine go_iconst (q := 184) (v := (0 : Int32)) X28 hx (hb hby at_183) rfl rfl ?_
  refine go_iaload (q := 185) (v := (.int x0)) X28 hx hZ e28 V_bx ⟨by decide, by decide⟩ rfl (hb hby at_184) rfl ?_
  refine go_i2dB (q := 186) X28 hx (hb hby at_185) rfl (db_i2d' (A := 32768) hx0) (fun z29 hz29 => ?_)
  refine go_dload (q := 188) X28 hx (hb hby at_186) rfl rfl ?_
  refine go_dmulB (q := 189) (kk := E) (C := 32768) X28 hx (hb hby at_188) rfl hz29 hsc (by decide) (by omega) (by omega) (by omega) rfl (fun u0 hu0 => ?_)
  refine go_dastore (q := 190) X28 hx hZ e28 V_bu ⟨by decide, by decide⟩ 0 rfl (Nat.le_of_ble_eq_true rfl) N26 g_bu (hb hby at_189) rfl (fun T30 h30 l30 X30 N30 e30 W30 V30 => ?_)
  replace V_bx := V_bx.other W30 ne_bx_bu
  replace V_bw := V_bw.other W30 ne_bw_bu
  replace V_bv := V_bv.other W30 (Ne.symm ne_bu_bv)
  replace hsz := Nat.le_trans hsz (Nat.le_of_eq W30.size.symm)
  replace V_bu : Arv Z h30 bu k_bu .double (6 : Int32) [(.double u0), (.double (0 : UInt64)), (.double (0 : UInt64)), (.double (0 : UInt64)), (.double (0 : UInt64)), (.double (0 : UInt64))] (.double (0 : UInt64)) := V30
  refine go_aload (q := 192) X30 hx (hb hby at_190) rfl rfl rfl ?_
  refine go_iconst (q := 193) (v := (1 : Int32)) X30 hx (hb hby at_192) rfl rfl ?_
  refine go_aload (q := 195) X30 hx (hb hby at_193) rfl rfl rfl ?_
  refine go_iconst (q := 196) (v := (1 : Int32)) X30 hx (hb hby at_195) rfl rfl ?_
  refine go_iaload (q := 197) (v := (.int x1)) X30 hx hZ e30 V_bx ⟨by decide, by decide⟩ rfl (hb hby at_196) rfl ?_
  refine go_i2dB (q := 198) X30 hx (hb hby at_197) rfl (db_i2d' (A := 32768) hx1) (fun z31 hz31 => ?_)
  refine go_dload (q := 200) X30 hx (hb hby at_198) rfl rfl ?_
  refine go_dmulB (q := 201) (kk := E) (C := 32768) X30 hx (hb hby at_200) rfl hz31 hsc (by decide) (by omega) (by omega) (by omega) rfl (fun u1 hu1 => ?_)
  refine go_dastore (q := 202) X30 hx hZ e30 V_bu ⟨by decide, by decide⟩ 1 rfl (Nat.le_of_ble_eq_true rfl) N30 g_bu (hb hby at_201) rfl (fun T32 h32 l32 X32 N32 e32 W32 V32 => ?_)
  replace V_bx := V_bx.other W32 ne_bx_bu
  replace V_bw := V_bw.other W32 ne_bw_bu
  replace V_bv := V_bv.other W32 (Ne.symm ne_bu_bv)
  replace hsz := Nat.le_trans hsz (Nat.le_of_eq W32.size.symm)
  replace V_bu : Arv Z h32 bu k_bu .double (6 : Int32) [(.double u0), (.double u1), (.double (0 : UInt64)), (.double (0 : UInt64)), (.double (0 : UInt64)), (.double (0 : UInt64))] (.double (0 : UInt64)) := V32
  refine go_aload (q := 204) X32 hx (hb hby at_202) rfl rfl rfl ?_
  refine go_iconst (q := 205) (v := (2 : Int32)) X32 hx (hb hby at_204) rfl rfl ?_
  refine go_aload (q := 207) X32 hx (hb hby at_205) rfl rfl rfl ?_
  refine go_iconst (q := 208) (v := (2 : Int32)) X32 hx (hb hby at_207) rfl rfl ?_
  refine go_iaload (q := 209) (v := (.int x2)) X32 hx hZ e32 V_bx ⟨by decide, by decide⟩ rfl (hb hby at_208) rfl ?_
  refine go_i2dB (q := 210) X32 hx (hb hby at_209) rfl (db_i2d' (A := 32768) hx2) (fun z33 hz33 => ?_)
  refine go_dload (q := 212) X32 hx (hb hby at_210) rfl rfl ?_
  refine go_dmulB (q := 213) (kk := E) (C := 32768) X32 hx (hb hby at_212) rfl hz33 hsc (by decide) (by omega) (by omega) (by omega) rfl (fun u2 hu2 => ?_)
  refine go_dastore (q := 214) X32 hx hZ e32 V_bu ⟨by decide, by decide⟩ 2 rfl (Nat.le_of_ble_eq_true rfl) N32 g_bu (hb hby at_213) rfl (fun T34 h34 l34 X34 N34 e34 W34 V34 => ?_)
  replace V_bx := V_bx.other W34 ne_bx_bu
  replace V_bw := V_bw.other W34 ne_bw_bu
  replace V_bv := V_bv.other W34 (Ne.symm ne_bu_bv)
  replace hsz := Nat.le_trans hsz (Nat.le_of_eq W34.size.symm)
  replace V_bu : Arv Z h34 bu k_bu .double (6 : Int32) [(.double u0), (.double u1), (.double u2), (.double (0 : UInt64)), (.double (0 : UInt64)), (.double (0 : UInt64))] (.double (0 : UInt64)) := V34
  refine go_aload (q := 216) X34 hx (hb hby at_214) rfl rfl rfl ?_
  refine go_iconst (q := 217) (v := (3 : Int32)) X34 hx (hb hby at_216) rfl rfl ?_
  refine go_aload (q := 219) X34 hx (hb hby at_217) rfl rfl rfl ?_
  refine go_iconst (q := 220) (v := (3 : Int32)) X34 hx (hb hby at_219) rfl rfl ?_
  refine go_iaload (q := 221) (v := (.int x3)) X34 hx hZ e34 V_bx ⟨by decide, by decide⟩ rfl (hb hby at_220) rfl ?_
  refine go_i2dB (q := 222) X34 hx (hb hby at_221) rfl (db_i2d' (A := 32768) hx3) (fun z35 hz35 => ?_)
  refine go_dload (q := 224) X34 hx (hb hby at_222) rfl rfl ?_
  refine go_dmulB (q := 225) (kk := E) (C := 32768) X34 hx (hb hby at_224) rfl hz35 hsc (by decide) (by omega) (by omega) (by omega) rfl (fun u3 hu3 => ?_)
  refine go_dastore (q := 226) X34 hx hZ e34 V_bu ⟨by decide, by decide⟩ 3 rfl (Nat.le_of_ble_eq_true rfl) N34 g_bu (hb hby at_225) rfl (fun T36 h36 l36 X36 N36 e36 W36 V36 => ?_)
  replace V_bx := V_bx.other W36 ne_bx_bu
  replace V_bw := V_bw.other W36 ne_bw_bu
  replace V_bv := V_bv.other W36 (Ne.symm ne_bu_bv)
  replace hsz := Nat.le_trans hsz (Nat.le_of_eq W36.size.symm)
  replace V_bu : Arv Z h36 bu k_bu .double (6 : Int32) [(.double u0), (.double u1), (.double u2), (.double u3), (.double (0 : UInt64)), (.double (0 : UInt64))] (.double (0 : UInt64)) := V36
  refine go_aload (q := 228) X36 hx (hb hby at_226) rfl rfl rfl ?_
  refine go_iconst (q := 229) (v := (4 : Int32)) X36 hx (hb hby at_228) rfl rfl ?_
  refine go_aload (q := 231) X36 hx (hb hby at_229) rfl rfl rfl ?_
  refine go_iconst (q := 232) (v := (4 : Int32)) X36 hx (hb hby at_231) rfl rfl ?_
  refine go_iaload (q := 233) (v := (.int x4)) X36 hx hZ e36 V_bx ⟨by decide, by decide⟩ rfl (hb hby at_232) rfl ?_
  refine go_i2dB (q := 234) X36 hx (hb hby at_233) rfl (db_i2d' (A := 32768) hx4) (fun z37 hz37 => ?_)
  refine go_dload (q := 236) X36 hx (hb hby at_234) rfl rfl ?_
  refine go_dmulB (q := 237) (kk := E) (C := 32768) X36 hx (hb hby at_236) rfl hz37 hsc (by decide) (by omega) (by omega) (by omega) rfl (fun u4 hu4 => ?_)
  refine go_dastore (q := 238) X36 hx hZ e36 V_bu ⟨by decide, by decide⟩ 4 rfl (Nat.le_of_ble_eq_true rfl) N36 g_bu (hb hby at_237) rfl (fun T38 h38 l38 X38 N38 e38 W38 V38 => ?_)
  replace V_bx := V_bx.other W38 ne_bx_bu
  replace V_bw := V_bw.other W38 ne_bw_bu
  replace V_bv := V_bv.other W38 (Ne.symm ne_bu_bv)
  replace hsz := Nat.le_trans hsz (Nat.le_of_eq W38.size.symm)
  replace V_bu : Arv Z h38 bu k_bu .double (6 : Int32) [(.double u0), (.double u1), (.double u2), (.double u3), (.double u4), (.double (0 : UInt64))] (.double (0 : UInt64)) := V38
  refine go_aload (q := 240) X38 hx (hb hby at_238) rfl rfl rfl ?_
  refine go_iconst (q := 241) (v := (5 : Int32)) X38 hx (hb hby at_240) rfl rfl ?_
  refine go_aload (q := 243) X38 hx (hb hby at_241) rfl rfl rfl ?_
  refine go_iconst (q := 244) (v := (5 : Int32)) X38 hx (hb hby at_243) rfl rfl ?_
  refine go_iaload (q := 245) (v := (.int x5)) X38 hx hZ e38 V_bx ⟨by decide, by decide⟩ rfl (hb hby at_244) rfl ?_
  refine go_i2dB (q := 246) X38 hx (hb hby at_245) rfl (db_i2d' (A := 32768) hx5) (fun z39 hz39 => ?_)
  refine go_dload (q := 248) X38 hx (hb hby at_246) rfl rfl ?_
  refine go_dmulB (q := 249) (kk := E) (C := 32768) X38 hx (hb hby at_248) rfl hz39 hsc (by decide) (by omega) (by omega) (by omega) rfl (fun u5 hu5 => ?_)
  refine go_dastore (q := 250) X38 hx hZ e38 V_bu ⟨by decide, by decide⟩ 5 rfl (Nat.le_of_ble_eq_true rfl) N38 g_bu (hb hby at_249) rfl (fun T40 h40 l40 X40 N40 e40 W40 V40 => ?_)
  replace V_bx := V_bx.other W40 ne_bx_bu
  replace V_bw := V_bw.other W40 ne_bw_bu
  replace V_bv := V_bv.other W40 (Ne.symm ne_bu_bv)
  replace hsz := Nat.le_trans hsz (Nat.le_of_eq W40.size.symm)
  replace V_bu : Arv Z h40 bu k_bu .double (6 : Int32) [(.double u0), (.double u1), (.double u2), (.double u3), (.double u4), (.double u5)] (.double (0 : UInt64)) := V40
  refine go_aload (q := 252) X40 hx (hb hby at_250) rfl rfl rfl ?_
  refine go_iconst (q := 253) (v := (0 : Int32)) X40 hx (hb hby at_252) rfl rfl ?_
  refine go_aload (q := 255) X40 hx (hb hby at_253) rfl rfl rfl ?_
  refine go_iconst (q := 256) (v := (0 : Int32)) X40 hx (hb hby at_255) rfl rfl ?_
  refine go_iaload (q := 257) (v := (.int y0)) X40 hx hZ e40 V_bw ⟨by decide, by decide⟩ rfl (hb hby at_256) rfl ?_
  refine go_i2dB (q := 258) X40 hx (hb hby at_257) rfl (db_i2d' (A := 32768) hy0) (fun z41 hz41 => ?_)
  refine go_dload (q := 260) X40 hx (hb hby at_258) rfl rfl ?_
  refine go_dmulB (q := 261) (kk := E) (C := 32768) X40 hx (hb hby at_260) rfl hz41 hsc (by decide) (by omega) (by omega) (by omega) rfl (fun w0 hw0 => ?_)
  refine go_dastore (q := 262) X40 hx hZ e40 V_bv ⟨by decide, by decide⟩ 0 rfl (Nat.le_of_ble_eq_true rfl) N40 g_bv (hb hby at_261) rfl (fun T42 h42 l42 X42 N42 e42 W42 V42 => ?_)
  replace V_bx := V_bx.other W42 ne_bx_bv
  replace V_bw := V_bw.other W42 ne_bw_bv
  replace V_bu := V_bu.other W42 ne_bu_bv
  replace hsz := Nat.le_trans hsz (Nat.le_of_eq W42.size.symm)
  replace V_bv : Arv Z h42 bv k_bv .double (6 : Int32) [(.double w0), (.double (0 : UInt64)), (.double (0 : UInt64)), (.double (0 : UInt64)), (.double (0 : UInt64)), (.double (0 : UInt64))] (.double (0 : UInt64)) := V42
  refine go_aload (q := 264) X42 hx (hb hby at_262) rfl rfl rfl ?_
  refine go_iconst (q := 265) (v := (1 : Int32)) X42 hx (hb hby at_264) rfl rfl ?_
  refine go_aload (q := 267) X42 hx (hb hby at_265) rfl rfl rfl ?_
  refine go_iconst (q := 268) (v := (1 : Int32)) X42 hx (hb hby at_267) rfl rfl ?_
  refine go_iaload (q := 269) (v := (.int y1)) X42 hx hZ e42 V_bw ⟨by decide, by decide⟩ rfl (hb hby at_268) rfl ?_
  refine go_i2dB (q := 270) X42 hx (hb hby at_269) rfl (db_i2d' (A := 32768) hy1) (fun z43 hz43 => ?_)
  refine go_dload (q := 272) X42 hx (hb hby at_270) rfl rfl ?_
  refine go_dmulB (q := 273) (kk := E) (C := 32768) X42 hx (hb hby at_272) rfl hz43 hsc (by decide) (by omega) (by omega) (by omega) rfl (fun w1 hw1 => ?_)
  refine go_dastore (q := 274) X42 hx hZ e42 V_bv ⟨by decide, by decide⟩ 1 rfl (Nat.le_of_ble_eq_true rfl) N42 g_bv (hb hby at_273) rfl (fun T44 h44 l44 X44 N44 e44 W44 V44 => ?_)
  replace V_bx := V_bx.other W44 ne_bx_bv
  replace V_bw := V_bw.other W44 ne_bw_bv
  replace V_bu := V_bu.other W44 ne_bu_bv
  replace hsz := Nat.le_trans hsz (Nat.le_of_eq W44.size.symm)
  replace V_bv : Arv Z h44 bv k_bv .double (6 : Int32) [(.double w0), (.double w1), (.double (0 : UInt64)), (.double (0 : UInt64)), (.double (0 : UInt64)), (.double (0 : UInt64))] (.double (0 : UInt64)) := V44
  refine go_aload (q := 276) X44 hx (hb hby at_274) rfl rfl rfl ?_
  refine go_iconst (q := 277) (v := (2 : Int32)) X44 hx (hb hby at_276) rfl rfl ?_
  refine go_aload (q := 279) X44 hx (hb hby at_277) rfl rfl rfl ?_
  refine go_iconst (q := 280) (v := (2 : Int32)) X44 hx (hb hby at_279) rfl rfl ?_
  refine go_iaload (q := 281) (v := (.int y2)) X44 hx hZ e44 V_bw ⟨by decide, by decide⟩ rfl (hb hby at_280) rfl ?_
  refine go_i2dB (q := 282) X44 hx (hb hby at_281) rfl (db_i2d' (A := 32768) hy2) (fun z45 hz45 => ?_)
  refine go_dload (q := 284) X44 hx (hb hby at_282) rfl rfl ?_
  refine go_dmulB (q := 285) (kk := E) (C := 32768) X44 hx (hb hby at_284) rfl hz45 hsc (by decide) (by omega) (by omega) (by omega) rfl (fun w2 hw2 => ?_)
  refine go_dastore (q := 286) X44 hx hZ e44 V_bv ⟨by decide, by decide⟩ 2 rfl (Nat.le_of_ble_eq_true rfl) N44 g_bv (hb hby at_285) rfl (fun T46 h46 l46 X46 N46 e46 W46 V46 => ?_)
  replace V_bx := V_bx.other W46 ne_bx_bv
  replace V_bw := V_bw.other W46 ne_bw_bv
  replace V_bu := V_bu.other W46 ne_bu_bv
  replace hsz := Nat.le_trans hsz (Nat.le_of_eq W46.size.symm)
  replace V_bv : Arv Z h46 bv k_bv .double (6 : Int32) [(.double w0), (.double w1), (.double w2), (.double (0 : UInt64)), (.double (0 : UInt64)), (.double (0 : UInt64))] (.double (0 : UInt64)) := V46
  refine go_aload (q := 288) X46 hx (hb hby at_286) rfl rfl rfl ?_
  refine go_iconst (q := 289) (v := (3 : Int32)) X46 hx (hb hby at_288) rfl rfl ?_
  refine go_aload (q := 291) X46 hx (hb hby at_289) rfl rfl rfl ?_
  refine go_iconst (q := 292) (v := (3 : Int32)) X46 hx (hb hby at_291) rfl rfl ?_
  refine go_iaload (q := 293) (v := (.int y3)) X46 hx hZ e46 V_bw ⟨by decide, by decide⟩ rfl (hb hby at_292) rfl ?_
  refine go_i2dB (q := 294) X46 hx (hb hby at_293) rfl (db_i2d' (A := 32768) hy3) (fun z47 hz47 => ?_)
  refine go_dload (q := 296) X46 hx (hb hby at_294) rfl rfl ?_
  refine go_dmulB (q := 297) (kk := E) (C := 32768) X46 hx (hb hby at_296) rfl hz47 hsc (by decide) (by omega) (by omega) (by omega) rfl (fun w3 hw3 => ?_)
  refine go_dastore (q := 298) X46 hx hZ e46 V_bv ⟨by decide, by decide⟩ 3 rfl (Nat.le_of_ble_eq_true rfl) N46 g_bv (hb hby at_297) rfl (fun T48 h48 l48 X48 N48 e48 W48 V48 => ?_)
  replace V_bx := V_bx.other W48 ne_bx_bv
  replace V_bw := V_bw.other W48 ne_bw_bv
  replace V_bu := V_bu.other W48 ne_bu_bv
  replace hsz := Nat.le_trans hsz (Nat.le_of_eq W48.size.symm)
  replace V_bv : Arv Z h48 bv k_bv .double (6 : Int32) [(.double w0), (.double w1), (.double w2), (.double w3), (.double (0 : UInt64)), (.double (0 : UInt64))] (.double (0 : UInt64)) := V48
  refine go_aload (q := 300) X48 hx (hb hby at_298) rfl rfl rfl ?_
  refine go_iconst (q := 301) (v := (4 : Int32)) X48 hx (hb hby at_300) rfl rfl ?_
  refine go_aload (q := 303) X48 hx (hb hby at_301) rfl rfl rfl ?_
  refine go_iconst (q := 304) (v := (4 : Int32)) X48 hx (hb hby at_303) rfl rfl ?_
  refine go_iaload (q := 305) (v := (.int y4)) X48 hx hZ e48 V_bw ⟨by decide, by decide⟩ rfl (hb hby at_304) rfl ?_
  refine go_i2dB (q := 306) X48 hx (hb hby at_305) rfl (db_i2d' (A := 32768) hy4) (fun z49 hz49 => ?_)
  refine go_dload (q := 308) X48 hx (hb hby at_306) rfl rfl ?_
  refine go_dmulB (q := 309) (kk := E) (C := 32768) X48 hx (hb hby at_308) rfl hz49 hsc (by decide) (by omega) (by omega) (by omega) rfl (fun w4 hw4 => ?_)
  refine go_dastore (q := 310) X48 hx hZ e48 V_bv ⟨by decide, by decide⟩ 4 rfl (Nat.le_of_ble_eq_true rfl) N48 g_bv (hb hby at_309) rfl (fun T50 h50 l50 X50 N50 e50 W50 V50 => ?_)
  replace V_bx := V_bx.other W50 ne_bx_bv
  replace V_bw := V_bw.other W50 ne_bw_bv
  replace V_bu := V_bu.other W50 ne_bu_bv
  replace hsz := Nat.le_trans hsz (Nat.le_of_eq W50.size.symm)
  replace V_bv : Arv Z h50 bv k_bv .double (6 : Int32) [(.double w0), (.double w1), (.double w2), (.double w3), (.double w4), (.double (0 : UInt64))] (.double (0 : UInt64)) := V50
  refine go_aload (q := 312) X50 hx (hb hby at_310) rfl rfl rfl ?_
  refine go_iconst (q := 313) (v := (5 : Int32)) X50 hx (hb hby at_312) rfl rfl ?_
  refine go_aload (q := 315) X50 hx (hb hby at_313) rfl rfl rfl ?_
  refine go_iconst (q := 316) (v := (5 : Int32)) X50 hx (hb hby at_315) rfl rfl ?_
  refine go_iaload (q := 317) (v := (.int y5)) X50 hx hZ e50 V_bw ⟨by decide, by decide⟩ rfl (hb hby at_316) rfl ?_
  refine go_i2dB (q := 318) X50 hx (hb hby at_317) rfl (db_i2d' (A := 32768) hy5) (fun z51 hz51 => ?_)
  refine go_dload (q := 320) X50 hx (hb hby at_318) rfl rfl ?_
  refine go_dmulB (q := 321) (kk := E) (C := 32768) X50 hx (hb hby at_320) rfl hz51 hsc (by decide) (by omega) (by omega) (by omega) rfl (fun w5 hw5 => ?_)
  refine go_dastore (q := 322) X50 hx hZ e50 V_bv ⟨by decide, by decide⟩ 5 rfl (Nat.le_of_ble_eq_true rfl) N50 g_bv (hb hby at_321) rfl (fun T52 h52 l52 X52 N52 e52 W52 V52 => ?_)
  replace V_bx := V_bx.other W52 ne_bx_bv
  replace V_bw := V_bw.other W52 ne_bw_bv
  replace V_bu := V_bu.other W52 ne_bu_bv
  replace hsz := Nat.le_trans hsz (Nat.le_of_eq W52.size.symm)
  replace V_bv : Arv Z h52 bv k_bv .double (6 : Int32) [(.double w0), (.double w1), (.double w2), (.double w3), (.double w4), (.double w5)] (.double (0 : UInt64)) := V52
  refine go_aload (q := 324) X52 hx (hb hby at_322) rfl rfl rfl ?_
  refine go_aload (q := 326) X52 hx (hb hby at_324) rfl rfl rfl ?_
  refine go_iload (q := 328) X52 hx (hb hby at_326) rfl rfl ?_
  rcases hn with rfl | rfl | rfl | rfl | rfl | rfl | rfl
  · refine go_callS (q := 331) (W := 0) X52 hx hZ hown e52 (hw _ (List.mem_of_getElem? (i := 6) rfl)) (hw _ (List.mem_of_getElem? (i := 7) rfl)) (hw _ (List.mem_of_getElem? (i := 8) rfl)) (hw _ (List.mem_of_getElem? (i := 9) rfl)) (by decide) [(.ref bu), (.ref bv), (.int (0 : Int32))] [] (rm2_0 l Z a0 hw [] bu bv k_bu k_bv _ _ u0 w0 u1 w1 u2 w2 u3 w3 u4 w4 u5 w5 E _ _ _ _ _ _ _ _ _ _ _ _ h52 V_bu V_bv hE hu0 hw0 hu1 hw1 hu2 hw2 hu3 hw3 hu4 hw4 hu5 hw5) (by rw [hml]; rfl) rfl (lenOf pd_1 rfl) (Nat.le_of_eq rfl) (by decide) (by decide) (hb hby at_328) rfl (by decide) (by decide) ?_
    rintro T53 L53 v53 X53 ⟨Np53, ⟨got, rfl, hgot⟩, e53⟩
    have N53 := Fr.app N52 (Np53 _)
    show Go p e below s (fun v h L => v = some (.int (1 : Int32)) ∧ Fr h0.size L) room_1.cells room_1.slots T53 (mkF m 331 #[.val (.long p_), .second, .val (.long q_), .second, .val (.long r_), .second, .val (.int k_), .val (.int (0 : Int32)), .val (.int t_), .val (.int sk), .val (.double sc), .second, .val (.ref bx), .val (.ref bw), .val (.ref bu), .val (.ref bv), .unset, .unset, .unset, .unset, .unset, .unset] [(.double got)])
    refine go_dstore (q := 333) (l' := #[.val (.long p_), .second, .val (.long q_), .second, .val (.long r_), .second, .val (.int k_), .val (.int (0 : Int32)), .val (.int t_), .val (.int sk), .val (.double sc), .second, .val (.ref bx), .val (.ref bw), .val (.ref bu), .val (.ref bv), .val (.double got), .second, .unset, .unset, .unset, .unset]) X53 hx (hb hby at_331) rfl rfl ?_
    refine go_lconst (q := 334) (v := (0 : Int64)) X53 hx (hb hby at_333) rfl rfl ?_
    refine go_lstore (q := 336) (l' := #[.val (.long p_), .second, .val (.long q_), .second, .val (.long r_), .second, .val (.int k_), .val (.int (0 : Int32)), .val (.int t_), .val (.int sk), .val (.double sc), .second, .val (.ref bx), .val (.ref bw), .val (.ref bu), .val (.ref bv), .val (.double got), .second, .val (.long (0 : Int64)), .second, .unset, .unset]) X53 hx (hb hby at_334) rfl rfl ?_
    refine go_iload (q := 338) X53 hx (hb hby at_336) rfl rfl ?_
    refine go_iconst (q := 339) (v := (3 : Int32)) X53 hx (hb hby at_338) rfl rfl ?_
    refine go_icmp_lt (q := 342) (q' := 441) X53 hx (hb hby at_339) rfl (by decide) rfl (fun hc339 => ?_) (fun hc339 => ?_)
    · refine go_lload (q := 443) X53 hx (hb hby at_441) rfl rfl ?_
      refine go_l2dB (q := 444) X53 hx (hb hby at_443) rfl (db_l2d (A := 0) (by decide) (by decide)) (fun z54 hz54 => ?_)
      refine go_dload (q := 446) X53 hx (hb hby at_444) rfl rfl ?_
      refine go_dmulB (q := 447) (kk := E) (C := 0) X53 hx (hb hby at_446) rfl hz54 hsc (by decide) (by omega) (by omega) (by omega) rfl (fun z55 hz55 => ?_)
      refine go_dload (q := 449) X53 hx (hb hby at_447) rfl rfl ?_
      refine go_dmulB (q := 450) (kk := (E + E)) (C := 0) X53 hx (hb hby at_449) rfl hz55 hsc (by decide) (by omega) (by omega) (by omega) rfl (fun z56 hz56 => ?_)
      refine go_ldc2D (q := 453) (v := (4611686018427387904 : UInt64)) X53 hx hZ hown (hw _ (List.mem_of_getElem? (i := 11) rfl)) (hb hby at_450) rfl ?_
      refine go_ddivB (q := 454) (kk := (E + E - 1)) (w0 := (((0 : Int64).toInt * 1) * 1)) X53 hx (hb hby at_453) rfl hz56 own_two (by decide) (by omega) (by decide) (by omega) (by omega) (by omega) (fun z57 hz57 => ?_)
      refine go_dstore (q := 456) (l' := #[.val (.long p_), .second, .val (.long q_), .second, .val (.long r_), .second, .val (.int k_), .val (.int (0 : Int32)), .val (.int t_), .val (.int sk), .val (.double sc), .second, .val (.ref bx), .val (.ref bw), .val (.ref bu), .val (.ref bv), .val (.double got), .second, .val (.long (0 : Int64)), .second, .val (.double z57), .second]) X53 hx (hb hby at_454) rfl rfl ?_
      refine go_dload (q := 458) X53 hx (hb hby at_456) rfl rfl ?_
      refine go_dload (q := 460) X53 hx (hb hby at_458) rfl rfl ?_
      refine go_dcmp (q := 461) X53 hx (hb hby at_460) rfl rfl ?_
      refine go_dif_ne (q := 464) (q' := 468) X53 hx (hb hby at_461) rfl (by decide) rfl hgot hz57 (fun hc461 => ?_) (fun hc461 => ?_)
      · exact absurd (by decide) hc461
      · refine go_iconst (q := 465) (v := (1 : Int32)) X53 hx (hb hby at_464) rfl rfl ?_
        refine go_goto (q := 469) X53 hx (hb hby at_465) (by decide) rfl ?_
        exact go_retN X53 hx (by simp) hret hlk (hb hby at_469) (by decide) (by decide) ⟨rfl, N53⟩
    · exact absurd (by decide) hc339
  · refine go_callS (q := 331) (W := 0) X52 hx hZ hown e52 (hw _ (List.mem_of_getElem? (i := 6) rfl)) (hw _ (List.mem_of_getElem? (i := 7) rfl)) (hw _ (List.mem_of_getElem? (i := 8) rfl)) (hw _ (List.mem_of_getElem? (i := 9) rfl)) (by decide) [(.ref bu), (.ref bv), (.int (1 : Int32))] [] (rm2_1 l Z a0 hw [] bu bv k_bu k_bv _ _ u0 w0 u1 w1 u2 w2 u3 w3 u4 w4 u5 w5 E _ _ _ _ _ _ _ _ _ _ _ _ h52 V_bu V_bv hE hu0 hw0 hu1 hw1 hu2 hw2 hu3 hw3 hu4 hw4 hu5 hw5) (by rw [hml]; rfl) rfl (lenOf pd_1 rfl) (Nat.le_of_eq rfl) (by decide) (by decide) (hb hby at_328) rfl (by decide) (by decide) ?_
    rintro T58 L58 v58 X58 ⟨Np58, ⟨got, rfl, hgot⟩, e58⟩
    have N58 := Fr.app N52 (Np58 _)
    show Go p e below s (fun v h L => v = some (.int (1 : Int32)) ∧ Fr h0.size L) room_1.cells room_1.slots T58 (mkF m 331 #[.val (.long p_), .second, .val (.long q_), .second, .val (.long r_), .second, .val (.int k_), .val (.int (1 : Int32)), .val (.int t_), .val (.int sk), .val (.double sc), .second, .val (.ref bx), .val (.ref bw), .val (.ref bu), .val (.ref bv), .unset, .unset, .unset, .unset, .unset, .unset] [(.double got)])
    refine go_dstore (q := 333) (l' := #[.val (.long p_), .second, .val (.long q_), .second, .val (.long r_), .second, .val (.int k_), .val (.int (1 : Int32)), .val (.int t_), .val (.int sk), .val (.double sc), .second, .val (.ref bx), .val (.ref bw), .val (.ref bu), .val (.ref bv), .val (.double got), .second, .unset, .unset, .unset, .unset]) X58 hx (hb hby at_331) rfl rfl ?_
    refine go_lconst (q := 334) (v := (0 : Int64)) X58 hx (hb hby at_333) rfl rfl ?_
    refine go_lstore (q := 336) (l' := #[.val (.long p_), .second, .val (.long q_), .second, .val (.long r_), .second, .val (.int k_), .val (.int (1 : Int32)), .val (.int t_), .val (.int sk), .val (.double sc), .second, .val (.ref bx), .val (.ref bw), .val (.ref bu), .val (.ref bv), .val (.double got), .second, .val (.long (0 : Int64)), .second, .unset, .unset]) X58 hx (hb hby at_334) rfl rfl ?_
    refine go_iload (q := 338) X58 hx (hb hby at_336) rfl rfl ?_
    refine go_iconst (q := 339) (v := (3 : Int32)) X58 hx (hb hby at_338) rfl rfl ?_
    refine go_icmp_lt (q := 342) (q' := 441) X58 hx (hb hby at_339) rfl (by decide) rfl (fun hc339 => ?_) (fun hc339 => ?_)
    · refine go_lload (q := 443) X58 hx (hb hby at_441) rfl rfl ?_
      refine go_l2dB (q := 444) X58 hx (hb hby at_443) rfl (db_l2d (A := 0) (by decide) (by decide)) (fun z59 hz59 => ?_)
      refine go_dload (q := 446) X58 hx (hb hby at_444) rfl rfl ?_
      refine go_dmulB (q := 447) (kk := E) (C := 0) X58 hx (hb hby at_446) rfl hz59 hsc (by decide) (by omega) (by omega) (by omega) rfl (fun z60 hz60 => ?_)
      refine go_dload (q := 449) X58 hx (hb hby at_447) rfl rfl ?_
      refine go_dmulB (q := 450) (kk := (E + E)) (C := 0) X58 hx (hb hby at_449) rfl hz60 hsc (by decide) (by omega) (by omega) (by omega) rfl (fun z61 hz61 => ?_)
      refine go_ldc2D (q := 453) (v := (4611686018427387904 : UInt64)) X58 hx hZ hown (hw _ (List.mem_of_getElem? (i := 11) rfl)) (hb hby at_450) rfl ?_
      refine go_ddivB (q := 454) (kk := (E + E - 1)) (w0 := (((0 : Int64).toInt * 1) * 1)) X58 hx (hb hby at_453) rfl hz61 own_two (by decide) (by omega) (by decide) (by omega) (by omega) (by omega) (fun z62 hz62 => ?_)
      refine go_dstore (q := 456) (l' := #[.val (.long p_), .second, .val (.long q_), .second, .val (.long r_), .second, .val (.int k_), .val (.int (1 : Int32)), .val (.int t_), .val (.int sk), .val (.double sc), .second, .val (.ref bx), .val (.ref bw), .val (.ref bu), .val (.ref bv), .val (.double got), .second, .val (.long (0 : Int64)), .second, .val (.double z62), .second]) X58 hx (hb hby at_454) rfl rfl ?_
      refine go_dload (q := 458) X58 hx (hb hby at_456) rfl rfl ?_
      refine go_dload (q := 460) X58 hx (hb hby at_458) rfl rfl ?_
      refine go_dcmp (q := 461) X58 hx (hb hby at_460) rfl rfl ?_
      refine go_dif_ne (q := 464) (q' := 468) X58 hx (hb hby at_461) rfl (by decide) rfl hgot hz62 (fun hc461 => ?_) (fun hc461 => ?_)
      · exact absurd (by decide) hc461
      · refine go_iconst (q := 465) (v := (1 : Int32)) X58 hx (hb hby at_464) rfl rfl ?_
        refine go_goto (q := 469) X58 hx (hb hby at_465) (by decide) rfl ?_
        exact go_retN X58 hx (by simp) hret hlk (hb hby at_469) (by decide) (by decide) ⟨rfl, N58⟩
    · exact absurd (by decide) hc339
  · refine go_callS (q := 331) (W := 0) X52 hx hZ hown e52 (hw _ (List.mem_of_getElem? (i := 6) rfl)) (hw _ (List.mem_of_getElem? (i := 7) rfl)) (hw _ (List.mem_of_getElem? (i := 8) rfl)) (hw _ (List.mem_of_getElem? (i := 9) rfl)) (by decide) [(.ref bu), (.ref bv), (.int (2 : Int32))] [] (rm2_2 l Z a0 hw [] bu bv k_bu k_bv _ _ u0 w0 u1 w1 u2 w2 u3 w3 u4 w4 u5 w5 E _ _ _ _ _ _ _ _ _ _ _ _ h52 V_bu V_bv hE hu0 hw0 hu1 hw1 hu2 hw2 hu3 hw3 hu4 hw4 hu5 hw5) (by rw [hml]; rfl) rfl (lenOf pd_1 rfl) (Nat.le_of_eq rfl) (by decide) (by decide) (hb hby at_328) rfl (by decide) (by decide) ?_
    rintro T63 L63 v63 X63 ⟨Np63, ⟨got, rfl, hgot⟩, e63⟩
    have N63 := Fr.app N52 (Np63 _)
    show Go p e below s (fun v h L => v = some (.int (1 : Int32)) ∧ Fr h0.size L) room_1.cells room_1.slots T63 (mkF m 331 #[.val (.long p_), .second, .val (.long q_), .second, .val (.long r_), .second, .val (.int k_), .val (.int (2 : Int32)), .val (.int t_), .val (.int sk), .val (.double sc), .second, .val (.ref bx), .val (.ref bw), .val (.ref bu), .val (.ref bv), .unset, .unset, .unset, .unset, .unset, .unset] [(.double got)])
    refine go_dstore (q := 333) (l' := #[.val (.long p_), .second, .val (.long q_), .second, .val (.long r_), .second, .val (.int k_), .val (.int (2 : Int32)), .val (.int t_), .val (.int sk), .val (.double sc), .second, .val (.ref bx), .val (.ref bw), .val (.ref bu), .val (.ref bv), .val (.double got), .second, .unset, .unset, .unset, .unset]) X63 hx (hb hby at_331) rfl rfl ?_
    refine go_lconst (q := 334) (v := (0 : Int64)) X63 hx (hb hby at_333) rfl rfl ?_
    refine go_lstore (q := 336) (l' := #[.val (.long p_), .second, .val (.long q_), .second, .val (.long r_), .second, .val (.int k_), .val (.int (2 : Int32)), .val (.int t_), .val (.int sk), .val (.double sc), .second, .val (.ref bx), .val (.ref bw), .val (.ref bu), .val (.ref bv), .val (.double got), .second, .val (.long (0 : Int64)), .second, .unset, .unset]) X63 hx (hb hby at_334) rfl rfl ?_
    refine go_iload (q := 338) X63 hx (hb hby at_336) rfl rfl ?_
    refine go_iconst (q := 339) (v := (3 : Int32)) X63 hx (hb hby at_338) rfl rfl ?_
    refine go_icmp_lt (q := 342) (q' := 441) X63 hx (hb hby at_339) rfl (by decide) rfl (fun hc339 => ?_) (fun hc339 => ?_)
    · refine go_lload (q := 443) X63 hx (hb hby at_441) rfl rfl ?_
      refine go_l2dB (q := 444) X63 hx (hb hby at_443) rfl (db_l2d (A := 0) (by decide) (by decide)) (fun z64 hz64 => ?_)
      refine go_dload (q := 446) X63 hx (hb hby at_444) rfl rfl ?_
      refine go_dmulB (q := 447) (kk := E) (C := 0) X63 hx (hb hby at_446) rfl hz64 hsc (by decide) (by omega) (by omega) (by omega) rfl (fun z65 hz65 => ?_)
      refine go_dload (q := 449) X63 hx (hb hby at_447) rfl rfl ?_
      refine go_dmulB (q := 450) (kk := (E + E)) (C := 0) X63 hx (hb hby at_449) rfl hz65 hsc (by decide) (by omega) (by omega) (by omega) rfl (fun z66 hz66 => ?_)
      refine go_ldc2D (q := 453) (v := (4611686018427387904 : UInt64)) X63 hx hZ hown (hw _ (List.mem_of_getElem? (i := 11) rfl)) (hb hby at_450) rfl ?_
      refine go_ddivB (q := 454) (kk := (E + E - 1)) (w0 := (((0 : Int64).toInt * 1) * 1)) X63 hx (hb hby at_453) rfl hz66 own_two (by decide) (by omega) (by decide) (by omega) (by omega) (by omega) (fun z67 hz67 => ?_)
      refine go_dstore (q := 456) (l' := #[.val (.long p_), .second, .val (.long q_), .second, .val (.long r_), .second, .val (.int k_), .val (.int (2 : Int32)), .val (.int t_), .val (.int sk), .val (.double sc), .second, .val (.ref bx), .val (.ref bw), .val (.ref bu), .val (.ref bv), .val (.double got), .second, .val (.long (0 : Int64)), .second, .val (.double z67), .second]) X63 hx (hb hby at_454) rfl rfl ?_
      refine go_dload (q := 458) X63 hx (hb hby at_456) rfl rfl ?_
      refine go_dload (q := 460) X63 hx (hb hby at_458) rfl rfl ?_
      refine go_dcmp (q := 461) X63 hx (hb hby at_460) rfl rfl ?_
      refine go_dif_ne (q := 464) (q' := 468) X63 hx (hb hby at_461) rfl (by decide) rfl hgot hz67 (fun hc461 => ?_) (fun hc461 => ?_)
      · exact absurd (by decide) hc461
      · refine go_iconst (q := 465) (v := (1 : Int32)) X63 hx (hb hby at_464) rfl rfl ?_
        refine go_goto (q := 469) X63 hx (hb hby at_465) (by decide) rfl ?_
        exact go_retN X63 hx (by simp) hret hlk (hb hby at_469) (by decide) (by decide) ⟨rfl, N63⟩
    · exact absurd (by decide) hc339
  · refine go_callS (q := 331) (W := 0) X52 hx hZ hown e52 (hw _ (List.mem_of_getElem? (i := 6) rfl)) (hw _ (List.mem_of_getElem? (i := 7) rfl)) (hw _ (List.mem_of_getElem? (i := 8) rfl)) (hw _ (List.mem_of_getElem? (i := 9) rfl)) (by decide) [(.ref bu), (.ref bv), (.int (3 : Int32))] [] (rm2_3 l Z a0 hw [] bu bv k_bu k_bv _ _ u0 w0 u1 w1 u2 w2 u3 w3 u4 w4 u5 w5 E _ _ _ _ _ _ _ _ _ _ _ _ h52 V_bu V_bv hE hu0 hw0 hu1 hw1 hu2 hw2 hu3 hw3 hu4 hw4 hu5 hw5) (by rw [hml]; rfl) rfl (lenOf pd_1 rfl) (Nat.le_of_eq rfl) (by decide) (by decide) (hb hby at_328) rfl (by decide) (by decide) ?_
    rintro T68 L68 v68 X68 ⟨Np68, ⟨got, rfl, hgot⟩, e68⟩
    have N68 := Fr.app N52 (Np68 _)
    show Go p e below s (fun v h L => v = some (.int (1 : Int32)) ∧ Fr h0.size L) room_1.cells room_1.slots T68 (mkF m 331 #[.val (.long p_), .second, .val (.long q_), .second, .val (.long r_), .second, .val (.int k_), .val (.int (3 : Int32)), .val (.int t_), .val (.int sk), .val (.double sc), .second, .val (.ref bx), .val (.ref bw), .val (.ref bu), .val (.ref bv), .unset, .unset, .unset, .unset, .unset, .unset] [(.double got)])
    refine go_dstore (q := 333) (l' := #[.val (.long p_), .second, .val (.long q_), .second, .val (.long r_), .second, .val (.int k_), .val (.int (3 : Int32)), .val (.int t_), .val (.int sk), .val (.double sc), .second, .val (.ref bx), .val (.ref bw), .val (.ref bu), .val (.ref bv), .val (.double got), .second, .unset, .unset, .unset, .unset]) X68 hx (hb hby at_331) rfl rfl ?_
    refine go_lconst (q := 334) (v := (0 : Int64)) X68 hx (hb hby at_333) rfl rfl ?_
    refine go_lstore (q := 336) (l' := #[.val (.long p_), .second, .val (.long q_), .second, .val (.long r_), .second, .val (.int k_), .val (.int (3 : Int32)), .val (.int t_), .val (.int sk), .val (.double sc), .second, .val (.ref bx), .val (.ref bw), .val (.ref bu), .val (.ref bv), .val (.double got), .second, .val (.long (0 : Int64)), .second, .unset, .unset]) X68 hx (hb hby at_334) rfl rfl ?_
    refine go_iload (q := 338) X68 hx (hb hby at_336) rfl rfl ?_
    refine go_iconst (q := 339) (v := (3 : Int32)) X68 hx (hb hby at_338) rfl rfl ?_
    refine go_icmp_lt (q := 342) (q' := 441) X68 hx (hb hby at_339) rfl (by decide) rfl (fun hc339 => ?_) (fun hc339 => ?_)
    · exact absurd hc339 (by decide)
    · refine go_aload (q := 344) X68 hx (hb hby at_342) rfl rfl rfl ?_
      refine go_aload (q := 346) X68 hx (hb hby at_344) rfl rfl rfl ?_
      refine go_iconst (q := 347) (v := (0 : Int32)) X68 hx (hb hby at_346) rfl rfl ?_
      refine go_iconst (q := 348) (v := (1 : Int32)) X68 hx (hb hby at_347) rfl rfl ?_
      refine go_callS (q := 351) (W := 0) X68 hx hZ hown e68 (hw _ (List.mem_of_getElem? (i := 12) rfl)) (hw _ (List.mem_of_getElem? (i := 13) rfl)) (hw _ (List.mem_of_getElem? (i := 3) rfl)) (hw _ (List.mem_of_getElem? (i := 14) rfl)) (by decide) [(.ref bx), (.ref bw), (.int (0 : Int32)), (.int (1 : Int32))] [] (rm3_01 l Z a0 hw [] bx bw k_bx k_bw _ _ x0 y0 x1 y1 x2 y2 x3 y3 x4 y4 x5 y5 h52 V_bx V_bw) (by rw [hml]; rfl) rfl (lenOf pd_2 rfl) (Nat.le_of_eq rfl) (by decide) (by decide) (hb hby at_348) rfl (by decide) (by decide) ?_
      rintro T69 L69 v69 X69 ⟨Np69, rfl, e69⟩
      have N69 := Fr.app N68 (Np69 _)
      show Go p e below s (fun v h L => v = some (.int (1 : Int32)) ∧ Fr h0.size L) room_1.cells room_1.slots T69 (mkF m 351 #[.val (.long p_), .second, .val (.long q_), .second, .val (.long r_), .second, .val (.int k_), .val (.int (3 : Int32)), .val (.int t_), .val (.int sk), .val (.double sc), .second, .val (.ref bx), .val (.ref bw), .val (.ref bu), .val (.ref bv), .val (.double got), .second, .val (.long (0 : Int64)), .second, .unset, .unset] [(.long (x0.toInt64 * y1.toInt64 - x1.toInt64 * y0.toInt64))])
      suffices Hc1 : ∀ c1 : Int64, c1 = (x0.toInt64 * y1.toInt64 - x1.toInt64 * y0.toInt64) → Go p e below s (fun v h L => v = some (.int (1 : Int32)) ∧ Fr h0.size L) room_1.cells room_1.slots T69 (mkF m 351 #[.val (.long p_), .second, .val (.long q_), .second, .val (.long r_), .second, .val (.int k_), .val (.int (3 : Int32)), .val (.int t_), .val (.int sk), .val (.double sc), .second, .val (.ref bx), .val (.ref bw), .val (.ref bu), .val (.ref bv), .val (.double got), .second, .val (.long (0 : Int64)), .second, .unset, .unset] [(.long c1)]) from Hc1 _ rfl
      intro c1 ec1
      have hc1 := own_cr hx0 hy1 hx1 hy0
      rw [← ec1] at hc1
      refine go_aload (q := 353) X69 hx (hb hby at_351) rfl rfl rfl ?_
      refine go_aload (q := 355) X69 hx (hb hby at_353) rfl rfl rfl ?_
      refine go_iconst (q := 356) (v := (1 : Int32)) X69 hx (hb hby at_355) rfl rfl ?_
      refine go_iconst (q := 357) (v := (2 : Int32)) X69 hx (hb hby at_356) rfl rfl ?_
      refine go_callS (q := 360) (W := 2) X69 hx hZ hown e69 (hw _ (List.mem_of_getElem? (i := 12) rfl)) (hw _ (List.mem_of_getElem? (i := 13) rfl)) (hw _ (List.mem_of_getElem? (i := 3) rfl)) (hw _ (List.mem_of_getElem? (i := 14) rfl)) (by decide) [(.ref bx), (.ref bw), (.int (1 : Int32)), (.int (2 : Int32))] [(.long c1)] (rm3_12 l Z a0 hw [] bx bw k_bx k_bw _ _ x0 y0 x1 y1 x2 y2 x3 y3 x4 y4 x5 y5 h52 V_bx V_bw) (by rw [hml]; rfl) rfl (lenOf pd_2 rfl) (Nat.le_of_eq rfl) (by decide) (by decide) (hb hby at_357) rfl (by decide) (by decide) ?_
      rintro T70 L70 v70 X70 ⟨Np70, rfl, e70⟩
      have N70 := Fr.app N69 (Np70 _)
      show Go p e below s (fun v h L => v = some (.int (1 : Int32)) ∧ Fr h0.size L) room_1.cells room_1.slots T70 (mkF m 360 #[.val (.long p_), .second, .val (.long q_), .second, .val (.long r_), .second, .val (.int k_), .val (.int (3 : Int32)), .val (.int t_), .val (.int sk), .val (.double sc), .second, .val (.ref bx), .val (.ref bw), .val (.ref bu), .val (.ref bv), .val (.double got), .second, .val (.long (0 : Int64)), .second, .unset, .unset] [(.long (x1.toInt64 * y2.toInt64 - x2.toInt64 * y1.toInt64)), (.long c1)])
      suffices Hc2 : ∀ c2 : Int64, c2 = (x1.toInt64 * y2.toInt64 - x2.toInt64 * y1.toInt64) → Go p e below s (fun v h L => v = some (.int (1 : Int32)) ∧ Fr h0.size L) room_1.cells room_1.slots T70 (mkF m 360 #[.val (.long p_), .second, .val (.long q_), .second, .val (.long r_), .second, .val (.int k_), .val (.int (3 : Int32)), .val (.int t_), .val (.int sk), .val (.double sc), .second, .val (.ref bx), .val (.ref bw), .val (.ref bu), .val (.ref bv), .val (.double got), .second, .val (.long (0 : Int64)), .second, .unset, .unset] [(.long c2), (.long c1)]) from Hc2 _ rfl
      intro c2 ec2
      have hc2 := own_cr hx1 hy2 hx2 hy1
      rw [← ec2] at hc2
      refine go_ladd (q := 361) (v := (c1 + c2)) X70 hx (hb hby at_360) rfl rfl ?_
      refine go_lstore (q := 363) (l' := #[.val (.long p_), .second, .val (.long q_), .second, .val (.long r_), .second, .val (.int k_), .val (.int (3 : Int32)), .val (.int t_), .val (.int sk), .val (.double sc), .second, .val (.ref bx), .val (.ref bw), .val (.ref bu), .val (.ref bv), .val (.double got), .second, .val (.long (c1 + c2)), .second, .unset, .unset]) X70 hx (hb hby at_361) rfl rfl ?_
      suffices Hs2 : ∀ s2 : Int64, s2 = (c1 + c2) → Go p e below s (fun v h L => v = some (.int (1 : Int32)) ∧ Fr h0.size L) room_1.cells room_1.slots T70 (mkF m 363 #[.val (.long p_), .second, .val (.long q_), .second, .val (.long r_), .second, .val (.int k_), .val (.int (3 : Int32)), .val (.int t_), .val (.int sk), .val (.double sc), .second, .val (.ref bx), .val (.ref bw), .val (.ref bu), .val (.ref bv), .val (.double got), .second, .val (.long s2), .second, .unset, .unset] []) from Hs2 _ rfl
      intro s2 es2
      have hs2 := own_add hc1 hc2 (by decide)
      rw [← es2] at hs2
      refine go_iload (q := 365) X70 hx (hb hby at_363) rfl rfl ?_
      refine go_iconst (q := 366) (v := (4 : Int32)) X70 hx (hb hby at_365) rfl rfl ?_
      refine go_icmp_lt (q := 369) (q' := 383) X70 hx (hb hby at_366) rfl (by decide) rfl (fun hc366 => ?_) (fun hc366 => ?_)
      · refine go_iload (q := 385) X70 hx (hb hby at_383) rfl rfl ?_
        refine go_iconst (q := 386) (v := (5 : Int32)) X70 hx (hb hby at_385) rfl rfl ?_
        refine go_icmp_lt (q := 389) (q' := 403) X70 hx (hb hby at_386) rfl (by decide) rfl (fun hc386 => ?_) (fun hc386 => ?_)
        · refine go_iload (q := 405) X70 hx (hb hby at_403) rfl rfl ?_
          refine go_bipush (q := 407) (v := (6 : Int32)) X70 hx (hb hby at_405) rfl rfl ?_
          refine go_icmp_lt (q := 410) (q' := 424) X70 hx (hb hby at_407) rfl (by decide) rfl (fun hc407 => ?_) (fun hc407 => ?_)
          · refine go_lload (q := 426) X70 hx (hb hby at_424) rfl rfl ?_
            refine go_aload (q := 428) X70 hx (hb hby at_426) rfl rfl rfl ?_
            refine go_aload (q := 430) X70 hx (hb hby at_428) rfl rfl rfl ?_
            refine go_iload (q := 432) X70 hx (hb hby at_430) rfl rfl ?_
            refine go_iconst (q := 433) (v := (1 : Int32)) X70 hx (hb hby at_432) rfl rfl ?_
            refine go_isub (q := 434) (v := (2 : Int32)) X70 hx (hb hby at_433) rfl rfl ?_
            refine go_iconst (q := 435) (v := (0 : Int32)) X70 hx (hb hby at_434) rfl rfl ?_
            refine go_callS (q := 438) (W := 2) X70 hx hZ hown e70 (hw _ (List.mem_of_getElem? (i := 12) rfl)) (hw _ (List.mem_of_getElem? (i := 13) rfl)) (hw _ (List.mem_of_getElem? (i := 3) rfl)) (hw _ (List.mem_of_getElem? (i := 14) rfl)) (by decide) [(.ref bx), (.ref bw), (.int (2 : Int32)), (.int (0 : Int32))] [(.long s2)] (rm3_20 l Z a0 hw [] bx bw k_bx k_bw _ _ x0 y0 x1 y1 x2 y2 x3 y3 x4 y4 x5 y5 h52 V_bx V_bw) (by rw [hml]; rfl) rfl (lenOf pd_2 rfl) (Nat.le_of_eq rfl) (by decide) (by decide) (hb hby at_435) rfl (by decide) (by decide) ?_
            rintro T71 L71 v71 X71 ⟨Np71, rfl, e71⟩
            have N71 := Fr.app N70 (Np71 _)
            show Go p e below s (fun v h L => v = some (.int (1 : Int32)) ∧ Fr h0.size L) room_1.cells room_1.slots T71 (mkF m 438 #[.val (.long p_), .second, .val (.long q_), .second, .val (.long r_), .second, .val (.int k_), .val (.int (3 : Int32)), .val (.int t_), .val (.int sk), .val (.double sc), .second, .val (.ref bx), .val (.ref bw), .val (.ref bu), .val (.ref bv), .val (.double got), .second, .val (.long s2), .second, .unset, .unset] [(.long (x2.toInt64 * y0.toInt64 - x0.toInt64 * y2.toInt64)), (.long s2)])
            suffices Hcz : ∀ cz : Int64, cz = (x2.toInt64 * y0.toInt64 - x0.toInt64 * y2.toInt64) → Go p e below s (fun v h L => v = some (.int (1 : Int32)) ∧ Fr h0.size L) room_1.cells room_1.slots T71 (mkF m 438 #[.val (.long p_), .second, .val (.long q_), .second, .val (.long r_), .second, .val (.int k_), .val (.int (3 : Int32)), .val (.int t_), .val (.int sk), .val (.double sc), .second, .val (.ref bx), .val (.ref bw), .val (.ref bu), .val (.ref bv), .val (.double got), .second, .val (.long s2), .second, .unset, .unset] [(.long cz), (.long s2)]) from Hcz _ rfl
            intro cz ecz
            have hcz := own_cr hx2 hy0 hx0 hy2
            rw [← ecz] at hcz
            refine go_ladd (q := 439) (v := (s2 + cz)) X71 hx (hb hby at_438) rfl rfl ?_
            refine go_lstore (q := 441) (l' := #[.val (.long p_), .second, .val (.long q_), .second, .val (.long r_), .second, .val (.int k_), .val (.int (3 : Int32)), .val (.int t_), .val (.int sk), .val (.double sc), .second, .val (.ref bx), .val (.ref bw), .val (.ref bu), .val (.ref bv), .val (.double got), .second, .val (.long (s2 + cz)), .second, .unset, .unset]) X71 hx (hb hby at_439) rfl rfl ?_
            suffices Hsz : ∀ sz : Int64, sz = (s2 + cz) → Go p e below s (fun v h L => v = some (.int (1 : Int32)) ∧ Fr h0.size L) room_1.cells room_1.slots T71 (mkF m 441 #[.val (.long p_), .second, .val (.long q_), .second, .val (.long r_), .second, .val (.int k_), .val (.int (3 : Int32)), .val (.int t_), .val (.int sk), .val (.double sc), .second, .val (.ref bx), .val (.ref bw), .val (.ref bu), .val (.ref bv), .val (.double got), .second, .val (.long sz), .second, .unset, .unset] []) from Hsz _ rfl
            intro sz esz
            have hsz_ := own_add hs2 hcz (by decide)
            rw [← esz] at hsz_
            refine go_lload (q := 443) X71 hx (hb hby at_441) rfl rfl ?_
            refine go_l2dB (q := 444) X71 hx (hb hby at_443) rfl (db_l2d (A := 6442450944) (by rw [hsz_.1]; exact hsz_.2) (by decide)) (fun z72 hz72 => ?_)
            refine go_dload (q := 446) X71 hx (hb hby at_444) rfl rfl ?_
            refine go_dmulB (q := 447) (kk := E) (C := 6442450944) X71 hx (hb hby at_446) rfl hz72 hsc (by decide) (by omega) (by omega) (by omega) rfl (fun z73 hz73 => ?_)
            refine go_dload (q := 449) X71 hx (hb hby at_447) rfl rfl ?_
            refine go_dmulB (q := 450) (kk := (E + E)) (C := 6442450944) X71 hx (hb hby at_449) rfl hz73 hsc (by decide) (by omega) (by omega) (by omega) rfl (fun z74 hz74 => ?_)
            refine go_ldc2D (q := 453) (v := (4611686018427387904 : UInt64)) X71 hx hZ hown (hw _ (List.mem_of_getElem? (i := 11) rfl)) (hb hby at_450) rfl ?_
            refine go_ddivB (q := 454) (kk := (E + E - 1)) (w0 := ((sz.toInt * 1) * 1)) X71 hx (hb hby at_453) rfl hz74 own_two (by decide) (by omega) (by decide) (by omega) (by omega) (by omega) (fun z75 hz75 => ?_)
            refine go_dstore (q := 456) (l' := #[.val (.long p_), .second, .val (.long q_), .second, .val (.long r_), .second, .val (.int k_), .val (.int (3 : Int32)), .val (.int t_), .val (.int sk), .val (.double sc), .second, .val (.ref bx), .val (.ref bw), .val (.ref bu), .val (.ref bv), .val (.double got), .second, .val (.long sz), .second, .val (.double z75), .second]) X71 hx (hb hby at_454) rfl rfl ?_
            refine go_dload (q := 458) X71 hx (hb hby at_456) rfl rfl ?_
            refine go_dload (q := 460) X71 hx (hb hby at_458) rfl rfl ?_
            refine go_dcmp (q := 461) X71 hx (hb hby at_460) rfl rfl ?_
            refine go_dif_ne (q := 464) (q' := 468) X71 hx (hb hby at_461) rfl (by decide) rfl hgot hz75 (fun hc461 => ?_) (fun hc461 => ?_)
            · exact absurd (by rw [hsz_.1]; grind) hc461
            · refine go_iconst (q := 465) (v := (1 : Int32)) X71 hx (hb hby at_464) rfl rfl ?_
              refine go_goto (q := 469) X71 hx (hb hby at_465) (by decide) rfl ?_
              exact go_retN X71 hx (by simp) hret hlk (hb hby at_469) (by decide) (by decide) ⟨rfl, N71⟩
          · exact absurd (by decide) hc407
        · exact absurd (by decide) hc386
      · exact absurd (by decide) hc366
  · refine go_callS (q := 331) (W := 0) X52 hx hZ hown e52 (hw _ (List.mem_of_getElem? (i := 6) rfl)) (hw _ (List.mem_of_getElem? (i := 7) rfl)) (hw _ (List.mem_of_getElem? (i := 8) rfl)) (hw _ (List.mem_of_getElem? (i := 9) rfl)) (by decide) [(.ref bu), (.ref bv), (.int (4 : Int32))] [] (rm2_4 l Z a0 hw [] bu bv k_bu k_bv _ _ u0 w0 u1 w1 u2 w2 u3 w3 u4 w4 u5 w5 E _ _ _ _ _ _ _ _ _ _ _ _ h52 V_bu V_bv hE hu0 hw0 hu1 hw1 hu2 hw2 hu3 hw3 hu4 hw4 hu5 hw5) (by rw [hml]; rfl) rfl (lenOf pd_1 rfl) (Nat.le_of_eq rfl) (by decide) (by decide) (hb hby at_328) rfl (by decide) (by decide) ?_
    rintro T76 L76 v76 X76 ⟨Np76, ⟨got, rfl, hgot⟩, e76⟩
    have N76 := Fr.app N52 (Np76 _)
    show Go p e below s (fun v h L => v = some (.int (1 : Int32)) ∧ Fr h0.size L) room_1.cells room_1.slots T76 (mkF m 331 #[.val (.long p_), .second, .val (.long q_), .second, .val (.long r_), .second, .val (.int k_), .val (.int (4 : Int32)), .val (.int t_), .val (.int sk), .val (.double sc), .second, .val (.ref bx), .val (.ref bw), .val (.ref bu), .val (.ref bv), .unset, .unset, .unset, .unset, .unset, .unset] [(.double got)])
    refine go_dstore (q := 333) (l' := #[.val (.long p_), .second, .val (.long q_), .second, .val (.long r_), .second, .val (.int k_), .val (.int (4 : Int32)), .val (.int t_), .val (.int sk), .val (.double sc), .second, .val (.ref bx), .val (.ref bw), .val (.ref bu), .val (.ref bv), .val (.double got), .second, .unset, .unset, .unset, .unset]) X76 hx (hb hby at_331) rfl rfl ?_
    refine go_lconst (q := 334) (v := (0 : Int64)) X76 hx (hb hby at_333) rfl rfl ?_
    refine go_lstore (q := 336) (l' := #[.val (.long p_), .second, .val (.long q_), .second, .val (.long r_), .second, .val (.int k_), .val (.int (4 : Int32)), .val (.int t_), .val (.int sk), .val (.double sc), .second, .val (.ref bx), .val (.ref bw), .val (.ref bu), .val (.ref bv), .val (.double got), .second, .val (.long (0 : Int64)), .second, .unset, .unset]) X76 hx (hb hby at_334) rfl rfl ?_
    refine go_iload (q := 338) X76 hx (hb hby at_336) rfl rfl ?_
    refine go_iconst (q := 339) (v := (3 : Int32)) X76 hx (hb hby at_338) rfl rfl ?_
    refine go_icmp_lt (q := 342) (q' := 441) X76 hx (hb hby at_339) rfl (by decide) rfl (fun hc339 => ?_) (fun hc339 => ?_)
    · exact absurd hc339 (by decide)
    · refine go_aload (q := 344) X76 hx (hb hby at_342) rfl rfl rfl ?_
      refine go_aload (q := 346) X76 hx (hb hby at_344) rfl rfl rfl ?_
      refine go_iconst (q := 347) (v := (0 : Int32)) X76 hx (hb hby at_346) rfl rfl ?_
      refine go_iconst (q := 348) (v := (1 : Int32)) X76 hx (hb hby at_347) rfl rfl ?_
      refine go_callS (q := 351) (W := 0) X76 hx hZ hown e76 (hw _ (List.mem_of_getElem? (i := 12) rfl)) (hw _ (List.mem_of_getElem? (i := 13) rfl)) (hw _ (List.mem_of_getElem? (i := 3) rfl)) (hw _ (List.mem_of_getElem? (i := 14) rfl)) (by decide) [(.ref bx), (.ref bw), (.int (0 : Int32)), (.int (1 : Int32))] [] (rm3_01 l Z a0 hw [] bx bw k_bx k_bw _ _ x0 y0 x1 y1 x2 y2 x3 y3 x4 y4 x5 y5 h52 V_bx V_bw) (by rw [hml]; rfl) rfl (lenOf pd_2 rfl) (Nat.le_of_eq rfl) (by decide) (by decide) (hb hby at_348) rfl (by decide) (by decide) ?_
      rintro T77 L77 v77 X77 ⟨Np77, rfl, e77⟩
      have N77 := Fr.app N76 (Np77 _)
      show Go p e below s (fun v h L => v = some (.int (1 : Int32)) ∧ Fr h0.size L) room_1.cells room_1.slots T77 (mkF m 351 #[.val (.long p_), .second, .val (.long q_), .second, .val (.long r_), .second, .val (.int k_), .val (.int (4 : Int32)), .val (.int t_), .val (.int sk), .val (.double sc), .second, .val (.ref bx), .val (.ref bw), .val (.ref bu), .val (.ref bv), .val (.double got), .second, .val (.long (0 : Int64)), .second, .unset, .unset] [(.long (x0.toInt64 * y1.toInt64 - x1.toInt64 * y0.toInt64))])
      suffices Hc1 : ∀ c1 : Int64, c1 = (x0.toInt64 * y1.toInt64 - x1.toInt64 * y0.toInt64) → Go p e below s (fun v h L => v = some (.int (1 : Int32)) ∧ Fr h0.size L) room_1.cells room_1.slots T77 (mkF m 351 #[.val (.long p_), .second, .val (.long q_), .second, .val (.long r_), .second, .val (.int k_), .val (.int (4 : Int32)), .val (.int t_), .val (.int sk), .val (.double sc), .second, .val (.ref bx), .val (.ref bw), .val (.ref bu), .val (.ref bv), .val (.double got), .second, .val (.long (0 : Int64)), .second, .unset, .unset] [(.long c1)]) from Hc1 _ rfl
      intro c1 ec1
      have hc1 := own_cr hx0 hy1 hx1 hy0
      rw [← ec1] at hc1
      refine go_aload (q := 353) X77 hx (hb hby at_351) rfl rfl rfl ?_
      refine go_aload (q := 355) X77 hx (hb hby at_353) rfl rfl rfl ?_
      refine go_iconst (q := 356) (v := (1 : Int32)) X77 hx (hb hby at_355) rfl rfl ?_
      refine go_iconst (q := 357) (v := (2 : Int32)) X77 hx (hb hby at_356) rfl rfl ?_
      refine go_callS (q := 360) (W := 2) X77 hx hZ hown e77 (hw _ (List.mem_of_getElem? (i := 12) rfl)) (hw _ (List.mem_of_getElem? (i := 13) rfl)) (hw _ (List.mem_of_getElem? (i := 3) rfl)) (hw _ (List.mem_of_getElem? (i := 14) rfl)) (by decide) [(.ref bx), (.ref bw), (.int (1 : Int32)), (.int (2 : Int32))] [(.long c1)] (rm3_12 l Z a0 hw [] bx bw k_bx k_bw _ _ x0 y0 x1 y1 x2 y2 x3 y3 x4 y4 x5 y5 h52 V_bx V_bw) (by rw [hml]; rfl) rfl (lenOf pd_2 rfl) (Nat.le_of_eq rfl) (by decide) (by decide) (hb hby at_357) rfl (by decide) (by decide) ?_
      rintro T78 L78 v78 X78 ⟨Np78, rfl, e78⟩
      have N78 := Fr.app N77 (Np78 _)
      show Go p e below s (fun v h L => v = some (.int (1 : Int32)) ∧ Fr h0.size L) room_1.cells room_1.slots T78 (mkF m 360 #[.val (.long p_), .second, .val (.long q_), .second, .val (.long r_), .second, .val (.int k_), .val (.int (4 : Int32)), .val (.int t_), .val (.int sk), .val (.double sc), .second, .val (.ref bx), .val (.ref bw), .val (.ref bu), .val (.ref bv), .val (.double got), .second, .val (.long (0 : Int64)), .second, .unset, .unset] [(.long (x1.toInt64 * y2.toInt64 - x2.toInt64 * y1.toInt64)), (.long c1)])
      suffices Hc2 : ∀ c2 : Int64, c2 = (x1.toInt64 * y2.toInt64 - x2.toInt64 * y1.toInt64) → Go p e below s (fun v h L => v = some (.int (1 : Int32)) ∧ Fr h0.size L) room_1.cells room_1.slots T78 (mkF m 360 #[.val (.long p_), .second, .val (.long q_), .second, .val (.long r_), .second, .val (.int k_), .val (.int (4 : Int32)), .val (.int t_), .val (.int sk), .val (.double sc), .second, .val (.ref bx), .val (.ref bw), .val (.ref bu), .val (.ref bv), .val (.double got), .second, .val (.long (0 : Int64)), .second, .unset, .unset] [(.long c2), (.long c1)]) from Hc2 _ rfl
      intro c2 ec2
      have hc2 := own_cr hx1 hy2 hx2 hy1
      rw [← ec2] at hc2
      refine go_ladd (q := 361) (v := (c1 + c2)) X78 hx (hb hby at_360) rfl rfl ?_
      refine go_lstore (q := 363) (l' := #[.val (.long p_), .second, .val (.long q_), .second, .val (.long r_), .second, .val (.int k_), .val (.int (4 : Int32)), .val (.int t_), .val (.int sk), .val (.double sc), .second, .val (.ref bx), .val (.ref bw), .val (.ref bu), .val (.ref bv), .val (.double got), .second, .val (.long (c1 + c2)), .second, .unset, .unset]) X78 hx (hb hby at_361) rfl rfl ?_
      suffices Hs2 : ∀ s2 : Int64, s2 = (c1 + c2) → Go p e below s (fun v h L => v = some (.int (1 : Int32)) ∧ Fr h0.size L) room_1.cells room_1.slots T78 (mkF m 363 #[.val (.long p_), .second, .val (.long q_), .second, .val (.long r_), .second, .val (.int k_), .val (.int (4 : Int32)), .val (.int t_), .val (.int sk), .val (.double sc), .second, .val (.ref bx), .val (.ref bw), .val (.ref bu), .val (.ref bv), .val (.double got), .second, .val (.long s2), .second, .unset, .unset] []) from Hs2 _ rfl
      intro s2 es2
      have hs2 := own_add hc1 hc2 (by decide)
      rw [← es2] at hs2
      refine go_iload (q := 365) X78 hx (hb hby at_363) rfl rfl ?_
      refine go_iconst (q := 366) (v := (4 : Int32)) X78 hx (hb hby at_365) rfl rfl ?_
      refine go_icmp_lt (q := 369) (q' := 383) X78 hx (hb hby at_366) rfl (by decide) rfl (fun hc366 => ?_) (fun hc366 => ?_)
      · exact absurd hc366 (by decide)
      · refine go_lload (q := 371) X78 hx (hb hby at_369) rfl rfl ?_
        refine go_aload (q := 373) X78 hx (hb hby at_371) rfl rfl rfl ?_
        refine go_aload (q := 375) X78 hx (hb hby at_373) rfl rfl rfl ?_
        refine go_iconst (q := 376) (v := (2 : Int32)) X78 hx (hb hby at_375) rfl rfl ?_
        refine go_iconst (q := 377) (v := (3 : Int32)) X78 hx (hb hby at_376) rfl rfl ?_
        refine go_callS (q := 380) (W := 2) X78 hx hZ hown e78 (hw _ (List.mem_of_getElem? (i := 12) rfl)) (hw _ (List.mem_of_getElem? (i := 13) rfl)) (hw _ (List.mem_of_getElem? (i := 3) rfl)) (hw _ (List.mem_of_getElem? (i := 14) rfl)) (by decide) [(.ref bx), (.ref bw), (.int (2 : Int32)), (.int (3 : Int32))] [(.long s2)] (rm3_23 l Z a0 hw [] bx bw k_bx k_bw _ _ x0 y0 x1 y1 x2 y2 x3 y3 x4 y4 x5 y5 h52 V_bx V_bw) (by rw [hml]; rfl) rfl (lenOf pd_2 rfl) (Nat.le_of_eq rfl) (by decide) (by decide) (hb hby at_377) rfl (by decide) (by decide) ?_
        rintro T79 L79 v79 X79 ⟨Np79, rfl, e79⟩
        have N79 := Fr.app N78 (Np79 _)
        show Go p e below s (fun v h L => v = some (.int (1 : Int32)) ∧ Fr h0.size L) room_1.cells room_1.slots T79 (mkF m 380 #[.val (.long p_), .second, .val (.long q_), .second, .val (.long r_), .second, .val (.int k_), .val (.int (4 : Int32)), .val (.int t_), .val (.int sk), .val (.double sc), .second, .val (.ref bx), .val (.ref bw), .val (.ref bu), .val (.ref bv), .val (.double got), .second, .val (.long s2), .second, .unset, .unset] [(.long (x2.toInt64 * y3.toInt64 - x3.toInt64 * y2.toInt64)), (.long s2)])
        suffices Hc3 : ∀ c3 : Int64, c3 = (x2.toInt64 * y3.toInt64 - x3.toInt64 * y2.toInt64) → Go p e below s (fun v h L => v = some (.int (1 : Int32)) ∧ Fr h0.size L) room_1.cells room_1.slots T79 (mkF m 380 #[.val (.long p_), .second, .val (.long q_), .second, .val (.long r_), .second, .val (.int k_), .val (.int (4 : Int32)), .val (.int t_), .val (.int sk), .val (.double sc), .second, .val (.ref bx), .val (.ref bw), .val (.ref bu), .val (.ref bv), .val (.double got), .second, .val (.long s2), .second, .unset, .unset] [(.long c3), (.long s2)]) from Hc3 _ rfl
        intro c3 ec3
        have hc3 := own_cr hx2 hy3 hx3 hy2
        rw [← ec3] at hc3
        refine go_ladd (q := 381) (v := (s2 + c3)) X79 hx (hb hby at_380) rfl rfl ?_
        refine go_lstore (q := 383) (l' := #[.val (.long p_), .second, .val (.long q_), .second, .val (.long r_), .second, .val (.int k_), .val (.int (4 : Int32)), .val (.int t_), .val (.int sk), .val (.double sc), .second, .val (.ref bx), .val (.ref bw), .val (.ref bu), .val (.ref bv), .val (.double got), .second, .val (.long (s2 + c3)), .second, .unset, .unset]) X79 hx (hb hby at_381) rfl rfl ?_
        suffices Hs3 : ∀ s3 : Int64, s3 = (s2 + c3) → Go p e below s (fun v h L => v = some (.int (1 : Int32)) ∧ Fr h0.size L) room_1.cells room_1.slots T79 (mkF m 383 #[.val (.long p_), .second, .val (.long q_), .second, .val (.long r_), .second, .val (.int k_), .val (.int (4 : Int32)), .val (.int t_), .val (.int sk), .val (.double sc), .second, .val (.ref bx), .val (.ref bw), .val (.ref bu), .val (.ref bv), .val (.double got), .second, .val (.long s3), .second, .unset, .unset] []) from Hs3 _ rfl
        intro s3 es3
        have hs3 := own_add hs2 hc3 (by decide)
        rw [← es3] at hs3
        refine go_iload (q := 385) X79 hx (hb hby at_383) rfl rfl ?_
        refine go_iconst (q := 386) (v := (5 : Int32)) X79 hx (hb hby at_385) rfl rfl ?_
        refine go_icmp_lt (q := 389) (q' := 403) X79 hx (hb hby at_386) rfl (by decide) rfl (fun hc386 => ?_) (fun hc386 => ?_)
        · refine go_iload (q := 405) X79 hx (hb hby at_403) rfl rfl ?_
          refine go_bipush (q := 407) (v := (6 : Int32)) X79 hx (hb hby at_405) rfl rfl ?_
          refine go_icmp_lt (q := 410) (q' := 424) X79 hx (hb hby at_407) rfl (by decide) rfl (fun hc407 => ?_) (fun hc407 => ?_)
          · refine go_lload (q := 426) X79 hx (hb hby at_424) rfl rfl ?_
            refine go_aload (q := 428) X79 hx (hb hby at_426) rfl rfl rfl ?_
            refine go_aload (q := 430) X79 hx (hb hby at_428) rfl rfl rfl ?_
            refine go_iload (q := 432) X79 hx (hb hby at_430) rfl rfl ?_
            refine go_iconst (q := 433) (v := (1 : Int32)) X79 hx (hb hby at_432) rfl rfl ?_
            refine go_isub (q := 434) (v := (3 : Int32)) X79 hx (hb hby at_433) rfl rfl ?_
            refine go_iconst (q := 435) (v := (0 : Int32)) X79 hx (hb hby at_434) rfl rfl ?_
            refine go_callS (q := 438) (W := 2) X79 hx hZ hown e79 (hw _ (List.mem_of_getElem? (i := 12) rfl)) (hw _ (List.mem_of_getElem? (i := 13) rfl)) (hw _ (List.mem_of_getElem? (i := 3) rfl)) (hw _ (List.mem_of_getElem? (i := 14) rfl)) (by decide) [(.ref bx), (.ref bw), (.int (3 : Int32)), (.int (0 : Int32))] [(.long s3)] (rm3_30 l Z a0 hw [] bx bw k_bx k_bw _ _ x0 y0 x1 y1 x2 y2 x3 y3 x4 y4 x5 y5 h52 V_bx V_bw) (by rw [hml]; rfl) rfl (lenOf pd_2 rfl) (Nat.le_of_eq rfl) (by decide) (by decide) (hb hby at_435) rfl (by decide) (by decide) ?_
            rintro T80 L80 v80 X80 ⟨Np80, rfl, e80⟩
            have N80 := Fr.app N79 (Np80 _)
            show Go p e below s (fun v h L => v = some (.int (1 : Int32)) ∧ Fr h0.size L) room_1.cells room_1.slots T80 (mkF m 438 #[.val (.long p_), .second, .val (.long q_), .second, .val (.long r_), .second, .val (.int k_), .val (.int (4 : Int32)), .val (.int t_), .val (.int sk), .val (.double sc), .second, .val (.ref bx), .val (.ref bw), .val (.ref bu), .val (.ref bv), .val (.double got), .second, .val (.long s3), .second, .unset, .unset] [(.long (x3.toInt64 * y0.toInt64 - x0.toInt64 * y3.toInt64)), (.long s3)])
            suffices Hcz : ∀ cz : Int64, cz = (x3.toInt64 * y0.toInt64 - x0.toInt64 * y3.toInt64) → Go p e below s (fun v h L => v = some (.int (1 : Int32)) ∧ Fr h0.size L) room_1.cells room_1.slots T80 (mkF m 438 #[.val (.long p_), .second, .val (.long q_), .second, .val (.long r_), .second, .val (.int k_), .val (.int (4 : Int32)), .val (.int t_), .val (.int sk), .val (.double sc), .second, .val (.ref bx), .val (.ref bw), .val (.ref bu), .val (.ref bv), .val (.double got), .second, .val (.long s3), .second, .unset, .unset] [(.long cz), (.long s3)]) from Hcz _ rfl
            intro cz ecz
            have hcz := own_cr hx3 hy0 hx0 hy3
            rw [← ecz] at hcz
            refine go_ladd (q := 439) (v := (s3 + cz)) X80 hx (hb hby at_438) rfl rfl ?_
            refine go_lstore (q := 441) (l' := #[.val (.long p_), .second, .val (.long q_), .second, .val (.long r_), .second, .val (.int k_), .val (.int (4 : Int32)), .val (.int t_), .val (.int sk), .val (.double sc), .second, .val (.ref bx), .val (.ref bw), .val (.ref bu), .val (.ref bv), .val (.double got), .second, .val (.long (s3 + cz)), .second, .unset, .unset]) X80 hx (hb hby at_439) rfl rfl ?_
            suffices Hsz : ∀ sz : Int64, sz = (s3 + cz) → Go p e below s (fun v h L => v = some (.int (1 : Int32)) ∧ Fr h0.size L) room_1.cells room_1.slots T80 (mkF m 441 #[.val (.long p_), .second, .val (.long q_), .second, .val (.long r_), .second, .val (.int k_), .val (.int (4 : Int32)), .val (.int t_), .val (.int sk), .val (.double sc), .second, .val (.ref bx), .val (.ref bw), .val (.ref bu), .val (.ref bv), .val (.double got), .second, .val (.long sz), .second, .unset, .unset] []) from Hsz _ rfl
            intro sz esz
            have hsz_ := own_add hs3 hcz (by decide)
            rw [← esz] at hsz_
            refine go_lload (q := 443) X80 hx (hb hby at_441) rfl rfl ?_
            refine go_l2dB (q := 444) X80 hx (hb hby at_443) rfl (db_l2d (A := 8589934592) (by rw [hsz_.1]; exact hsz_.2) (by decide)) (fun z81 hz81 => ?_)
            refine go_dload (q := 446) X80 hx (hb hby at_444) rfl rfl ?_
            refine go_dmulB (q := 447) (kk := E) (C := 8589934592) X80 hx (hb hby at_446) rfl hz81 hsc (by decide) (by omega) (by omega) (by omega) rfl (fun z82 hz82 => ?_)
            refine go_dload (q := 449) X80 hx (hb hby at_447) rfl rfl ?_
            refine go_dmulB (q := 450) (kk := (E + E)) (C := 8589934592) X80 hx (hb hby at_449) rfl hz82 hsc (by decide) (by omega) (by omega) (by omega) rfl (fun z83 hz83 => ?_)
            refine go_ldc2D (q := 453) (v := (4611686018427387904 : UInt64)) X80 hx hZ hown (hw _ (List.mem_of_getElem? (i := 11) rfl)) (hb hby at_450) rfl ?_
            refine go_ddivB (q := 454) (kk := (E + E - 1)) (w0 := ((sz.toInt * 1) * 1)) X80 hx (hb hby at_453) rfl hz83 own_two (by decide) (by omega) (by decide) (by omega) (by omega) (by omega) (fun z84 hz84 => ?_)
            refine go_dstore (q := 456) (l' := #[.val (.long p_), .second, .val (.long q_), .second, .val (.long r_), .second, .val (.int k_), .val (.int (4 : Int32)), .val (.int t_), .val (.int sk), .val (.double sc), .second, .val (.ref bx), .val (.ref bw), .val (.ref bu), .val (.ref bv), .val (.double got), .second, .val (.long sz), .second, .val (.double z84), .second]) X80 hx (hb hby at_454) rfl rfl ?_
            refine go_dload (q := 458) X80 hx (hb hby at_456) rfl rfl ?_
            refine go_dload (q := 460) X80 hx (hb hby at_458) rfl rfl ?_
            refine go_dcmp (q := 461) X80 hx (hb hby at_460) rfl rfl ?_
            refine go_dif_ne (q := 464) (q' := 468) X80 hx (hb hby at_461) rfl (by decide) rfl hgot hz84 (fun hc461 => ?_) (fun hc461 => ?_)
            · exact absurd (by rw [hsz_.1]; grind) hc461
            · refine go_iconst (q := 465) (v := (1 : Int32)) X80 hx (hb hby at_464) rfl rfl ?_
              refine go_goto (q := 469) X80 hx (hb hby at_465) (by decide) rfl ?_
              exact go_retN X80 hx (by simp) hret hlk (hb hby at_469) (by decide) (by decide) ⟨rfl, N80⟩
          · exact absurd (by decide) hc407
        · exact absurd (by decide) hc386
  · refine go_callS (q := 331) (W := 0) X52 hx hZ hown e52 (hw _ (List.mem_of_getElem? (i := 6) rfl)) (hw _ (List.mem_of_getElem? (i := 7) rfl)) (hw _ (List.mem_of_getElem? (i := 8) rfl)) (hw _ (List.mem_of_getElem? (i := 9) rfl)) (by decide) [(.ref bu), (.ref bv), (.int (5 : Int32))] [] (rm2_5 l Z a0 hw [] bu bv k_bu k_bv _ _ u0 w0 u1 w1 u2 w2 u3 w3 u4 w4 u5 w5 E _ _ _ _ _ _ _ _ _ _ _ _ h52 V_bu V_bv hE hu0 hw0 hu1 hw1 hu2 hw2 hu3 hw3 hu4 hw4 hu5 hw5) (by rw [hml]; rfl) rfl (lenOf pd_1 rfl) (Nat.le_of_eq rfl) (by decide) (by decide) (hb hby at_328) rfl (by decide) (by decide) ?_
    rintro T85 L85 v85 X85 ⟨Np85, ⟨got, rfl, hgot⟩, e85⟩
    have N85 := Fr.app N52 (Np85 _)
    show Go p e below s (fun v h L => v = some (.int (1 : Int32)) ∧ Fr h0.size L) room_1.cells room_1.slots T85 (mkF m 331 #[.val (.long p_), .second, .val (.long q_), .second, .val (.long r_), .second, .val (.int k_), .val (.int (5 : Int32)), .val (.int t_), .val (.int sk), .val (.double sc), .second, .val (.ref bx), .val (.ref bw), .val (.ref bu), .val (.ref bv), .unset, .unset, .unset, .unset, .unset, .unset] [(.double got)])
    refine go_dstore (q := 333) (l' := #[.val (.long p_), .second, .val (.long q_), .second, .val (.long r_), .second, .val (.int k_), .val (.int (5 : Int32)), .val (.int t_), .val (.int sk), .val (.double sc), .second, .val (.ref bx), .val (.ref bw), .val (.ref bu), .val (.ref bv), .val (.double got), .second, .unset, .unset, .unset, .unset]) X85 hx (hb hby at_331) rfl rfl ?_
    refine go_lconst (q := 334) (v := (0 : Int64)) X85 hx (hb hby at_333) rfl rfl ?_
    refine go_lstore (q := 336) (l' := #[.val (.long p_), .second, .val (.long q_), .second, .val (.long r_), .second, .val (.int k_), .val (.int (5 : Int32)), .val (.int t_), .val (.int sk), .val (.double sc), .second, .val (.ref bx), .val (.ref bw), .val (.ref bu), .val (.ref bv), .val (.double got), .second, .val (.long (0 : Int64)), .second, .unset, .unset]) X85 hx (hb hby at_334) rfl rfl ?_
    refine go_iload (q := 338) X85 hx (hb hby at_336) rfl rfl ?_
    refine go_iconst (q := 339) (v := (3 : Int32)) X85 hx (hb hby at_338) rfl rfl ?_
    refine go_icmp_lt (q := 342) (q' := 441) X85 hx (hb hby at_339) rfl (by decide) rfl (fun hc339 => ?_) (fun hc339 => ?_)
    · exact absurd hc339 (by decide)
    · refine go_aload (q := 344) X85 hx (hb hby at_342) rfl rfl rfl ?_
      refine go_aload (q := 346) X85 hx (hb hby at_344) rfl rfl rfl ?_
      refine go_iconst (q := 347) (v := (0 : Int32)) X85 hx (hb hby at_346) rfl rfl ?_
      refine go_iconst (q := 348) (v := (1 : Int32)) X85 hx (hb hby at_347) rfl rfl ?_
      refine go_callS (q := 351) (W := 0) X85 hx hZ hown e85 (hw _ (List.mem_of_getElem? (i := 12) rfl)) (hw _ (List.mem_of_getElem? (i := 13) rfl)) (hw _ (List.mem_of_getElem? (i := 3) rfl)) (hw _ (List.mem_of_getElem? (i := 14) rfl)) (by decide) [(.ref bx), (.ref bw), (.int (0 : Int32)), (.int (1 : Int32))] [] (rm3_01 l Z a0 hw [] bx bw k_bx k_bw _ _ x0 y0 x1 y1 x2 y2 x3 y3 x4 y4 x5 y5 h52 V_bx V_bw) (by rw [hml]; rfl) rfl (lenOf pd_2 rfl) (Nat.le_of_eq rfl) (by decide) (by decide) (hb hby at_348) rfl (by decide) (by decide) ?_
      rintro T86 L86 v86 X86 ⟨Np86, rfl, e86⟩
      have N86 := Fr.app N85 (Np86 _)
      show Go p e below s (fun v h L => v = some (.int (1 : Int32)) ∧ Fr h0.size L) room_1.cells room_1.slots T86 (mkF m 351 #[.val (.long p_), .second, .val (.long q_), .second, .val (.long r_), .second, .val (.int k_), .val (.int (5 : Int32)), .val (.int t_), .val (.int sk), .val (.double sc), .second, .val (.ref bx), .val (.ref bw), .val (.ref bu), .val (.ref bv), .val (.double got), .second, .val (.long (0 : Int64)), .second, .unset, .unset] [(.long (x0.toInt64 * y1.toInt64 - x1.toInt64 * y0.toInt64))])
      suffices Hc1 : ∀ c1 : Int64, c1 = (x0.toInt64 * y1.toInt64 - x1.toInt64 * y0.toInt64) → Go p e below s (fun v h L => v = some (.int (1 : Int32)) ∧ Fr h0.size L) room_1.cells room_1.slots T86 (mkF m 351 #[.val (.long p_), .second, .val (.long q_), .second, .val (.long r_), .second, .val (.int k_), .val (.int (5 : Int32)), .val (.int t_), .val (.int sk), .val (.double sc), .second, .val (.ref bx), .val (.ref bw), .val (.ref bu), .val (.ref bv), .val (.double got), .second, .val (.long (0 : Int64)), .second, .unset, .unset] [(.long c1)]) from Hc1 _ rfl
      intro c1 ec1
      have hc1 := own_cr hx0 hy1 hx1 hy0
      rw [← ec1] at hc1
      refine go_aload (q := 353) X86 hx (hb hby at_351) rfl rfl rfl ?_
      refine go_aload (q := 355) X86 hx (hb hby at_353) rfl rfl rfl ?_
      refine go_iconst (q := 356) (v := (1 : Int32)) X86 hx (hb hby at_355) rfl rfl ?_
      refine go_iconst (q := 357) (v := (2 : Int32)) X86 hx (hb hby at_356) rfl rfl ?_
      refine go_callS (q := 360) (W := 2) X86 hx hZ hown e86 (hw _ (List.mem_of_getElem? (i := 12) rfl)) (hw _ (List.mem_of_getElem? (i := 13) rfl)) (hw _ (List.mem_of_getElem? (i := 3) rfl)) (hw _ (List.mem_of_getElem? (i := 14) rfl)) (by decide) [(.ref bx), (.ref bw), (.int (1 : Int32)), (.int (2 : Int32))] [(.long c1)] (rm3_12 l Z a0 hw [] bx bw k_bx k_bw _ _ x0 y0 x1 y1 x2 y2 x3 y3 x4 y4 x5 y5 h52 V_bx V_bw) (by rw [hml]; rfl) rfl (lenOf pd_2 rfl) (Nat.le_of_eq rfl) (by decide) (by decide) (hb hby at_357) rfl (by decide) (by decide) ?_
      rintro T87 L87 v87 X87 ⟨Np87, rfl, e87⟩
      have N87 := Fr.app N86 (Np87 _)
      show Go p e below s (fun v h L => v = some (.int (1 : Int32)) ∧ Fr h0.size L) room_1.cells room_1.slots T87 (mkF m 360 #[.val (.long p_), .second, .val (.long q_), .second, .val (.long r_), .second, .val (.int k_), .val (.int (5 : Int32)), .val (.int t_), .val (.int sk), .val (.double sc), .second, .val (.ref bx), .val (.ref bw), .val (.ref bu), .val (.ref bv), .val (.double got), .second, .val (.long (0 : Int64)), .second, .unset, .unset] [(.long (x1.toInt64 * y2.toInt64 - x2.toInt64 * y1.toInt64)), (.long c1)])
      suffices Hc2 : ∀ c2 : Int64, c2 = (x1.toInt64 * y2.toInt64 - x2.toInt64 * y1.toInt64) → Go p e below s (fun v h L => v = some (.int (1 : Int32)) ∧ Fr h0.size L) room_1.cells room_1.slots T87 (mkF m 360 #[.val (.long p_), .second, .val (.long q_), .second, .val (.long r_), .second, .val (.int k_), .val (.int (5 : Int32)), .val (.int t_), .val (.int sk), .val (.double sc), .second, .val (.ref bx), .val (.ref bw), .val (.ref bu), .val (.ref bv), .val (.double got), .second, .val (.long (0 : Int64)), .second, .unset, .unset] [(.long c2), (.long c1)]) from Hc2 _ rfl
      intro c2 ec2
      have hc2 := own_cr hx1 hy2 hx2 hy1
      rw [← ec2] at hc2
      refine go_ladd (q := 361) (v := (c1 + c2)) X87 hx (hb hby at_360) rfl rfl ?_
      refine go_lstore (q := 363) (l' := #[.val (.long p_), .second, .val (.long q_), .second, .val (.long r_), .second, .val (.int k_), .val (.int (5 : Int32)), .val (.int t_), .val (.int sk), .val (.double sc), .second, .val (.ref bx), .val (.ref bw), .val (.ref bu), .val (.ref bv), .val (.double got), .second, .val (.long (c1 + c2)), .second, .unset, .unset]) X87 hx (hb hby at_361) rfl rfl ?_
      suffices Hs2 : ∀ s2 : Int64, s2 = (c1 + c2) → Go p e below s (fun v h L => v = some (.int (1 : Int32)) ∧ Fr h0.size L) room_1.cells room_1.slots T87 (mkF m 363 #[.val (.long p_), .second, .val (.long q_), .second, .val (.long r_), .second, .val (.int k_), .val (.int (5 : Int32)), .val (.int t_), .val (.int sk), .val (.double sc), .second, .val (.ref bx), .val (.ref bw), .val (.ref bu), .val (.ref bv), .val (.double got), .second, .val (.long s2), .second, .unset, .unset] []) from Hs2 _ rfl
      intro s2 es2
      have hs2 := own_add hc1 hc2 (by decide)
      rw [← es2] at hs2
      refine go_iload (q := 365) X87 hx (hb hby at_363) rfl rfl ?_
      refine go_iconst (q := 366) (v := (4 : Int32)) X87 hx (hb hby at_365) rfl rfl ?_
      refine go_icmp_lt (q := 369) (q' := 383) X87 hx (hb hby at_366) rfl (by decide) rfl (fun hc366 => ?_) (fun hc366 => ?_)
      · exact absurd hc366 (by decide)
      · refine go_lload (q := 371) X87 hx (hb hby at_369) rfl rfl ?_
        refine go_aload (q := 373) X87 hx (hb hby at_371) rfl rfl rfl ?_
        refine go_aload (q := 375) X87 hx (hb hby at_373) rfl rfl rfl ?_
        refine go_iconst (q := 376) (v := (2 : Int32)) X87 hx (hb hby at_375) rfl rfl ?_
        refine go_iconst (q := 377) (v := (3 : Int32)) X87 hx (hb hby at_376) rfl rfl ?_
        refine go_callS (q := 380) (W := 2) X87 hx hZ hown e87 (hw _ (List.mem_of_getElem? (i := 12) rfl)) (hw _ (List.mem_of_getElem? (i := 13) rfl)) (hw _ (List.mem_of_getElem? (i := 3) rfl)) (hw _ (List.mem_of_getElem? (i := 14) rfl)) (by decide) [(.ref bx), (.ref bw), (.int (2 : Int32)), (.int (3 : Int32))] [(.long s2)] (rm3_23 l Z a0 hw [] bx bw k_bx k_bw _ _ x0 y0 x1 y1 x2 y2 x3 y3 x4 y4 x5 y5 h52 V_bx V_bw) (by rw [hml]; rfl) rfl (lenOf pd_2 rfl) (Nat.le_of_eq rfl) (by decide) (by decide) (hb hby at_377) rfl (by decide) (by decide) ?_
        rintro T88 L88 v88 X88 ⟨Np88, rfl, e88⟩
        have N88 := Fr.app N87 (Np88 _)
        show Go p e below s (fun v h L => v = some (.int (1 : Int32)) ∧ Fr h0.size L) room_1.cells room_1.slots T88 (mkF m 380 #[.val (.long p_), .second, .val (.long q_), .second, .val (.long r_), .second, .val (.int k_), .val (.int (5 : Int32)), .val (.int t_), .val (.int sk), .val (.double sc), .second, .val (.ref bx), .val (.ref bw), .val (.ref bu), .val (.ref bv), .val (.double got), .second, .val (.long s2), .second, .unset, .unset] [(.long (x2.toInt64 * y3.toInt64 - x3.toInt64 * y2.toInt64)), (.long s2)])
        suffices Hc3 : ∀ c3 : Int64, c3 = (x2.toInt64 * y3.toInt64 - x3.toInt64 * y2.toInt64) → Go p e below s (fun v h L => v = some (.int (1 : Int32)) ∧ Fr h0.size L) room_1.cells room_1.slots T88 (mkF m 380 #[.val (.long p_), .second, .val (.long q_), .second, .val (.long r_), .second, .val (.int k_), .val (.int (5 : Int32)), .val (.int t_), .val (.int sk), .val (.double sc), .second, .val (.ref bx), .val (.ref bw), .val (.ref bu), .val (.ref bv), .val (.double got), .second, .val (.long s2), .second, .unset, .unset] [(.long c3), (.long s2)]) from Hc3 _ rfl
        intro c3 ec3
        have hc3 := own_cr hx2 hy3 hx3 hy2
        rw [← ec3] at hc3
        refine go_ladd (q := 381) (v := (s2 + c3)) X88 hx (hb hby at_380) rfl rfl ?_
        refine go_lstore (q := 383) (l' := #[.val (.long p_), .second, .val (.long q_), .second, .val (.long r_), .second, .val (.int k_), .val (.int (5 : Int32)), .val (.int t_), .val (.int sk), .val (.double sc), .second, .val (.ref bx), .val (.ref bw), .val (.ref bu), .val (.ref bv), .val (.double got), .second, .val (.long (s2 + c3)), .second, .unset, .unset]) X88 hx (hb hby at_381) rfl rfl ?_
        suffices Hs3 : ∀ s3 : Int64, s3 = (s2 + c3) → Go p e below s (fun v h L => v = some (.int (1 : Int32)) ∧ Fr h0.size L) room_1.cells room_1.slots T88 (mkF m 383 #[.val (.long p_), .second, .val (.long q_), .second, .val (.long r_), .second, .val (.int k_), .val (.int (5 : Int32)), .val (.int t_), .val (.int sk), .val (.double sc), .second, .val (.ref bx), .val (.ref bw), .val (.ref bu), .val (.ref bv), .val (.double got), .second, .val (.long s3), .second, .unset, .unset] []) from Hs3 _ rfl
        intro s3 es3
        have hs3 := own_add hs2 hc3 (by decide)
        rw [← es3] at hs3
        refine go_iload (q := 385) X88 hx (hb hby at_383) rfl rfl ?_
        refine go_iconst (q := 386) (v := (5 : Int32)) X88 hx (hb hby at_385) rfl rfl ?_
        refine go_icmp_lt (q := 389) (q' := 403) X88 hx (hb hby at_386) rfl (by decide) rfl (fun hc386 => ?_) (fun hc386 => ?_)
        · exact absurd hc386 (by decide)
        · refine go_lload (q := 391) X88 hx (hb hby at_389) rfl rfl ?_
          refine go_aload (q := 393) X88 hx (hb hby at_391) rfl rfl rfl ?_
          refine go_aload (q := 395) X88 hx (hb hby at_393) rfl rfl rfl ?_
          refine go_iconst (q := 396) (v := (3 : Int32)) X88 hx (hb hby at_395) rfl rfl ?_
          refine go_iconst (q := 397) (v := (4 : Int32)) X88 hx (hb hby at_396) rfl rfl ?_
          refine go_callS (q := 400) (W := 2) X88 hx hZ hown e88 (hw _ (List.mem_of_getElem? (i := 12) rfl)) (hw _ (List.mem_of_getElem? (i := 13) rfl)) (hw _ (List.mem_of_getElem? (i := 3) rfl)) (hw _ (List.mem_of_getElem? (i := 14) rfl)) (by decide) [(.ref bx), (.ref bw), (.int (3 : Int32)), (.int (4 : Int32))] [(.long s3)] (rm3_34 l Z a0 hw [] bx bw k_bx k_bw _ _ x0 y0 x1 y1 x2 y2 x3 y3 x4 y4 x5 y5 h52 V_bx V_bw) (by rw [hml]; rfl) rfl (lenOf pd_2 rfl) (Nat.le_of_eq rfl) (by decide) (by decide) (hb hby at_397) rfl (by decide) (by decide) ?_
          rintro T89 L89 v89 X89 ⟨Np89, rfl, e89⟩
          have N89 := Fr.app N88 (Np89 _)
          show Go p e below s (fun v h L => v = some (.int (1 : Int32)) ∧ Fr h0.size L) room_1.cells room_1.slots T89 (mkF m 400 #[.val (.long p_), .second, .val (.long q_), .second, .val (.long r_), .second, .val (.int k_), .val (.int (5 : Int32)), .val (.int t_), .val (.int sk), .val (.double sc), .second, .val (.ref bx), .val (.ref bw), .val (.ref bu), .val (.ref bv), .val (.double got), .second, .val (.long s3), .second, .unset, .unset] [(.long (x3.toInt64 * y4.toInt64 - x4.toInt64 * y3.toInt64)), (.long s3)])
          suffices Hc4 : ∀ c4 : Int64, c4 = (x3.toInt64 * y4.toInt64 - x4.toInt64 * y3.toInt64) → Go p e below s (fun v h L => v = some (.int (1 : Int32)) ∧ Fr h0.size L) room_1.cells room_1.slots T89 (mkF m 400 #[.val (.long p_), .second, .val (.long q_), .second, .val (.long r_), .second, .val (.int k_), .val (.int (5 : Int32)), .val (.int t_), .val (.int sk), .val (.double sc), .second, .val (.ref bx), .val (.ref bw), .val (.ref bu), .val (.ref bv), .val (.double got), .second, .val (.long s3), .second, .unset, .unset] [(.long c4), (.long s3)]) from Hc4 _ rfl
          intro c4 ec4
          have hc4 := own_cr hx3 hy4 hx4 hy3
          rw [← ec4] at hc4
          refine go_ladd (q := 401) (v := (s3 + c4)) X89 hx (hb hby at_400) rfl rfl ?_
          refine go_lstore (q := 403) (l' := #[.val (.long p_), .second, .val (.long q_), .second, .val (.long r_), .second, .val (.int k_), .val (.int (5 : Int32)), .val (.int t_), .val (.int sk), .val (.double sc), .second, .val (.ref bx), .val (.ref bw), .val (.ref bu), .val (.ref bv), .val (.double got), .second, .val (.long (s3 + c4)), .second, .unset, .unset]) X89 hx (hb hby at_401) rfl rfl ?_
          suffices Hs4 : ∀ s4 : Int64, s4 = (s3 + c4) → Go p e below s (fun v h L => v = some (.int (1 : Int32)) ∧ Fr h0.size L) room_1.cells room_1.slots T89 (mkF m 403 #[.val (.long p_), .second, .val (.long q_), .second, .val (.long r_), .second, .val (.int k_), .val (.int (5 : Int32)), .val (.int t_), .val (.int sk), .val (.double sc), .second, .val (.ref bx), .val (.ref bw), .val (.ref bu), .val (.ref bv), .val (.double got), .second, .val (.long s4), .second, .unset, .unset] []) from Hs4 _ rfl
          intro s4 es4
          have hs4 := own_add hs3 hc4 (by decide)
          rw [← es4] at hs4
          refine go_iload (q := 405) X89 hx (hb hby at_403) rfl rfl ?_
          refine go_bipush (q := 407) (v := (6 : Int32)) X89 hx (hb hby at_405) rfl rfl ?_
          refine go_icmp_lt (q := 410) (q' := 424) X89 hx (hb hby at_407) rfl (by decide) rfl (fun hc407 => ?_) (fun hc407 => ?_)
          · refine go_lload (q := 426) X89 hx (hb hby at_424) rfl rfl ?_
            refine go_aload (q := 428) X89 hx (hb hby at_426) rfl rfl rfl ?_
            refine go_aload (q := 430) X89 hx (hb hby at_428) rfl rfl rfl ?_
            refine go_iload (q := 432) X89 hx (hb hby at_430) rfl rfl ?_
            refine go_iconst (q := 433) (v := (1 : Int32)) X89 hx (hb hby at_432) rfl rfl ?_
            refine go_isub (q := 434) (v := (4 : Int32)) X89 hx (hb hby at_433) rfl rfl ?_
            refine go_iconst (q := 435) (v := (0 : Int32)) X89 hx (hb hby at_434) rfl rfl ?_
            refine go_callS (q := 438) (W := 2) X89 hx hZ hown e89 (hw _ (List.mem_of_getElem? (i := 12) rfl)) (hw _ (List.mem_of_getElem? (i := 13) rfl)) (hw _ (List.mem_of_getElem? (i := 3) rfl)) (hw _ (List.mem_of_getElem? (i := 14) rfl)) (by decide) [(.ref bx), (.ref bw), (.int (4 : Int32)), (.int (0 : Int32))] [(.long s4)] (rm3_40 l Z a0 hw [] bx bw k_bx k_bw _ _ x0 y0 x1 y1 x2 y2 x3 y3 x4 y4 x5 y5 h52 V_bx V_bw) (by rw [hml]; rfl) rfl (lenOf pd_2 rfl) (Nat.le_of_eq rfl) (by decide) (by decide) (hb hby at_435) rfl (by decide) (by decide) ?_
            rintro T90 L90 v90 X90 ⟨Np90, rfl, e90⟩
            have N90 := Fr.app N89 (Np90 _)
            show Go p e below s (fun v h L => v = some (.int (1 : Int32)) ∧ Fr h0.size L) room_1.cells room_1.slots T90 (mkF m 438 #[.val (.long p_), .second, .val (.long q_), .second, .val (.long r_), .second, .val (.int k_), .val (.int (5 : Int32)), .val (.int t_), .val (.int sk), .val (.double sc), .second, .val (.ref bx), .val (.ref bw), .val (.ref bu), .val (.ref bv), .val (.double got), .second, .val (.long s4), .second, .unset, .unset] [(.long (x4.toInt64 * y0.toInt64 - x0.toInt64 * y4.toInt64)), (.long s4)])
            suffices Hcz : ∀ cz : Int64, cz = (x4.toInt64 * y0.toInt64 - x0.toInt64 * y4.toInt64) → Go p e below s (fun v h L => v = some (.int (1 : Int32)) ∧ Fr h0.size L) room_1.cells room_1.slots T90 (mkF m 438 #[.val (.long p_), .second, .val (.long q_), .second, .val (.long r_), .second, .val (.int k_), .val (.int (5 : Int32)), .val (.int t_), .val (.int sk), .val (.double sc), .second, .val (.ref bx), .val (.ref bw), .val (.ref bu), .val (.ref bv), .val (.double got), .second, .val (.long s4), .second, .unset, .unset] [(.long cz), (.long s4)]) from Hcz _ rfl
            intro cz ecz
            have hcz := own_cr hx4 hy0 hx0 hy4
            rw [← ecz] at hcz
            refine go_ladd (q := 439) (v := (s4 + cz)) X90 hx (hb hby at_438) rfl rfl ?_
            refine go_lstore (q := 441) (l' := #[.val (.long p_), .second, .val (.long q_), .second, .val (.long r_), .second, .val (.int k_), .val (.int (5 : Int32)), .val (.int t_), .val (.int sk), .val (.double sc), .second, .val (.ref bx), .val (.ref bw), .val (.ref bu), .val (.ref bv), .val (.double got), .second, .val (.long (s4 + cz)), .second, .unset, .unset]) X90 hx (hb hby at_439) rfl rfl ?_
            suffices Hsz : ∀ sz : Int64, sz = (s4 + cz) → Go p e below s (fun v h L => v = some (.int (1 : Int32)) ∧ Fr h0.size L) room_1.cells room_1.slots T90 (mkF m 441 #[.val (.long p_), .second, .val (.long q_), .second, .val (.long r_), .second, .val (.int k_), .val (.int (5 : Int32)), .val (.int t_), .val (.int sk), .val (.double sc), .second, .val (.ref bx), .val (.ref bw), .val (.ref bu), .val (.ref bv), .val (.double got), .second, .val (.long sz), .second, .unset, .unset] []) from Hsz _ rfl
            intro sz esz
            have hsz_ := own_add hs4 hcz (by decide)
            rw [← esz] at hsz_
            refine go_lload (q := 443) X90 hx (hb hby at_441) rfl rfl ?_
            refine go_l2dB (q := 444) X90 hx (hb hby at_443) rfl (db_l2d (A := 10737418240) (by rw [hsz_.1]; exact hsz_.2) (by decide)) (fun z91 hz91 => ?_)
            refine go_dload (q := 446) X90 hx (hb hby at_444) rfl rfl ?_
            refine go_dmulB (q := 447) (kk := E) (C := 10737418240) X90 hx (hb hby at_446) rfl hz91 hsc (by decide) (by omega) (by omega) (by omega) rfl (fun z92 hz92 => ?_)
            refine go_dload (q := 449) X90 hx (hb hby at_447) rfl rfl ?_
            refine go_dmulB (q := 450) (kk := (E + E)) (C := 10737418240) X90 hx (hb hby at_449) rfl hz92 hsc (by decide) (by omega) (by omega) (by omega) rfl (fun z93 hz93 => ?_)
            refine go_ldc2D (q := 453) (v := (4611686018427387904 : UInt64)) X90 hx hZ hown (hw _ (List.mem_of_getElem? (i := 11) rfl)) (hb hby at_450) rfl ?_
            refine go_ddivB (q := 454) (kk := (E + E - 1)) (w0 := ((sz.toInt * 1) * 1)) X90 hx (hb hby at_453) rfl hz93 own_two (by decide) (by omega) (by decide) (by omega) (by omega) (by omega) (fun z94 hz94 => ?_)
            refine go_dstore (q := 456) (l' := #[.val (.long p_), .second, .val (.long q_), .second, .val (.long r_), .second, .val (.int k_), .val (.int (5 : Int32)), .val (.int t_), .val (.int sk), .val (.double sc), .second, .val (.ref bx), .val (.ref bw), .val (.ref bu), .val (.ref bv), .val (.double got), .second, .val (.long sz), .second, .val (.double z94), .second]) X90 hx (hb hby at_454) rfl rfl ?_
            refine go_dload (q := 458) X90 hx (hb hby at_456) rfl rfl ?_
            refine go_dload (q := 460) X90 hx (hb hby at_458) rfl rfl ?_
            refine go_dcmp (q := 461) X90 hx (hb hby at_460) rfl rfl ?_
            refine go_dif_ne (q := 464) (q' := 468) X90 hx (hb hby at_461) rfl (by decide) rfl hgot hz94 (fun hc461 => ?_) (fun hc461 => ?_)
            · exact absurd (by rw [hsz_.1]; grind) hc461
            · refine go_iconst (q := 465) (v := (1 : Int32)) X90 hx (hb hby at_464) rfl rfl ?_
              refine go_goto (q := 469) X90 hx (hb hby at_465) (by decide) rfl ?_
              exact go_retN X90 hx (by simp) hret hlk (hb hby at_469) (by decide) (by decide) ⟨rfl, N90⟩
          · exact absurd (by decide) hc407
  · refine go_callS (q := 331) (W := 0) X52 hx hZ hown e52 (hw _ (List.mem_of_getElem? (i := 6) rfl)) (hw _ (List.mem_of_getElem? (i := 7) rfl)) (hw _ (List.mem_of_getElem? (i := 8) rfl)) (hw _ (List.mem_of_getElem? (i := 9) rfl)) (by decide) [(.ref bu), (.ref bv), (.int (6 : Int32))] [] (rm2_6 l Z a0 hw [] bu bv k_bu k_bv _ _ u0 w0 u1 w1 u2 w2 u3 w3 u4 w4 u5 w5 E _ _ _ _ _ _ _ _ _ _ _ _ h52 V_bu V_bv hE hu0 hw0 hu1 hw1 hu2 hw2 hu3 hw3 hu4 hw4 hu5 hw5) (by rw [hml]; rfl) rfl (lenOf pd_1 rfl) (Nat.le_of_eq rfl) (by decide) (by decide) (hb hby at_328) rfl (by decide) (by decide) ?_
    rintro T95 L95 v95 X95 ⟨Np95, ⟨got, rfl, hgot⟩, e95⟩
    have N95 := Fr.app N52 (Np95 _)
    show Go p e below s (fun v h L => v = some (.int (1 : Int32)) ∧ Fr h0.size L) room_1.cells room_1.slots T95 (mkF m 331 #[.val (.long p_), .second, .val (.long q_), .second, .val (.long r_), .second, .val (.int k_), .val (.int (6 : Int32)), .val (.int t_), .val (.int sk), .val (.double sc), .second, .val (.ref bx), .val (.ref bw), .val (.ref bu), .val (.ref bv), .unset, .unset, .unset, .unset, .unset, .unset] [(.double got)])
    refine go_dstore (q := 333) (l' := #[.val (.long p_), .second, .val (.long q_), .second, .val (.long r_), .second, .val (.int k_), .val (.int (6 : Int32)), .val (.int t_), .val (.int sk), .val (.double sc), .second, .val (.ref bx), .val (.ref bw), .val (.ref bu), .val (.ref bv), .val (.double got), .second, .unset, .unset, .unset, .unset]) X95 hx (hb hby at_331) rfl rfl ?_
    refine go_lconst (q := 334) (v := (0 : Int64)) X95 hx (hb hby at_333) rfl rfl ?_
    refine go_lstore (q := 336) (l' := #[.val (.long p_), .second, .val (.long q_), .second, .val (.long r_), .second, .val (.int k_), .val (.int (6 : Int32)), .val (.int t_), .val (.int sk), .val (.double sc), .second, .val (.ref bx), .val (.ref bw), .val (.ref bu), .val (.ref bv), .val (.double got), .second, .val (.long (0 : Int64)), .second, .unset, .unset]) X95 hx (hb hby at_334) rfl rfl ?_
    refine go_iload (q := 338) X95 hx (hb hby at_336) rfl rfl ?_
    refine go_iconst (q := 339) (v := (3 : Int32)) X95 hx (hb hby at_338) rfl rfl ?_
    refine go_icmp_lt (q := 342) (q' := 441) X95 hx (hb hby at_339) rfl (by decide) rfl (fun hc339 => ?_) (fun hc339 => ?_)
    · exact absurd hc339 (by decide)
    · refine go_aload (q := 344) X95 hx (hb hby at_342) rfl rfl rfl ?_
      refine go_aload (q := 346) X95 hx (hb hby at_344) rfl rfl rfl ?_
      refine go_iconst (q := 347) (v := (0 : Int32)) X95 hx (hb hby at_346) rfl rfl ?_
      refine go_iconst (q := 348) (v := (1 : Int32)) X95 hx (hb hby at_347) rfl rfl ?_
      refine go_callS (q := 351) (W := 0) X95 hx hZ hown e95 (hw _ (List.mem_of_getElem? (i := 12) rfl)) (hw _ (List.mem_of_getElem? (i := 13) rfl)) (hw _ (List.mem_of_getElem? (i := 3) rfl)) (hw _ (List.mem_of_getElem? (i := 14) rfl)) (by decide) [(.ref bx), (.ref bw), (.int (0 : Int32)), (.int (1 : Int32))] [] (rm3_01 l Z a0 hw [] bx bw k_bx k_bw _ _ x0 y0 x1 y1 x2 y2 x3 y3 x4 y4 x5 y5 h52 V_bx V_bw) (by rw [hml]; rfl) rfl (lenOf pd_2 rfl) (Nat.le_of_eq rfl) (by decide) (by decide) (hb hby at_348) rfl (by decide) (by decide) ?_
      rintro T96 L96 v96 X96 ⟨Np96, rfl, e96⟩
      have N96 := Fr.app N95 (Np96 _)
      show Go p e below s (fun v h L => v = some (.int (1 : Int32)) ∧ Fr h0.size L) room_1.cells room_1.slots T96 (mkF m 351 #[.val (.long p_), .second, .val (.long q_), .second, .val (.long r_), .second, .val (.int k_), .val (.int (6 : Int32)), .val (.int t_), .val (.int sk), .val (.double sc), .second, .val (.ref bx), .val (.ref bw), .val (.ref bu), .val (.ref bv), .val (.double got), .second, .val (.long (0 : Int64)), .second, .unset, .unset] [(.long (x0.toInt64 * y1.toInt64 - x1.toInt64 * y0.toInt64))])
      suffices Hc1 : ∀ c1 : Int64, c1 = (x0.toInt64 * y1.toInt64 - x1.toInt64 * y0.toInt64) → Go p e below s (fun v h L => v = some (.int (1 : Int32)) ∧ Fr h0.size L) room_1.cells room_1.slots T96 (mkF m 351 #[.val (.long p_), .second, .val (.long q_), .second, .val (.long r_), .second, .val (.int k_), .val (.int (6 : Int32)), .val (.int t_), .val (.int sk), .val (.double sc), .second, .val (.ref bx), .val (.ref bw), .val (.ref bu), .val (.ref bv), .val (.double got), .second, .val (.long (0 : Int64)), .second, .unset, .unset] [(.long c1)]) from Hc1 _ rfl
      intro c1 ec1
      have hc1 := own_cr hx0 hy1 hx1 hy0
      rw [← ec1] at hc1
      refine go_aload (q := 353) X96 hx (hb hby at_351) rfl rfl rfl ?_
      refine go_aload (q := 355) X96 hx (hb hby at_353) rfl rfl rfl ?_
      refine go_iconst (q := 356) (v := (1 : Int32)) X96 hx (hb hby at_355) rfl rfl ?_
      refine go_iconst (q := 357) (v := (2 : Int32)) X96 hx (hb hby at_356) rfl rfl ?_
      refine go_callS (q := 360) (W := 2) X96 hx hZ hown e96 (hw _ (List.mem_of_getElem? (i := 12) rfl)) (hw _ (List.mem_of_getElem? (i := 13) rfl)) (hw _ (List.mem_of_getElem? (i := 3) rfl)) (hw _ (List.mem_of_getElem? (i := 14) rfl)) (by decide) [(.ref bx), (.ref bw), (.int (1 : Int32)), (.int (2 : Int32))] [(.long c1)] (rm3_12 l Z a0 hw [] bx bw k_bx k_bw _ _ x0 y0 x1 y1 x2 y2 x3 y3 x4 y4 x5 y5 h52 V_bx V_bw) (by rw [hml]; rfl) rfl (lenOf pd_2 rfl) (Nat.le_of_eq rfl) (by decide) (by decide) (hb hby at_357) rfl (by decide) (by decide) ?_
      rintro T97 L97 v97 X97 ⟨Np97, rfl, e97⟩
      have N97 := Fr.app N96 (Np97 _)
      show Go p e below s (fun v h L => v = some (.int (1 : Int32)) ∧ Fr h0.size L) room_1.cells room_1.slots T97 (mkF m 360 #[.val (.long p_), .second, .val (.long q_), .second, .val (.long r_), .second, .val (.int k_), .val (.int (6 : Int32)), .val (.int t_), .val (.int sk), .val (.double sc), .second, .val (.ref bx), .val (.ref bw), .val (.ref bu), .val (.ref bv), .val (.double got), .second, .val (.long (0 : Int64)), .second, .unset, .unset] [(.long (x1.toInt64 * y2.toInt64 - x2.toInt64 * y1.toInt64)), (.long c1)])
      suffices Hc2 : ∀ c2 : Int64, c2 = (x1.toInt64 * y2.toInt64 - x2.toInt64 * y1.toInt64) → Go p e below s (fun v h L => v = some (.int (1 : Int32)) ∧ Fr h0.size L) room_1.cells room_1.slots T97 (mkF m 360 #[.val (.long p_), .second, .val (.long q_), .second, .val (.long r_), .second, .val (.int k_), .val (.int (6 : Int32)), .val (.int t_), .val (.int sk), .val (.double sc), .second, .val (.ref bx), .val (.ref bw), .val (.ref bu), .val (.ref bv), .val (.double got), .second, .val (.long (0 : Int64)), .second, .unset, .unset] [(.long c2), (.long c1)]) from Hc2 _ rfl
      intro c2 ec2
      have hc2 := own_cr hx1 hy2 hx2 hy1
      rw [← ec2] at hc2
      refine go_ladd (q := 361) (v := (c1 + c2)) X97 hx (hb hby at_360) rfl rfl ?_
      refine go_lstore (q := 363) (l' := #[.val (.long p_), .second, .val (.long q_), .second, .val (.long r_), .second, .val (.int k_), .val (.int (6 : Int32)), .val (.int t_), .val (.int sk), .val (.double sc), .second, .val (.ref bx), .val (.ref bw), .val (.ref bu), .val (.ref bv), .val (.double got), .second, .val (.long (c1 + c2)), .second, .unset, .unset]) X97 hx (hb hby at_361) rfl rfl ?_
      suffices Hs2 : ∀ s2 : Int64, s2 = (c1 + c2) → Go p e below s (fun v h L => v = some (.int (1 : Int32)) ∧ Fr h0.size L) room_1.cells room_1.slots T97 (mkF m 363 #[.val (.long p_), .second, .val (.long q_), .second, .val (.long r_), .second, .val (.int k_), .val (.int (6 : Int32)), .val (.int t_), .val (.int sk), .val (.double sc), .second, .val (.ref bx), .val (.ref bw), .val (.ref bu), .val (.ref bv), .val (.double got), .second, .val (.long s2), .second, .unset, .unset] []) from Hs2 _ rfl
      intro s2 es2
      have hs2 := own_add hc1 hc2 (by decide)
      rw [← es2] at hs2
      refine go_iload (q := 365) X97 hx (hb hby at_363) rfl rfl ?_
      refine go_iconst (q := 366) (v := (4 : Int32)) X97 hx (hb hby at_365) rfl rfl ?_
      refine go_icmp_lt (q := 369) (q' := 383) X97 hx (hb hby at_366) rfl (by decide) rfl (fun hc366 => ?_) (fun hc366 => ?_)
      · exact absurd hc366 (by decide)
      · refine go_lload (q := 371) X97 hx (hb hby at_369) rfl rfl ?_
        refine go_aload (q := 373) X97 hx (hb hby at_371) rfl rfl rfl ?_
        refine go_aload (q := 375) X97 hx (hb hby at_373) rfl rfl rfl ?_
        refine go_iconst (q := 376) (v := (2 : Int32)) X97 hx (hb hby at_375) rfl rfl ?_
        refine go_iconst (q := 377) (v := (3 : Int32)) X97 hx (hb hby at_376) rfl rfl ?_
        refine go_callS (q := 380) (W := 2) X97 hx hZ hown e97 (hw _ (List.mem_of_getElem? (i := 12) rfl)) (hw _ (List.mem_of_getElem? (i := 13) rfl)) (hw _ (List.mem_of_getElem? (i := 3) rfl)) (hw _ (List.mem_of_getElem? (i := 14) rfl)) (by decide) [(.ref bx), (.ref bw), (.int (2 : Int32)), (.int (3 : Int32))] [(.long s2)] (rm3_23 l Z a0 hw [] bx bw k_bx k_bw _ _ x0 y0 x1 y1 x2 y2 x3 y3 x4 y4 x5 y5 h52 V_bx V_bw) (by rw [hml]; rfl) rfl (lenOf pd_2 rfl) (Nat.le_of_eq rfl) (by decide) (by decide) (hb hby at_377) rfl (by decide) (by decide) ?_
        rintro T98 L98 v98 X98 ⟨Np98, rfl, e98⟩
        have N98 := Fr.app N97 (Np98 _)
        show Go p e below s (fun v h L => v = some (.int (1 : Int32)) ∧ Fr h0.size L) room_1.cells room_1.slots T98 (mkF m 380 #[.val (.long p_), .second, .val (.long q_), .second, .val (.long r_), .second, .val (.int k_), .val (.int (6 : Int32)), .val (.int t_), .val (.int sk), .val (.double sc), .second, .val (.ref bx), .val (.ref bw), .val (.ref bu), .val (.ref bv), .val (.double got), .second, .val (.long s2), .second, .unset, .unset] [(.long (x2.toInt64 * y3.toInt64 - x3.toInt64 * y2.toInt64)), (.long s2)])
        suffices Hc3 : ∀ c3 : Int64, c3 = (x2.toInt64 * y3.toInt64 - x3.toInt64 * y2.toInt64) → Go p e below s (fun v h L => v = some (.int (1 : Int32)) ∧ Fr h0.size L) room_1.cells room_1.slots T98 (mkF m 380 #[.val (.long p_), .second, .val (.long q_), .second, .val (.long r_), .second, .val (.int k_), .val (.int (6 : Int32)), .val (.int t_), .val (.int sk), .val (.double sc), .second, .val (.ref bx), .val (.ref bw), .val (.ref bu), .val (.ref bv), .val (.double got), .second, .val (.long s2), .second, .unset, .unset] [(.long c3), (.long s2)]) from Hc3 _ rfl
        intro c3 ec3
        have hc3 := own_cr hx2 hy3 hx3 hy2
        rw [← ec3] at hc3
        refine go_ladd (q := 381) (v := (s2 + c3)) X98 hx (hb hby at_380) rfl rfl ?_
        refine go_lstore (q := 383) (l' := #[.val (.long p_), .second, .val (.long q_), .second, .val (.long r_), .second, .val (.int k_), .val (.int (6 : Int32)), .val (.int t_), .val (.int sk), .val (.double sc), .second, .val (.ref bx), .val (.ref bw), .val (.ref bu), .val (.ref bv), .val (.double got), .second, .val (.long (s2 + c3)), .second, .unset, .unset]) X98 hx (hb hby at_381) rfl rfl ?_
        suffices Hs3 : ∀ s3 : Int64, s3 = (s2 + c3) → Go p e below s (fun v h L => v = some (.int (1 : Int32)) ∧ Fr h0.size L) room_1.cells room_1.slots T98 (mkF m 383 #[.val (.long p_), .second, .val (.long q_), .second, .val (.long r_), .second, .val (.int k_), .val (.int (6 : Int32)), .val (.int t_), .val (.int sk), .val (.double sc), .second, .val (.ref bx), .val (.ref bw), .val (.ref bu), .val (.ref bv), .val (.double got), .second, .val (.long s3), .second, .unset, .unset] []) from Hs3 _ rfl
        intro s3 es3
        have hs3 := own_add hs2 hc3 (by decide)
        rw [← es3] at hs3
        refine go_iload (q := 385) X98 hx (hb hby at_383) rfl rfl ?_
        refine go_iconst (q := 386) (v := (5 : Int32)) X98 hx (hb hby at_385) rfl rfl ?_
        refine go_icmp_lt (q := 389) (q' := 403) X98 hx (hb hby at_386) rfl (by decide) rfl (fun hc386 => ?_) (fun hc386 => ?_)
        · exact absurd hc386 (by decide)
        · refine go_lload (q := 391) X98 hx (hb hby at_389) rfl rfl ?_
          refine go_aload (q := 393) X98 hx (hb hby at_391) rfl rfl rfl ?_
          refine go_aload (q := 395) X98 hx (hb hby at_393) rfl rfl rfl ?_
          refine go_iconst (q := 396) (v := (3 : Int32)) X98 hx (hb hby at_395) rfl rfl ?_
          refine go_iconst (q := 397) (v := (4 : Int32)) X98 hx (hb hby at_396) rfl rfl ?_
          refine go_callS (q := 400) (W := 2) X98 hx hZ hown e98 (hw _ (List.mem_of_getElem? (i := 12) rfl)) (hw _ (List.mem_of_getElem? (i := 13) rfl)) (hw _ (List.mem_of_getElem? (i := 3) rfl)) (hw _ (List.mem_of_getElem? (i := 14) rfl)) (by decide) [(.ref bx), (.ref bw), (.int (3 : Int32)), (.int (4 : Int32))] [(.long s3)] (rm3_34 l Z a0 hw [] bx bw k_bx k_bw _ _ x0 y0 x1 y1 x2 y2 x3 y3 x4 y4 x5 y5 h52 V_bx V_bw) (by rw [hml]; rfl) rfl (lenOf pd_2 rfl) (Nat.le_of_eq rfl) (by decide) (by decide) (hb hby at_397) rfl (by decide) (by decide) ?_
          rintro T99 L99 v99 X99 ⟨Np99, rfl, e99⟩
          have N99 := Fr.app N98 (Np99 _)
          show Go p e below s (fun v h L => v = some (.int (1 : Int32)) ∧ Fr h0.size L) room_1.cells room_1.slots T99 (mkF m 400 #[.val (.long p_), .second, .val (.long q_), .second, .val (.long r_), .second, .val (.int k_), .val (.int (6 : Int32)), .val (.int t_), .val (.int sk), .val (.double sc), .second, .val (.ref bx), .val (.ref bw), .val (.ref bu), .val (.ref bv), .val (.double got), .second, .val (.long s3), .second, .unset, .unset] [(.long (x3.toInt64 * y4.toInt64 - x4.toInt64 * y3.toInt64)), (.long s3)])
          suffices Hc4 : ∀ c4 : Int64, c4 = (x3.toInt64 * y4.toInt64 - x4.toInt64 * y3.toInt64) → Go p e below s (fun v h L => v = some (.int (1 : Int32)) ∧ Fr h0.size L) room_1.cells room_1.slots T99 (mkF m 400 #[.val (.long p_), .second, .val (.long q_), .second, .val (.long r_), .second, .val (.int k_), .val (.int (6 : Int32)), .val (.int t_), .val (.int sk), .val (.double sc), .second, .val (.ref bx), .val (.ref bw), .val (.ref bu), .val (.ref bv), .val (.double got), .second, .val (.long s3), .second, .unset, .unset] [(.long c4), (.long s3)]) from Hc4 _ rfl
          intro c4 ec4
          have hc4 := own_cr hx3 hy4 hx4 hy3
          rw [← ec4] at hc4
          refine go_ladd (q := 401) (v := (s3 + c4)) X99 hx (hb hby at_400) rfl rfl ?_
          refine go_lstore (q := 403) (l' := #[.val (.long p_), .second, .val (.long q_), .second, .val (.long r_), .second, .val (.int k_), .val (.int (6 : Int32)), .val (.int t_), .val (.int sk), .val (.double sc), .second, .val (.ref bx), .val (.ref bw), .val (.ref bu), .val (.ref bv), .val (.double got), .second, .val (.long (s3 + c4)), .second, .unset, .unset]) X99 hx (hb hby at_401) rfl rfl ?_
          suffices Hs4 : ∀ s4 : Int64, s4 = (s3 + c4) → Go p e below s (fun v h L => v = some (.int (1 : Int32)) ∧ Fr h0.size L) room_1.cells room_1.slots T99 (mkF m 403 #[.val (.long p_), .second, .val (.long q_), .second, .val (.long r_), .second, .val (.int k_), .val (.int (6 : Int32)), .val (.int t_), .val (.int sk), .val (.double sc), .second, .val (.ref bx), .val (.ref bw), .val (.ref bu), .val (.ref bv), .val (.double got), .second, .val (.long s4), .second, .unset, .unset] []) from Hs4 _ rfl
          intro s4 es4
          have hs4 := own_add hs3 hc4 (by decide)
          rw [← es4] at hs4
          refine go_iload (q := 405) X99 hx (hb hby at_403) rfl rfl ?_
          refine go_bipush (q := 407) (v := (6 : Int32)) X99 hx (hb hby at_405) rfl rfl ?_
          refine go_icmp_lt (q := 410) (q' := 424) X99 hx (hb hby at_407) rfl (by decide) rfl (fun hc407 => ?_) (fun hc407 => ?_)
          · exact absurd hc407 (by decide)
          · refine go_lload (q := 412) X99 hx (hb hby at_410) rfl rfl ?_
            refine go_aload (q := 414) X99 hx (hb hby at_412) rfl rfl rfl ?_
            refine go_aload (q := 416) X99 hx (hb hby at_414) rfl rfl rfl ?_
            refine go_iconst (q := 417) (v := (4 : Int32)) X99 hx (hb hby at_416) rfl rfl ?_
            refine go_iconst (q := 418) (v := (5 : Int32)) X99 hx (hb hby at_417) rfl rfl ?_
            refine go_callS (q := 421) (W := 2) X99 hx hZ hown e99 (hw _ (List.mem_of_getElem? (i := 12) rfl)) (hw _ (List.mem_of_getElem? (i := 13) rfl)) (hw _ (List.mem_of_getElem? (i := 3) rfl)) (hw _ (List.mem_of_getElem? (i := 14) rfl)) (by decide) [(.ref bx), (.ref bw), (.int (4 : Int32)), (.int (5 : Int32))] [(.long s4)] (rm3_45 l Z a0 hw [] bx bw k_bx k_bw _ _ x0 y0 x1 y1 x2 y2 x3 y3 x4 y4 x5 y5 h52 V_bx V_bw) (by rw [hml]; rfl) rfl (lenOf pd_2 rfl) (Nat.le_of_eq rfl) (by decide) (by decide) (hb hby at_418) rfl (by decide) (by decide) ?_
            rintro T100 L100 v100 X100 ⟨Np100, rfl, e100⟩
            have N100 := Fr.app N99 (Np100 _)
            show Go p e below s (fun v h L => v = some (.int (1 : Int32)) ∧ Fr h0.size L) room_1.cells room_1.slots T100 (mkF m 421 #[.val (.long p_), .second, .val (.long q_), .second, .val (.long r_), .second, .val (.int k_), .val (.int (6 : Int32)), .val (.int t_), .val (.int sk), .val (.double sc), .second, .val (.ref bx), .val (.ref bw), .val (.ref bu), .val (.ref bv), .val (.double got), .second, .val (.long s4), .second, .unset, .unset] [(.long (x4.toInt64 * y5.toInt64 - x5.toInt64 * y4.toInt64)), (.long s4)])
            suffices Hc5 : ∀ c5 : Int64, c5 = (x4.toInt64 * y5.toInt64 - x5.toInt64 * y4.toInt64) → Go p e below s (fun v h L => v = some (.int (1 : Int32)) ∧ Fr h0.size L) room_1.cells room_1.slots T100 (mkF m 421 #[.val (.long p_), .second, .val (.long q_), .second, .val (.long r_), .second, .val (.int k_), .val (.int (6 : Int32)), .val (.int t_), .val (.int sk), .val (.double sc), .second, .val (.ref bx), .val (.ref bw), .val (.ref bu), .val (.ref bv), .val (.double got), .second, .val (.long s4), .second, .unset, .unset] [(.long c5), (.long s4)]) from Hc5 _ rfl
            intro c5 ec5
            have hc5 := own_cr hx4 hy5 hx5 hy4
            rw [← ec5] at hc5
            refine go_ladd (q := 422) (v := (s4 + c5)) X100 hx (hb hby at_421) rfl rfl ?_
            refine go_lstore (q := 424) (l' := #[.val (.long p_), .second, .val (.long q_), .second, .val (.long r_), .second, .val (.int k_), .val (.int (6 : Int32)), .val (.int t_), .val (.int sk), .val (.double sc), .second, .val (.ref bx), .val (.ref bw), .val (.ref bu), .val (.ref bv), .val (.double got), .second, .val (.long (s4 + c5)), .second, .unset, .unset]) X100 hx (hb hby at_422) rfl rfl ?_
            suffices Hs5 : ∀ s5 : Int64, s5 = (s4 + c5) → Go p e below s (fun v h L => v = some (.int (1 : Int32)) ∧ Fr h0.size L) room_1.cells room_1.slots T100 (mkF m 424 #[.val (.long p_), .second, .val (.long q_), .second, .val (.long r_), .second, .val (.int k_), .val (.int (6 : Int32)), .val (.int t_), .val (.int sk), .val (.double sc), .second, .val (.ref bx), .val (.ref bw), .val (.ref bu), .val (.ref bv), .val (.double got), .second, .val (.long s5), .second, .unset, .unset] []) from Hs5 _ rfl
            intro s5 es5
            have hs5 := own_add hs4 hc5 (by decide)
            rw [← es5] at hs5
            refine go_lload (q := 426) X100 hx (hb hby at_424) rfl rfl ?_
            refine go_aload (q := 428) X100 hx (hb hby at_426) rfl rfl rfl ?_
            refine go_aload (q := 430) X100 hx (hb hby at_428) rfl rfl rfl ?_
            refine go_iload (q := 432) X100 hx (hb hby at_430) rfl rfl ?_
            refine go_iconst (q := 433) (v := (1 : Int32)) X100 hx (hb hby at_432) rfl rfl ?_
            refine go_isub (q := 434) (v := (5 : Int32)) X100 hx (hb hby at_433) rfl rfl ?_
            refine go_iconst (q := 435) (v := (0 : Int32)) X100 hx (hb hby at_434) rfl rfl ?_
            refine go_callS (q := 438) (W := 2) X100 hx hZ hown e100 (hw _ (List.mem_of_getElem? (i := 12) rfl)) (hw _ (List.mem_of_getElem? (i := 13) rfl)) (hw _ (List.mem_of_getElem? (i := 3) rfl)) (hw _ (List.mem_of_getElem? (i := 14) rfl)) (by decide) [(.ref bx), (.ref bw), (.int (5 : Int32)), (.int (0 : Int32))] [(.long s5)] (rm3_50 l Z a0 hw [] bx bw k_bx k_bw _ _ x0 y0 x1 y1 x2 y2 x3 y3 x4 y4 x5 y5 h52 V_bx V_bw) (by rw [hml]; rfl) rfl (lenOf pd_2 rfl) (Nat.le_of_eq rfl) (by decide) (by decide) (hb hby at_435) rfl (by decide) (by decide) ?_
            rintro T101 L101 v101 X101 ⟨Np101, rfl, e101⟩
            have N101 := Fr.app N100 (Np101 _)
            show Go p e below s (fun v h L => v = some (.int (1 : Int32)) ∧ Fr h0.size L) room_1.cells room_1.slots T101 (mkF m 438 #[.val (.long p_), .second, .val (.long q_), .second, .val (.long r_), .second, .val (.int k_), .val (.int (6 : Int32)), .val (.int t_), .val (.int sk), .val (.double sc), .second, .val (.ref bx), .val (.ref bw), .val (.ref bu), .val (.ref bv), .val (.double got), .second, .val (.long s5), .second, .unset, .unset] [(.long (x5.toInt64 * y0.toInt64 - x0.toInt64 * y5.toInt64)), (.long s5)])
            suffices Hcz : ∀ cz : Int64, cz = (x5.toInt64 * y0.toInt64 - x0.toInt64 * y5.toInt64) → Go p e below s (fun v h L => v = some (.int (1 : Int32)) ∧ Fr h0.size L) room_1.cells room_1.slots T101 (mkF m 438 #[.val (.long p_), .second, .val (.long q_), .second, .val (.long r_), .second, .val (.int k_), .val (.int (6 : Int32)), .val (.int t_), .val (.int sk), .val (.double sc), .second, .val (.ref bx), .val (.ref bw), .val (.ref bu), .val (.ref bv), .val (.double got), .second, .val (.long s5), .second, .unset, .unset] [(.long cz), (.long s5)]) from Hcz _ rfl
            intro cz ecz
            have hcz := own_cr hx5 hy0 hx0 hy5
            rw [← ecz] at hcz
            refine go_ladd (q := 439) (v := (s5 + cz)) X101 hx (hb hby at_438) rfl rfl ?_
            refine go_lstore (q := 441) (l' := #[.val (.long p_), .second, .val (.long q_), .second, .val (.long r_), .second, .val (.int k_), .val (.int (6 : Int32)), .val (.int t_), .val (.int sk), .val (.double sc), .second, .val (.ref bx), .val (.ref bw), .val (.ref bu), .val (.ref bv), .val (.double got), .second, .val (.long (s5 + cz)), .second, .unset, .unset]) X101 hx (hb hby at_439) rfl rfl ?_
            suffices Hsz : ∀ sz : Int64, sz = (s5 + cz) → Go p e below s (fun v h L => v = some (.int (1 : Int32)) ∧ Fr h0.size L) room_1.cells room_1.slots T101 (mkF m 441 #[.val (.long p_), .second, .val (.long q_), .second, .val (.long r_), .second, .val (.int k_), .val (.int (6 : Int32)), .val (.int t_), .val (.int sk), .val (.double sc), .second, .val (.ref bx), .val (.ref bw), .val (.ref bu), .val (.ref bv), .val (.double got), .second, .val (.long sz), .second, .unset, .unset] []) from Hsz _ rfl
            intro sz esz
            have hsz_ := own_add hs5 hcz (by decide)
            rw [← esz] at hsz_
            refine go_lload (q := 443) X101 hx (hb hby at_441) rfl rfl ?_
            refine go_l2dB (q := 444) X101 hx (hb hby at_443) rfl (db_l2d (A := 12884901888) (by rw [hsz_.1]; exact hsz_.2) (by decide)) (fun z102 hz102 => ?_)
            refine go_dload (q := 446) X101 hx (hb hby at_444) rfl rfl ?_
            refine go_dmulB (q := 447) (kk := E) (C := 12884901888) X101 hx (hb hby at_446) rfl hz102 hsc (by decide) (by omega) (by omega) (by omega) rfl (fun z103 hz103 => ?_)
            refine go_dload (q := 449) X101 hx (hb hby at_447) rfl rfl ?_
            refine go_dmulB (q := 450) (kk := (E + E)) (C := 12884901888) X101 hx (hb hby at_449) rfl hz103 hsc (by decide) (by omega) (by omega) (by omega) rfl (fun z104 hz104 => ?_)
            refine go_ldc2D (q := 453) (v := (4611686018427387904 : UInt64)) X101 hx hZ hown (hw _ (List.mem_of_getElem? (i := 11) rfl)) (hb hby at_450) rfl ?_
            refine go_ddivB (q := 454) (kk := (E + E - 1)) (w0 := ((sz.toInt * 1) * 1)) X101 hx (hb hby at_453) rfl hz104 own_two (by decide) (by omega) (by decide) (by omega) (by omega) (by omega) (fun z105 hz105 => ?_)
            refine go_dstore (q := 456) (l' := #[.val (.long p_), .second, .val (.long q_), .second, .val (.long r_), .second, .val (.int k_), .val (.int (6 : Int32)), .val (.int t_), .val (.int sk), .val (.double sc), .second, .val (.ref bx), .val (.ref bw), .val (.ref bu), .val (.ref bv), .val (.double got), .second, .val (.long sz), .second, .val (.double z105), .second]) X101 hx (hb hby at_454) rfl rfl ?_
            refine go_dload (q := 458) X101 hx (hb hby at_456) rfl rfl ?_
            refine go_dload (q := 460) X101 hx (hb hby at_458) rfl rfl ?_
            refine go_dcmp (q := 461) X101 hx (hb hby at_460) rfl rfl ?_
            refine go_dif_ne (q := 464) (q' := 468) X101 hx (hb hby at_461) rfl (by decide) rfl hgot hz105 (fun hc461 => ?_) (fun hc461 => ?_)
            · exact absurd (by rw [hsz_.1]; grind) hc461
            · refine go_iconst (q := 465) (v := (1 : Int32)) X101 hx (hb hby at_464) rfl rfl ?_
              refine go_goto (q := 469) X101 hx (hb hby at_465) (by decide) rfl ?_
              exact go_retN X101 hx (by simp) hret hlk (hb hby at_469) (by decide) (by decide) ⟨rfl, N101⟩
set_option maxRecDepth 65536 in
set_option maxHeartbeats 40000000 in
theorem comes_1 {Post : Tables → Env → Array Value → State → Outcome → State → Prop} (hpost : ∀ tb e args s v u, (limb_1_1.after args s (.returned v) u = true ∧ limb_1_2.after args s (.returned v) u = true ∧ True) → FrameEnd s (.returned v) u (Jvm.fieldLocs frame_1_writes args s ++ Jvm.arrayLocs frame_1_arrays args s ++ Jvm.staticLocs frame_1_statics s) 16 128 → Post tb e args s (.returned v) u) :
    ArmFor flags0 classFile x code maxLocals ret World_1 tables_1 room_1 Calls_1 rest_1 Pre_1 Post := by
  intro l hfl _ _ p e ha hc hk s m args below hf hA hF happ hP
  obtain ⟨hcalls, hrest, hpre⟩ := hP
  obtain ⟨-, -, -, hnamed, -, -, -, hat⟩ := (Spec.applies_iff hf).mp happ
  obtain ⟨hg, hn⟩ := and_e (Cond.before_iff.mp (show (Jvm.Cond.and given_1 narrow_1).before args s = true from hpre))
  obtain ⟨hcnt, hg0⟩ := and_e hg
  obtain ⟨ha0, hg1⟩ := and_e hg0
  obtain ⟨ha1, hg2⟩ := and_e hg1
  obtain ⟨ha2, hg3⟩ := and_e hg2
  have ha3 := hg3
  obtain ⟨w0, w1, w2, w3, rfl⟩ : ∃ w0 w1 w2 w3 : Value, args = #[w0, w1, w2, w3] := by
    have hs : args.size = 4 := by simpa [Cond.value, given_1] using hcnt
    obtain ⟨L⟩ := args
    match L, hs with
    | [w0, w1, w2, w3], _ => exact ⟨w0, w1, w2, w3, rfl⟩
  have hw := fun d (hd : d ∈ tables_1) => atoms_spec (ws := Jvm.Cond.code x code maxLocals ret :: tables_1) hat d (List.mem_cons_of_mem _ hd)
  obtain ⟨i0, ei0⟩ := isL_v ha0
  obtain rfl : w0 = (.long i0) := Option.some.inj ei0
  obtain ⟨i1, ei1⟩ := isL_v ha1
  obtain rfl : w1 = (.long i1) := Option.some.inj ei1
  obtain ⟨i2, ei2⟩ := isL_v ha2
  obtain rfl : w2 = (.long i2) := Option.some.inj ei2
  obtain ⟨i3, ei3⟩ := is_v ha3
  obtain rfl : w3 = (.int i3) := Option.some.inj ei3
  obtain ⟨n, o, h1, h2, h3, _, L, rfl, ⟨rfl, N⟩, hq⟩ := rm0 l s _ hw tables_1 i0 i1 i2 i3  s.heap  p e ha hc hk s m _ below hf ((Spec.applies_iff_loose hf).mp happ).1 ⟨rfl, State.Warmed39.refl s, rfl⟩ trivial
  refine ⟨n, _, h1, h2, h3, hpost _ _ _ _ _ _ ⟨Cond.after_iff.mpr rfl, Cond.after_iff.mpr (eq_i res_at (Term.int_eval (1)) rfl), trivial⟩ ⟨hq.1, hq.2.1, (hq.2.2.sift fun y hy => Or.inr (N y hy)).mono (by decide) (by decide)⟩⟩
theorem main_1_1 : Claimed_1_1 := comes_1 fun _ _ _ _ _ _ h hF => ⟨h.1, hF⟩
theorem main_1_2 : Claimed_1_2 := comes_1 fun _ _ _ _ _ _ h hF => ⟨h.2.1, hF⟩

end Jvm.Pilot.@@N@@
namespace Jvm.Pilot.@@N@@
open Jvm Jvm.ClassFile Sem Op Lib Jvm.Free Jvm.Stand Jvm.Pilot.@@N@@.Jvm.D
/-! MADE BY PROGRAM (witnessworld.py) out of the Statement's table words and the real class files: 11 classes; the members and pool entries that the words name. The judged class is class 1, her method 1. -/
namespace start1
open Jvm.ClassFile
def u (s : String) : CpInfo := .utf8 (stringToUtf16 s)
/-- a pool by its gaps: so many unusable entries, then the entry; so many at the end -/
def gap : Nat → List CpInfo → List CpInfo
  | 0, r => r
  | n + 1, r => .unusable :: gap n r
def poolList (es : List (Nat × CpInfo)) (last : Nat) : List CpInfo := es.foldr (fun e r => gap e.1 (e.2 :: r)) (gap last [])
def pool (es : List (Nat × CpInfo)) (last : Nat) : Array CpInfo := ⟨poolList es last⟩
def fileOf (pool : Array CpInfo) (this : Nat) (attrs : Array Attribute := #[]) (ms : Array MethodInfo := #[]) (fl : Nat := 33) (sup : Nat := 0) (ifs : Array Nat := #[]) (fds : Array FieldInfo := #[]) : ClassFile where
  minorVersion := 0
  majorVersion := 65
  constantPool := pool
  accessFlags := fl
  thisClass := this
  superClass := sup
  interfaces := ifs
  fields := fds
  methods := ms
  attributes := attrs
def plain (name : String) (sup : Option ClassId) : Class where
  name := name
  kind := .ordinary
  loader := none
  accessFlags := 33
  super := sup
  interfaces := #[]
  cf := none
  fields := #[]
  methods := #[]
  instanceTypes := #[]
  staticTypes := #[]
  resolved := #[]
  callSites := []
  init := .initialized
  statics := none
  mirror := none

def pool0 : Array CpInfo := pool [(5, u "<init>"), (0, u "()V"), (1, .class_ 10), (1, u "java/lang/Object")] 113

def k0m0 : Method := { name := "<init>", desc := "()V", sig := { parameters := [], returnType := none }, accessFlags := 1, code := none }
/-- java/lang/Object -/
def k0 : Class := { plain "java/lang/Object" none with
  accessFlags := 33
  interfaces := #[]
  cf := some (fileOf pool0 8 #[] #[{ accessFlags := 1, nameIndex := 5, descriptorIndex := 6, attributes := #[] }] 33 0 #[] #[])
  fields := #[]
  methods := #[k0m0]
  instanceTypes := #[]
  staticTypes := #[]
  resolved := Array.replicate 124 none
  statics := none }

def pool1 : Array CpInfo := pool [(2, .class_ 4), (1, u "java/lang/Object"), (0, u "<init>"), (0, u "()V"), (0, .methodref 8 9), (0, .class_ 10), (0, .nameAndType 11 12), (0, u "com/example/orbweave/orbweave/plane/ConvexShoelacePinLaw"), (0, u "part"), (0, u "(JI)I"), (0, .methodref 14 15), (0, .class_ 16), (0, .nameAndType 17 18), (0, u "com/example/orbweave/orbweave/plane/Convex"), (0, u "shoelace"), (0, u "([D[DI)D"), (0, .methodref 8 20), (0, .nameAndType 21 22), (0, u "cross"), (0, u "([I[III)J"), (0, .double 4611686018427387904), (3, u "law"), (0, u "(JJJI)Z")] 7

def k1m0 : Method := { name := "<init>", desc := "()V", sig := { parameters := [], returnType := none }, accessFlags := 1, code := none }
def k1c1 : Code := { maxStack := 6, maxLocals := 22, code := code, exceptionTable := #[], attributes := #[] }
def k1m1 : Method := { name := "law", desc := "(JJJI)Z", sig := { parameters := [.long, .long, .long, .int], returnType := some .boolean }, accessFlags := 9, code := some k1c1 }
def k1c2 : Code := { maxStack := 4, maxLocals := 3, code := method_3_code, exceptionTable := #[], attributes := #[] }
def k1m2 : Method := { name := "part", desc := "(JI)I", sig := { parameters := [.long, .int], returnType := some .int }, accessFlags := 10, code := some k1c2 }
def k1c3 : Code := { maxStack := 6, maxLocals := 4, code := method_4_code, exceptionTable := #[], attributes := #[] }
def k1m3 : Method := { name := "cross", desc := "([I[III)J", sig := { parameters := [(.array .int), (.array .int), .int, .int], returnType := some .long }, accessFlags := 10, code := some k1c3 }
/-- com/example/orbweave/orbweave/plane/ConvexShoelacePinLaw -/
def k1 : Class := { plain "com/example/orbweave/orbweave/plane/ConvexShoelacePinLaw" (some 0) with
  accessFlags := 49
  interfaces := #[]
  cf := some (fileOf pool1 8 #[] #[{ accessFlags := 1, nameIndex := 5, descriptorIndex := 6, attributes := #[] }, { accessFlags := 9, nameIndex := 27, descriptorIndex := 28, attributes := #[] }, { accessFlags := 10, nameIndex := 11, descriptorIndex := 12, attributes := #[] }, { accessFlags := 10, nameIndex := 21, descriptorIndex := 22, attributes := #[] }] 49 2 #[] #[])
  fields := #[]
  methods := #[k1m0, k1m1, k1m2, k1m3]
  instanceTypes := #[]
  staticTypes := #[]
  resolved := Array.replicate 36 none
  statics := none }

def pool2 : Array CpInfo := pool [(2, .class_ 4), (1, u "java/lang/Object"), (3, .class_ 10), (1, u "com/example/orbweave/orbweave/plane/Convex"), (0, u "xs"), (0, u "[D"), (2, u "ys"), (2, u "lengths"), (26, u "minX"), (0, u "D"), (5, u "maxX"), (2, u "minY"), (2, u "maxY"), (71, u "shoelace"), (0, u "([D[DI)D"), (2, .double 4611686018427387904)] 47

def k2c0 : Code := { maxStack := 10, maxLocals := 6, code := prog_12_method_11_code, exceptionTable := #[], attributes := #[] }
def k2m0 : Method := { name := "shoelace", desc := "([D[DI)D", sig := { parameters := [(.array .double), (.array .double), .int], returnType := some .double }, accessFlags := 8, code := some k2c0 }
/-- com/example/orbweave/orbweave/plane/Convex -/
def k2 : Class := { plain "com/example/orbweave/orbweave/plane/Convex" (some 0) with
  accessFlags := 48
  interfaces := #[]
  cf := some (fileOf pool2 8 #[] #[{ accessFlags := 8, nameIndex := 130, descriptorIndex := 131, attributes := #[] }] 48 2 #[] #[{ accessFlags := 16, nameIndex := 11, descriptorIndex := 12, attributes := #[] }, { accessFlags := 16, nameIndex := 15, descriptorIndex := 12, attributes := #[] }, { accessFlags := 16, nameIndex := 45, descriptorIndex := 46, attributes := #[] }, { accessFlags := 16, nameIndex := 55, descriptorIndex := 46, attributes := #[] }, { accessFlags := 16, nameIndex := 52, descriptorIndex := 46, attributes := #[] }, { accessFlags := 16, nameIndex := 58, descriptorIndex := 46, attributes := #[] }, { accessFlags := 18, nameIndex := 18, descriptorIndex := 12, attributes := #[] }])
  fields := #[{ name := "xs", type := (.array .double), accessFlags := 16, slot := 0, constantValue := 0 }, { name := "ys", type := (.array .double), accessFlags := 16, slot := 1, constantValue := 0 }, { name := "minX", type := .double, accessFlags := 16, slot := 2, constantValue := 0 }, { name := "minY", type := .double, accessFlags := 16, slot := 3, constantValue := 0 }, { name := "maxX", type := .double, accessFlags := 16, slot := 4, constantValue := 0 }, { name := "maxY", type := .double, accessFlags := 16, slot := 5, constantValue := 0 }, { name := "lengths", type := (.array .double), accessFlags := 18, slot := 6, constantValue := 0 }]
  methods := #[k2m0]
  instanceTypes := #[(.array .double), (.array .double), .double, .double, .double, .double, (.array .double)]
  staticTypes := #[]
  resolved := Array.replicate 182 none
  statics := none }

def pool3 : Array CpInfo := pool [(1, u "java/lang/Cloneable"), (0, .class_ 1), (0, u "java/lang/Object"), (0, .class_ 3)] 3

/-- java/lang/Cloneable -/
def k3 : Class := { plain "java/lang/Cloneable" (some 0) with
  accessFlags := 1537
  interfaces := #[]
  cf := some (fileOf pool3 2 #[] #[] 1537 4 #[] #[])
  fields := #[]
  methods := #[]
  instanceTypes := #[]
  staticTypes := #[]
  resolved := Array.replicate 8 none
  statics := none }

def pool4 : Array CpInfo := pool [(1, u "java/io/Serializable"), (0, .class_ 1), (0, u "java/lang/Object"), (0, .class_ 3)] 3

/-- java/io/Serializable -/
def k4 : Class := { plain "java/io/Serializable" (some 0) with
  accessFlags := 1537
  interfaces := #[]
  cf := some (fileOf pool4 2 #[] #[] 1537 4 #[] #[])
  fields := #[]
  methods := #[]
  instanceTypes := #[]
  staticTypes := #[]
  resolved := Array.replicate 8 none
  statics := none }

/-- the primitive byte -/
def k5 : Class := { plain "byte" none with kind := .primitive 'B', accessFlags := 0x411 }
/-- [B -/
def k6 : Class := { plain "[B" (some 0) with kind := .array 5 .byte, interfaces := #[3, 4], accessFlags := 1041 }

/-- the primitive double -/
def k7 : Class := { plain "double" none with kind := .primitive 'D', accessFlags := 0x411 }
/-- [D -/
def k8 : Class := { plain "[D" (some 0) with kind := .array 7 .double, interfaces := #[3, 4], accessFlags := 1041 }

/-- the primitive int -/
def k9 : Class := { plain "int" none with kind := .primitive 'I', accessFlags := 0x411 }
/-- [I -/
def k10 : Class := { plain "[I" (some 0) with kind := .array 9 .int, interfaces := #[3, 4], accessFlags := 1041 }

def heap : Heap := #[]
def classes : Array Class := #[k0, k1, k2, k3, k4, k5, k6, k7, k8, k9, k10]
def interned : List (Array UInt16 × Addr) := []
def slotsUsed : Nat := 0
def theMethod : MethodId := ⟨1, 1⟩
def args0 : Array Value := #[.long 5, .long 7, .long 9, .int 3]
def aboutOver (below : List Frame) : State where
  vm := { classes := classes, interned := interned.toArray }
  heap := heap
  slotsUsed := slotsUsed
  threads := #[{ frames := .invoking theMethod args0 :: below }]
def below0 : List Frame := [.native { method := ⟨0, 0⟩, args := #[] }]
def about1 : State := aboutOver below0
def p0 : Program := .bare "" "" ""
def e0 : Env := launch0.env 0 0 0
theorem w_frames : about1.frames = Frame.invoking theMethod args0 :: below0 := rfl
set_option maxRecDepth 65536 in
theorem w_args : argsFit about1.vm theMethod args0 = true := by decide +kernel
set_option maxRecDepth 65536 in
theorem w_heap : heapFits about1 = true := by decide +kernel
set_option maxRecDepth 65536 in
theorem w_runnable : about1.curStatus? = some .runnable := by decide +kernel
set_option maxRecDepth 65536 in
theorem w_alone : about1.alone = true := by decide +kernel
set_option maxRecDepth 65536 in
theorem w_named : about1.methodNamed? x = some theMethod := by decide +kernel
set_option maxRecDepth 65536 in
theorem w_hears : about1.hears theMethod below0 = true := by decide +kernel
set_option maxRecDepth 65536 in
theorem w_ripe : about1.ripe theMethod args0 below0 = true := by decide +kernel
theorem w_running : about1.status = .running := rfl
set_option maxRecDepth 65536 in
theorem w_room : about1.hasRoom e0.platform room_1 = true :=
  launch0.hasRoom_least _ room_1 (by decide +kernel) (by decide +kernel) (by decide +kernel) (by decide +kernel) (by decide +kernel) (by decide +kernel)
theorem allAtoms_all (ts : List Jvm.Cond) (a : Array Jvm.Value) (st : Jvm.State) : (allAtoms ts).before a st = ts.all (fun c => c.before a st) := by
  induction ts with
  | nil => rfl
  | cons c t ih =>
    show (Jvm.Cond.and c (allAtoms t)).before a st = _
    rw [Jvm.Cond.before_and, ih, List.all_cons]
def words1 : List Jvm.Cond := Jvm.Cond.code x code maxLocals ret :: tables_1
/-- a 'code' word, met by the world's own term for the bytes: nothing is compared byte by byte -/
theorem code_word {y : MethodName} {bytes : ByteArray} {mx : Nat} {rt : Option FieldType} {a : Array Value} {s : State} {m : MethodId} {meth : Method} {c : Code} (h1 : s.methodNamed? y = some m) (h2 : s.vm.method? m = some meth) (h3 : meth.code = some c) (h4 : c.code = bytes)
    (h5 : (c.maxLocals == mx && c.exceptionTable.isEmpty && decide (c.maxStack ≤ mostOperands) && decide (meth.sig.returnType = rt) && !meth.locks && decide (parseMethodDescriptor y.desc = some meth.sig)) = true) : (Jvm.Cond.code y bytes mx rt).before a s = true := by
  simp only [Bool.and_eq_true, beq_iff_eq, Bool.not_eq_true', decide_eq_true_eq] at h5
  obtain ⟨⟨⟨⟨⟨g1, g2⟩, g3⟩, g4⟩, g5⟩, g6⟩ := h5
  simp [Cond.before, Cond.holds, Cond.value, h1, h2, h3, h4, g1, g2, g3, g4, g5, g6]
def isCode : Jvm.Cond → Bool
  | .code _ _ _ _ => true
  | _ => false
theorem all_split {L : List Jvm.Cond} {P : Jvm.Cond → Bool} (h1 : L.all (fun c => isCode c || P c) = true) (h2 : ∀ c ∈ L.filter isCode, P c = true) : L.all P = true := by
  refine List.all_eq_true.mpr fun c hc => ?_
  have h := List.all_eq_true.mp h1 c hc
  rcases Bool.eq_false_or_eq_true (isCode c) with hi | hi
  · exact h2 c (List.mem_filter.mpr ⟨hc, hi⟩)
  · simpa [hi] using h
set_option maxRecDepth 65536 in
theorem w_c0 : (Jvm.Cond.code x code maxLocals ret).before args0 about1 = true := code_word (m := ⟨1, 1⟩) (meth := k1m1) (c := k1c1) (by decide +kernel) rfl rfl rfl (by decide +kernel)
set_option maxRecDepth 65536 in
theorem w_c1 : (Jvm.Cond.code ({ cls := "com/example/orbweave/orbweave/plane/ConvexShoelacePinLaw", name := "part", desc := "(JI)I" } : Jvm.MethodName) method_3_code (3 : Nat) (Option.some Jvm.ClassFile.FieldType.int)).before args0 about1 = true := code_word (m := ⟨1, 2⟩) (meth := k1m2) (c := k1c2) (by decide +kernel) rfl rfl rfl (by decide +kernel)
set_option maxRecDepth 65536 in
theorem w_c2 : (Jvm.Cond.code ({ cls := "com/example/orbweave/orbweave/plane/Convex", name := "shoelace", desc := "([D[DI)D" } : Jvm.MethodName) prog_12_method_11_code (6 : Nat) (Option.some Jvm.ClassFile.FieldType.double)).before args0 about1 = true := code_word (m := ⟨2, 0⟩) (meth := k2m0) (c := k2c0) (by decide +kernel) rfl rfl rfl (by decide +kernel)
set_option maxRecDepth 65536 in
theorem w_c3 : (Jvm.Cond.code ({ cls := "com/example/orbweave/orbweave/plane/ConvexShoelacePinLaw", name := "cross", desc := "([I[III)J" } : Jvm.MethodName) method_4_code (4 : Nat) (Option.some Jvm.ClassFile.FieldType.long)).before args0 about1 = true := code_word (m := ⟨1, 3⟩) (meth := k1m3) (c := k1c3) (by decide +kernel) rfl rfl rfl (by decide +kernel)
def codes1 : List Jvm.Cond := [Jvm.Cond.code x code maxLocals ret, Jvm.Cond.code ({ cls := "com/example/orbweave/orbweave/plane/ConvexShoelacePinLaw", name := "part", desc := "(JI)I" } : Jvm.MethodName) method_3_code (3 : Nat) (Option.some Jvm.ClassFile.FieldType.int), Jvm.Cond.code ({ cls := "com/example/orbweave/orbweave/plane/Convex", name := "shoelace", desc := "([D[DI)D" } : Jvm.MethodName) prog_12_method_11_code (6 : Nat) (Option.some Jvm.ClassFile.FieldType.double), Jvm.Cond.code ({ cls := "com/example/orbweave/orbweave/plane/ConvexShoelacePinLaw", name := "cross", desc := "([I[III)J" } : Jvm.MethodName) method_4_code (4 : Nat) (Option.some Jvm.ClassFile.FieldType.long)]
set_option maxRecDepth 65536 in
theorem codes_eq : words1.filter isCode = codes1 := rfl
theorem w_codes : ∀ c ∈ words1.filter isCode, c.before args0 about1 = true := by
  rw [codes_eq]
  intro c hc
  simp only [codes1, List.mem_cons, List.not_mem_nil, or_false] at hc
  rcases hc with rfl | rfl | rfl | rfl
  · exact w_c0
  · exact w_c1
  · exact w_c2
  · exact w_c3
set_option maxRecDepth 65536 in
theorem w_t1 : words1.all (fun c => isCode c || c.before args0 about1) = true := by decide +kernel
theorem w_tables : (allAtoms (Jvm.Cond.code x code maxLocals ret :: tables_1)).before args0 about1 = true := by
  rw [allAtoms_all]
  show words1.all (fun c => c.before args0 about1) = true
  refine all_split ?_ w_codes
  rw [w_t1]
set_option maxRecDepth 65536 in
theorem w_case : (Jvm.Cond.and given_1 narrow_1).before args0 about1 = true := by decide +kernel
theorem w_applies : (headSpec (Jvm.Cond.code x code maxLocals ret :: tables_1) room_1).applies x e0.platform about1 = true :=
  (Spec.applies_iff w_frames).mpr ⟨w_running, w_runnable, w_alone, w_named, w_hears, w_ripe, w_room, w_tables⟩
theorem atStart : AtStart classFile x code maxLocals ret World_1 tables_1 room_1 Calls_1 rest_1 Pre_1 launch0 p0 e0 about1 theMethod args0 below0 :=
  ⟨lists_1, trivial, launch0.admits_env _ _ _, launch0.least_env, fairChoices_fair.cas, fairChoices_fair.clock, w_frames, w_args, w_heap, w_applies, trivial, trivial, w_case⟩
end start1
theorem witness_1 : WitnessClaimed_1 := ⟨start1.p0, start1.e0, start1.about1, start1.theMethod, start1.args0, start1.below0, start1.atStart⟩
end Jvm.Pilot.@@N@@
