import JvmDerived
import JvmDerived.Pilot.@@N@@Statement
import JvmDerived.Pilot.@@N@@Code
set_option linter.unusedVariables false
set_option linter.unusedSimpArgs false
namespace Jvm.Pilot.@@N@@
open Jvm Jvm.ClassFile Sem Op Lib Jvm.Free Jvm.Stand Jvm.LawKit Jvm.RoadKit Bundle Jvm.Pilot.@@N@@.Jvm.D

section OwnWalk
variable {p : Program} {l : Launch} {e : Env} {R : Room} {s : State} {m : MethodId} {args : Array Value} {below : List Frame} {meth : Method} {c : Code} {T : State} {locs : List Loc} {cells slots : Nat} {Z : State} {h : Heap} {Q : Option Value → Heap → List Loc → Prop} {ce sl : Nat} {pc q q' : Nat} {ls : Array Slot} {st : List Value} {a0 : Array Value}
/-- the rest of a body's run, from the frame g on -/
def Go (p : Program) (e : Env) (below : List Frame) (s : State) (Q : Option Value → Heap → List Loc → Prop) (ce sl : Nat) (T : State) (g : JFrame) : Prop :=
  ∃ s₂ o, Steps p.tables e below (T.setTop g) s₂ ∧ s₂.status = .running ∧ Ended s₂ below o ∧ ∃ v L, o = .returned v ∧ Q v s₂.heap L ∧ FrameEnd s o s₂ L ce sl
theorem Go.to {T' : State} {g g' : JFrame} (k : Go p e below s Q ce sl T' g') (f : ∀ t, Steps p.tables e below (T'.setTop g') t → Steps p.tables e below (T.setTop g) t) : Go p e below s Q ce sl T g := by
  obtain ⟨s2, o, h1, r⟩ := k
  exact ⟨s2, o, f _ h1, r⟩
theorem Go.cast {g g' : JFrame} (w : g = g') (k : Go p e below s Q ce sl T g') : Go p e below s Q ce sl T g := w ▸ k
/-- a body's contract: from these arguments, over this heap, it returns with Q -/
abbrev Con (l : Launch) (y : MethodName) (bytes : ByteArray) (maxL : Nat) (ret : Option FieldType) (ws : List Jvm.Cond) (rm : Room) (Z : State) (as' : Array Value) (h : Heap) (Q : Option Value → Heap → List Loc → Prop) : Prop :=
  MetFree l y (head1 (Jvm.Cond.code y bytes maxL ret :: ws) rm) (fun a U => a = as' ∧ Z.Warmed39 U.vm ∧ U.heap = h) (fun _ _ _ _ _ => True) (fun _ U o U' => ∃ v L, o = .returned v ∧ Q v U'.heap L ∧ FrameEnd U o U' L rm.cells rm.slots)
theorem con_of {y : MethodName} {bytes : ByteArray} {maxL : Nat} {ret : Option FieldType} {ws : List Jvm.Cond} {rm : Room} {as' : Array Value} (hpl : plainFor y = true)
    (body : ∀ (p : Program) (e : Env) (s : State) (m : MethodId) (below : List Frame) (meth : Method) (c : Code) (s₁ : State), Stand p l e rm s m as' below meth c s₁ [] 0 0 → p.tables.exec = Jvm.exec → c.code = bytes → c.maxLocals = maxL → meth.sig.returnType = ret → meth.locks = false → s.vm.findClass y.cls = some m.cls → meth.name = y.name → Z.Warmed39 s.vm → s₁.heap = h → Go p e below s Q rm.cells rm.slots s₁ (entryFrame m as' maxL)) :
    Con l y bytes maxL ret ws rm Z as' h Q := by
  refine MetFree.of_bodySF hpl hisR ?_
  intro p e s m args below meth c s₁ Bd hml0 hP hK
  obtain ⟨rfl, hZ, hh⟩ := hP
  exact body p e s m below meth c s₁ (Stand.of_body Bd) Bd.exec Bd.bytes hml0 Bd.returns Bd.notSynchronized (findClass_of_methodNamed Bd.named) (name_of_methodNamed Bd.named Bd.method).1 hZ (by rw [← hh, Bd.state]; rfl)
theorem go_iload (X : Stand p l e R s m args below meth c T locs cells slots) (hx : p.tables.exec = Jvm.exec) {k : Nat} {v : Int32} (hd : decode c.code pc = .ok (.iload k, 2)) (hp : pc + 2 = q) (hl : ls[k]? = some (.val (.int v))) (K : Go p e below s Q ce sl T (mkF m q ls (.int v :: st))) : Go p e below s Q ce sl T (mkF m pc ls st) := by
  subst hp
  exact K.to fun _ r => XS.iload X.here hx rfl hd hl r
theorem go_iloadN (X : Stand p l e R s m args below meth c T locs cells slots) (hx : p.tables.exec = Jvm.exec) {k : Fin 4} {v : Int32} (hd : decode c.code pc = .ok (.iload_n k, 1)) (hp : pc + 1 = q) (hl : ls[k.val]? = some (.val (.int v))) (K : Go p e below s Q ce sl T (mkF m q ls (.int v :: st))) : Go p e below s Q ce sl T (mkF m pc ls st) := by
  subst hp
  exact K.to fun _ r => XS.iloadN X.here hx rfl hd hl r
theorem go_istore (X : Stand p l e R s m args below meth c T locs cells slots) (hx : p.tables.exec = Jvm.exec) {k : Nat} {v : Int32} {l' : Array Slot} (hd : decode c.code pc = .ok (.istore k, 2)) (hp : pc + 2 = q) (hl : storeLocals ls k (.int v) = some l') (K : Go p e below s Q ce sl T (mkF m q l' st)) : Go p e below s Q ce sl T (mkF m pc ls (.int v :: st)) := by
  subst hp
  exact K.to fun _ r => XS.istore X.here hx rfl hd rfl hl r
theorem go_istoreN (X : Stand p l e R s m args below meth c T locs cells slots) (hx : p.tables.exec = Jvm.exec) {k : Fin 4} {v : Int32} {l' : Array Slot} (hd : decode c.code pc = .ok (.istore_n k, 1)) (hp : pc + 1 = q) (hl : storeLocals ls k.val (.int v) = some l') (K : Go p e below s Q ce sl T (mkF m q l' st)) : Go p e below s Q ce sl T (mkF m pc ls (.int v :: st)) := by
  subst hp
  exact K.to fun _ r => XS.istoreN X.here hx rfl hd rfl hl r
theorem go_lload (X : Stand p l e R s m args below meth c T locs cells slots) (hx : p.tables.exec = Jvm.exec) {k : Nat} {v : Int64} (hd : decode c.code pc = .ok (.lload k, 2)) (hp : pc + 2 = q) (hl : ls[k]? = some (.val (.long v))) (K : Go p e below s Q ce sl T (mkF m q ls (.long v :: st))) : Go p e below s Q ce sl T (mkF m pc ls st) := by
  subst hp
  exact K.to fun _ r => XS.lload X.here hx rfl hd hl r
theorem go_lloadN (X : Stand p l e R s m args below meth c T locs cells slots) (hx : p.tables.exec = Jvm.exec) {k : Fin 4} {v : Int64} (hd : decode c.code pc = .ok (.lload_n k, 1)) (hp : pc + 1 = q) (hl : ls[k.val]? = some (.val (.long v))) (K : Go p e below s Q ce sl T (mkF m q ls (.long v :: st))) : Go p e below s Q ce sl T (mkF m pc ls st) := by
  subst hp
  exact K.to fun _ r => XS.lloadN X.here hx rfl hd hl r
theorem go_lstore (X : Stand p l e R s m args below meth c T locs cells slots) (hx : p.tables.exec = Jvm.exec) {k : Nat} {v : Int64} {l' : Array Slot} (hd : decode c.code pc = .ok (.lstore k, 2)) (hp : pc + 2 = q) (hl : storeLocals ls k (.long v) = some l') (K : Go p e below s Q ce sl T (mkF m q l' st)) : Go p e below s Q ce sl T (mkF m pc ls (.long v :: st)) := by
  subst hp
  exact K.to fun _ r => XS.lstore X.here hx rfl hd rfl hl r
theorem go_lstoreN (X : Stand p l e R s m args below meth c T locs cells slots) (hx : p.tables.exec = Jvm.exec) {k : Fin 4} {v : Int64} {l' : Array Slot} (hd : decode c.code pc = .ok (.lstore_n k, 1)) (hp : pc + 1 = q) (hl : storeLocals ls k.val (.long v) = some l') (K : Go p e below s Q ce sl T (mkF m q l' st)) : Go p e below s Q ce sl T (mkF m pc ls (.long v :: st)) := by
  subst hp
  exact K.to fun _ r => XS.lstoreN X.here hx rfl hd rfl hl r
theorem go_dload (X : Stand p l e R s m args below meth c T locs cells slots) (hx : p.tables.exec = Jvm.exec) {k : Nat} {v : UInt64} (hd : decode c.code pc = .ok (.dload k, 2)) (hp : pc + 2 = q) (hl : ls[k]? = some (.val (.double v))) (K : Go p e below s Q ce sl T (mkF m q ls (.double v :: st))) : Go p e below s Q ce sl T (mkF m pc ls st) := by
  subst hp
  exact K.to fun _ r => XS.dload X.here hx rfl hd hl r
theorem go_dloadN (X : Stand p l e R s m args below meth c T locs cells slots) (hx : p.tables.exec = Jvm.exec) {k : Fin 4} {v : UInt64} (hd : decode c.code pc = .ok (.dload_n k, 1)) (hp : pc + 1 = q) (hl : ls[k.val]? = some (.val (.double v))) (K : Go p e below s Q ce sl T (mkF m q ls (.double v :: st))) : Go p e below s Q ce sl T (mkF m pc ls st) := by
  subst hp
  exact K.to fun _ r => XS.dloadN X.here hx rfl hd hl r
theorem go_dstore (X : Stand p l e R s m args below meth c T locs cells slots) (hx : p.tables.exec = Jvm.exec) {k : Nat} {v : UInt64} {l' : Array Slot} (hd : decode c.code pc = .ok (.dstore k, 2)) (hp : pc + 2 = q) (hl : storeLocals ls k (.double v) = some l') (K : Go p e below s Q ce sl T (mkF m q l' st)) : Go p e below s Q ce sl T (mkF m pc ls (.double v :: st)) := by
  subst hp
  exact K.to fun _ r => XS.dstore X.here hx rfl hd rfl hl r
theorem go_dstoreN (X : Stand p l e R s m args below meth c T locs cells slots) (hx : p.tables.exec = Jvm.exec) {k : Fin 4} {v : UInt64} {l' : Array Slot} (hd : decode c.code pc = .ok (.dstore_n k, 1)) (hp : pc + 1 = q) (hl : storeLocals ls k.val (.double v) = some l') (K : Go p e below s Q ce sl T (mkF m q l' st)) : Go p e below s Q ce sl T (mkF m pc ls (.double v :: st)) := by
  subst hp
  exact K.to fun _ r => XS.dstoreN X.here hx rfl hd rfl hl r
theorem go_fload (X : Stand p l e R s m args below meth c T locs cells slots) (hx : p.tables.exec = Jvm.exec) {k : Nat} {v : UInt32} (hd : decode c.code pc = .ok (.fload k, 2)) (hp : pc + 2 = q) (hl : ls[k]? = some (.val (.float v))) (K : Go p e below s Q ce sl T (mkF m q ls (.float v :: st))) : Go p e below s Q ce sl T (mkF m pc ls st) := by
  subst hp
  exact K.to fun _ r => XS.fload X.here hx rfl hd hl r
theorem go_floadN (X : Stand p l e R s m args below meth c T locs cells slots) (hx : p.tables.exec = Jvm.exec) {k : Fin 4} {v : UInt32} (hd : decode c.code pc = .ok (.fload_n k, 1)) (hp : pc + 1 = q) (hl : ls[k.val]? = some (.val (.float v))) (K : Go p e below s Q ce sl T (mkF m q ls (.float v :: st))) : Go p e below s Q ce sl T (mkF m pc ls st) := by
  subst hp
  exact K.to fun _ r => XS.floadN X.here hx rfl hd hl r
theorem go_fstore (X : Stand p l e R s m args below meth c T locs cells slots) (hx : p.tables.exec = Jvm.exec) {k : Nat} {v : UInt32} {l' : Array Slot} (hd : decode c.code pc = .ok (.fstore k, 2)) (hp : pc + 2 = q) (hl : storeLocals ls k (.float v) = some l') (K : Go p e below s Q ce sl T (mkF m q l' st)) : Go p e below s Q ce sl T (mkF m pc ls (.float v :: st)) := by
  subst hp
  exact K.to fun _ r => XS.fstore X.here hx rfl hd rfl hl r
theorem go_fstoreN (X : Stand p l e R s m args below meth c T locs cells slots) (hx : p.tables.exec = Jvm.exec) {k : Fin 4} {v : UInt32} {l' : Array Slot} (hd : decode c.code pc = .ok (.fstore_n k, 1)) (hp : pc + 1 = q) (hl : storeLocals ls k.val (.float v) = some l') (K : Go p e below s Q ce sl T (mkF m q l' st)) : Go p e below s Q ce sl T (mkF m pc ls (.float v :: st)) := by
  subst hp
  exact K.to fun _ r => XS.fstoreN X.here hx rfl hd rfl hl r
theorem go_aload (X : Stand p l e R s m args below meth c T locs cells slots) (hx : p.tables.exec = Jvm.exec) {k : Nat} {v : Value} (hd : decode c.code pc = .ok (.aload k, 2)) (hp : pc + 2 = q) (hl : ls[k]? = some (.val v)) (hv : v.isRef = true) (K : Go p e below s Q ce sl T (mkF m q ls (v :: st))) : Go p e below s Q ce sl T (mkF m pc ls st) := by
  subst hp
  exact K.to fun _ r => XS.aload X.here hx rfl hd hl hv r
theorem go_aloadN (X : Stand p l e R s m args below meth c T locs cells slots) (hx : p.tables.exec = Jvm.exec) {k : Fin 4} {v : Value} (hd : decode c.code pc = .ok (.aload_n k, 1)) (hp : pc + 1 = q) (hl : ls[k.val]? = some (.val v)) (hv : v.isRef = true) (K : Go p e below s Q ce sl T (mkF m q ls (v :: st))) : Go p e below s Q ce sl T (mkF m pc ls st) := by
  subst hp
  exact K.to fun _ r => XS.aloadN X.here hx rfl hd hl hv r
theorem go_astore (X : Stand p l e R s m args below meth c T locs cells slots) (hx : p.tables.exec = Jvm.exec) {k : Nat} {v : Value} {l' : Array Slot} (hd : decode c.code pc = .ok (.astore k, 2)) (hp : pc + 2 = q) (hv : v.isRef = true) (hl : storeLocals ls k v = some l') (K : Go p e below s Q ce sl T (mkF m q l' st)) : Go p e below s Q ce sl T (mkF m pc ls (v :: st)) := by
  subst hp
  exact K.to fun _ r => XS.astore X.here hx rfl hd rfl hv hl r
theorem go_astoreN (X : Stand p l e R s m args below meth c T locs cells slots) (hx : p.tables.exec = Jvm.exec) {k : Fin 4} {v : Value} {l' : Array Slot} (hd : decode c.code pc = .ok (.astore_n k, 1)) (hp : pc + 1 = q) (hv : v.isRef = true) (hl : storeLocals ls k.val v = some l') (K : Go p e below s Q ce sl T (mkF m q l' st)) : Go p e below s Q ce sl T (mkF m pc ls (v :: st)) := by
  subst hp
  exact K.to fun _ r => XS.astoreN X.here hx rfl hd rfl hv hl r
theorem go_iconst (X : Stand p l e R s m args below meth c T locs cells slots) (hx : p.tables.exec = Jvm.exec) {i : Int} {v : Int32} (hd : decode c.code pc = .ok (.iconst i, 1)) (hp : pc + 1 = q) (hv : Int32.ofInt i = v) (K : Go p e below s Q ce sl T (mkF m q ls (.int v :: st))) : Go p e below s Q ce sl T (mkF m pc ls st) := by
  subst hp
  exact K.to fun _ r => XS.iconst X.here hx rfl hd (hv ▸ r)
theorem go_bipush (X : Stand p l e R s m args below meth c T locs cells slots) (hx : p.tables.exec = Jvm.exec) {i : Int} {v : Int32} (hd : decode c.code pc = .ok (.bipush i, 2)) (hp : pc + 2 = q) (hv : (Int8.ofInt i).toInt32 = v) (K : Go p e below s Q ce sl T (mkF m q ls (.int v :: st))) : Go p e below s Q ce sl T (mkF m pc ls st) := by
  subst hp
  exact K.to fun _ r => XS.bipush X.here hx rfl hd (hv ▸ r)
theorem go_sipush (X : Stand p l e R s m args below meth c T locs cells slots) (hx : p.tables.exec = Jvm.exec) {i : Int} {v : Int32} (hd : decode c.code pc = .ok (.sipush i, 3)) (hp : pc + 3 = q) (hv : (Int16.ofInt i).toInt32 = v) (K : Go p e below s Q ce sl T (mkF m q ls (.int v :: st))) : Go p e below s Q ce sl T (mkF m pc ls st) := by
  subst hp
  exact K.to fun _ r => XS.sipush X.here hx rfl hd (hv ▸ r)
theorem go_lconst (X : Stand p l e R s m args below meth c T locs cells slots) (hx : p.tables.exec = Jvm.exec) {k : Fin 2} {v : Int64} (hd : decode c.code pc = .ok (.lconst k, 1)) (hp : pc + 1 = q) (hv : Int64.ofNat k = v) (K : Go p e below s Q ce sl T (mkF m q ls (.long v :: st))) : Go p e below s Q ce sl T (mkF m pc ls st) := by
  subst hp
  exact K.to fun _ r => XS.lconst X.here hx rfl hd (hv ▸ r)
theorem go_aconstNull (X : Stand p l e R s m args below meth c T locs cells slots) (hx : p.tables.exec = Jvm.exec)  (hd : decode c.code pc = .ok (.aconst_null, 1)) (hp : pc + 1 = q)  (K : Go p e below s Q ce sl T (mkF m q ls (.null :: st))) : Go p e below s Q ce sl T (mkF m pc ls st) := by
  subst hp
  exact K.to fun _ r => XS.aconstNull X.here hx rfl hd r
theorem go_dconst0 (X : Stand p l e R s m args below meth c T locs cells slots) (hx : p.tables.exec = Jvm.exec) {v : UInt64} (hd : decode c.code pc = .ok (.dconst 0, 1)) (hp : pc + 1 = q) (hv : FP.dconst0 = v) (K : Go p e below s Q ce sl T (mkF m q ls (.double v :: st))) : Go p e below s Q ce sl T (mkF m pc ls st) := by
  subst hp
  exact K.to fun _ r => XS.dconst0 X.here hx rfl hd hv r
theorem go_dconst1 (X : Stand p l e R s m args below meth c T locs cells slots) (hx : p.tables.exec = Jvm.exec) {v : UInt64} (hd : decode c.code pc = .ok (.dconst 1, 1)) (hp : pc + 1 = q) (hv : FP.dconst1 = v) (K : Go p e below s Q ce sl T (mkF m q ls (.double v :: st))) : Go p e below s Q ce sl T (mkF m pc ls st) := by
  subst hp
  exact K.to fun _ r => XS.dconst1 X.here hx rfl hd hv r
theorem go_iadd (X : Stand p l e R s m args below meth c T locs cells slots) (hx : p.tables.exec = Jvm.exec) {x y v : Int32} (hd : decode c.code pc = .ok (.iadd, 1)) (hp : pc + 1 = q) (hv : x + y = v) (K : Go p e below s Q ce sl T (mkF m q ls (.int v :: st))) : Go p e below s Q ce sl T (mkF m pc ls (.int y :: .int x :: st)) := by
  subst hp
  exact K.to fun _ r => XS.iadd X.here hx rfl hd rfl (hv ▸ r)
theorem go_isub (X : Stand p l e R s m args below meth c T locs cells slots) (hx : p.tables.exec = Jvm.exec) {x y v : Int32} (hd : decode c.code pc = .ok (.isub, 1)) (hp : pc + 1 = q) (hv : x - y = v) (K : Go p e below s Q ce sl T (mkF m q ls (.int v :: st))) : Go p e below s Q ce sl T (mkF m pc ls (.int y :: .int x :: st)) := by
  subst hp
  exact K.to fun _ r => XS.isub X.here hx rfl hd rfl (hv ▸ r)
theorem go_imul (X : Stand p l e R s m args below meth c T locs cells slots) (hx : p.tables.exec = Jvm.exec) {x y v : Int32} (hd : decode c.code pc = .ok (.imul, 1)) (hp : pc + 1 = q) (hv : x * y = v) (K : Go p e below s Q ce sl T (mkF m q ls (.int v :: st))) : Go p e below s Q ce sl T (mkF m pc ls (.int y :: .int x :: st)) := by
  subst hp
  exact K.to fun _ r => XS.imul X.here hx rfl hd rfl (hv ▸ r)
theorem go_iand (X : Stand p l e R s m args below meth c T locs cells slots) (hx : p.tables.exec = Jvm.exec) {x y v : Int32} (hd : decode c.code pc = .ok (.iand, 1)) (hp : pc + 1 = q) (hv : x &&& y = v) (K : Go p e below s Q ce sl T (mkF m q ls (.int v :: st))) : Go p e below s Q ce sl T (mkF m pc ls (.int y :: .int x :: st)) := by
  subst hp
  exact K.to fun _ r => XS.iand X.here hx rfl hd rfl (hv ▸ r)
theorem go_ior (X : Stand p l e R s m args below meth c T locs cells slots) (hx : p.tables.exec = Jvm.exec) {x y v : Int32} (hd : decode c.code pc = .ok (.ior, 1)) (hp : pc + 1 = q) (hv : x ||| y = v) (K : Go p e below s Q ce sl T (mkF m q ls (.int v :: st))) : Go p e below s Q ce sl T (mkF m pc ls (.int y :: .int x :: st)) := by
  subst hp
  exact K.to fun _ r => XS.ior X.here hx rfl hd rfl (hv ▸ r)
theorem go_ixor (X : Stand p l e R s m args below meth c T locs cells slots) (hx : p.tables.exec = Jvm.exec) {x y v : Int32} (hd : decode c.code pc = .ok (.ixor, 1)) (hp : pc + 1 = q) (hv : x ^^^ y = v) (K : Go p e below s Q ce sl T (mkF m q ls (.int v :: st))) : Go p e below s Q ce sl T (mkF m pc ls (.int y :: .int x :: st)) := by
  subst hp
  exact K.to fun _ r => XS.ixor X.here hx rfl hd rfl (hv ▸ r)
theorem go_ineg (X : Stand p l e R s m args below meth c T locs cells slots) (hx : p.tables.exec = Jvm.exec) {x v : Int32} (hd : decode c.code pc = .ok (.ineg, 1)) (hp : pc + 1 = q) (hv : -x = v) (K : Go p e below s Q ce sl T (mkF m q ls (.int v :: st))) : Go p e below s Q ce sl T (mkF m pc ls (.int x :: st)) := by
  subst hp
  exact K.to fun _ r => XS.ineg X.here hx rfl hd rfl (hv ▸ r)
theorem go_idiv (X : Stand p l e R s m args below meth c T locs cells slots) (hx : p.tables.exec = Jvm.exec) {x y v : Int32} (hd : decode c.code pc = .ok (.idiv, 1)) (hp : pc + 1 = q) (hy : y ≠ 0) (hv : x / y = v) (K : Go p e below s Q ce sl T (mkF m q ls (.int v :: st))) : Go p e below s Q ce sl T (mkF m pc ls (.int y :: .int x :: st)) := by
  subst hp
  exact K.to fun _ r => XS.idiv X.here hx rfl hd rfl hy (hv ▸ r)
theorem go_ladd (X : Stand p l e R s m args below meth c T locs cells slots) (hx : p.tables.exec = Jvm.exec) {x y v : Int64} (hd : decode c.code pc = .ok (.ladd, 1)) (hp : pc + 1 = q) (hv : x + y = v) (K : Go p e below s Q ce sl T (mkF m q ls (.long v :: st))) : Go p e below s Q ce sl T (mkF m pc ls (.long y :: .long x :: st)) := by
  subst hp
  exact K.to fun _ r => XS.ladd X.here hx rfl hd rfl (hv ▸ r)
theorem go_lsub (X : Stand p l e R s m args below meth c T locs cells slots) (hx : p.tables.exec = Jvm.exec) {x y v : Int64} (hd : decode c.code pc = .ok (.lsub, 1)) (hp : pc + 1 = q) (hv : x - y = v) (K : Go p e below s Q ce sl T (mkF m q ls (.long v :: st))) : Go p e below s Q ce sl T (mkF m pc ls (.long y :: .long x :: st)) := by
  subst hp
  exact K.to fun _ r => XS.lsub X.here hx rfl hd rfl (hv ▸ r)
theorem go_lmul (X : Stand p l e R s m args below meth c T locs cells slots) (hx : p.tables.exec = Jvm.exec) {x y v : Int64} (hd : decode c.code pc = .ok (.lmul, 1)) (hp : pc + 1 = q) (hv : x * y = v) (K : Go p e below s Q ce sl T (mkF m q ls (.long v :: st))) : Go p e below s Q ce sl T (mkF m pc ls (.long y :: .long x :: st)) := by
  subst hp
  exact K.to fun _ r => XS.lmul X.here hx rfl hd rfl (hv ▸ r)
theorem go_land (X : Stand p l e R s m args below meth c T locs cells slots) (hx : p.tables.exec = Jvm.exec) {x y v : Int64} (hd : decode c.code pc = .ok (.land, 1)) (hp : pc + 1 = q) (hv : x &&& y = v) (K : Go p e below s Q ce sl T (mkF m q ls (.long v :: st))) : Go p e below s Q ce sl T (mkF m pc ls (.long y :: .long x :: st)) := by
  subst hp
  exact K.to fun _ r => XS.land X.here hx rfl hd rfl (hv ▸ r)
theorem go_lor (X : Stand p l e R s m args below meth c T locs cells slots) (hx : p.tables.exec = Jvm.exec) {x y v : Int64} (hd : decode c.code pc = .ok (.lor, 1)) (hp : pc + 1 = q) (hv : x ||| y = v) (K : Go p e below s Q ce sl T (mkF m q ls (.long v :: st))) : Go p e below s Q ce sl T (mkF m pc ls (.long y :: .long x :: st)) := by
  subst hp
  exact K.to fun _ r => XS.lor X.here hx rfl hd rfl (hv ▸ r)
theorem go_lxor (X : Stand p l e R s m args below meth c T locs cells slots) (hx : p.tables.exec = Jvm.exec) {x y v : Int64} (hd : decode c.code pc = .ok (.lxor, 1)) (hp : pc + 1 = q) (hv : x ^^^ y = v) (K : Go p e below s Q ce sl T (mkF m q ls (.long v :: st))) : Go p e below s Q ce sl T (mkF m pc ls (.long y :: .long x :: st)) := by
  subst hp
  exact K.to fun _ r => XS.lxor X.here hx rfl hd rfl (hv ▸ r)
theorem go_lneg (X : Stand p l e R s m args below meth c T locs cells slots) (hx : p.tables.exec = Jvm.exec) {x v : Int64} (hd : decode c.code pc = .ok (.lneg, 1)) (hp : pc + 1 = q) (hv : -x = v) (K : Go p e below s Q ce sl T (mkF m q ls (.long v :: st))) : Go p e below s Q ce sl T (mkF m pc ls (.long x :: st)) := by
  subst hp
  exact K.to fun _ r => XS.lneg X.here hx rfl hd rfl (hv ▸ r)
theorem go_ldiv (X : Stand p l e R s m args below meth c T locs cells slots) (hx : p.tables.exec = Jvm.exec) {x y v : Int64} (hd : decode c.code pc = .ok (.ldiv, 1)) (hp : pc + 1 = q) (hy : y ≠ 0) (hv : x / y = v) (K : Go p e below s Q ce sl T (mkF m q ls (.long v :: st))) : Go p e below s Q ce sl T (mkF m pc ls (.long y :: .long x :: st)) := by
  subst hp
  exact K.to fun _ r => XS.ldiv X.here hx rfl hd rfl hy (hv ▸ r)
theorem go_irem (X : Stand p l e R s m args below meth c T locs cells slots) (hx : p.tables.exec = Jvm.exec) {x y v : Int32} (hd : decode c.code pc = .ok (.irem, 1)) (hp : pc + 1 = q) (hy : y ≠ 0) (hv : x % y = v) (K : Go p e below s Q ce sl T (mkF m q ls (.int v :: st))) : Go p e below s Q ce sl T (mkF m pc ls (.int y :: .int x :: st)) := by
  subst hp
  exact K.to fun _ r => iremM X hx rfl hd rfl hy (hv ▸ r)
theorem go_lrem (X : Stand p l e R s m args below meth c T locs cells slots) (hx : p.tables.exec = Jvm.exec) {x y v : Int64} (hd : decode c.code pc = .ok (.lrem, 1)) (hp : pc + 1 = q) (hy : y ≠ 0) (hv : x % y = v) (K : Go p e below s Q ce sl T (mkF m q ls (.long v :: st))) : Go p e below s Q ce sl T (mkF m pc ls (.long y :: .long x :: st)) := by
  subst hp
  exact K.to fun _ r => XS.lrem X.here hx rfl hd rfl hy ((lrem_mod x y).symm ▸ hv ▸ r)
theorem go_ishl (X : Stand p l e R s m args below meth c T locs cells slots) (hx : p.tables.exec = Jvm.exec) {x v : Int32} {y : Int32} (hd : decode c.code pc = .ok (.ishl, 1)) (hp : pc + 1 = q) (hv : (x <<< (y &&& 31)) = v) (K : Go p e below s Q ce sl T (mkF m q ls (.int v :: st))) : Go p e below s Q ce sl T (mkF m pc ls (.int y :: .int x :: st)) := by
  subst hp
  exact K.to fun _ r => XS.ishl X.here hx rfl hd rfl (hv ▸ r)
theorem go_ishr (X : Stand p l e R s m args below meth c T locs cells slots) (hx : p.tables.exec = Jvm.exec) {x v : Int32} {y : Int32} (hd : decode c.code pc = .ok (.ishr, 1)) (hp : pc + 1 = q) (hv : (x >>> (y &&& 31)) = v) (K : Go p e below s Q ce sl T (mkF m q ls (.int v :: st))) : Go p e below s Q ce sl T (mkF m pc ls (.int y :: .int x :: st)) := by
  subst hp
  exact K.to fun _ r => XS.ishr X.here hx rfl hd rfl (hv ▸ r)
theorem go_iushr (X : Stand p l e R s m args below meth c T locs cells slots) (hx : p.tables.exec = Jvm.exec) {x v : Int32} {y : Int32} (hd : decode c.code pc = .ok (.iushr, 1)) (hp : pc + 1 = q) (hv : ((x.toUInt32 >>> (y &&& 31).toUInt32).toInt32) = v) (K : Go p e below s Q ce sl T (mkF m q ls (.int v :: st))) : Go p e below s Q ce sl T (mkF m pc ls (.int y :: .int x :: st)) := by
  subst hp
  exact K.to fun _ r => XS.iushr X.here hx rfl hd rfl (hv ▸ r)
theorem go_lshl (X : Stand p l e R s m args below meth c T locs cells slots) (hx : p.tables.exec = Jvm.exec) {x v : Int64} {y : Int32} (hd : decode c.code pc = .ok (.lshl, 1)) (hp : pc + 1 = q) (hv : (x <<< (y &&& 0x3f).toInt64) = v) (K : Go p e below s Q ce sl T (mkF m q ls (.long v :: st))) : Go p e below s Q ce sl T (mkF m pc ls (.int y :: .long x :: st)) := by
  subst hp
  exact K.to fun _ r => XS.lshl X.here hx rfl hd rfl (hv ▸ r)
theorem go_lshr (X : Stand p l e R s m args below meth c T locs cells slots) (hx : p.tables.exec = Jvm.exec) {x v : Int64} {y : Int32} (hd : decode c.code pc = .ok (.lshr, 1)) (hp : pc + 1 = q) (hv : (x >>> (y &&& 0x3f).toInt64) = v) (K : Go p e below s Q ce sl T (mkF m q ls (.long v :: st))) : Go p e below s Q ce sl T (mkF m pc ls (.int y :: .long x :: st)) := by
  subst hp
  exact K.to fun _ r => XS.lshr X.here hx rfl hd rfl (hv ▸ r)
theorem go_lushr (X : Stand p l e R s m args below meth c T locs cells slots) (hx : p.tables.exec = Jvm.exec) {x v : Int64} {y : Int32} (hd : decode c.code pc = .ok (.lushr, 1)) (hp : pc + 1 = q) (hv : ((x.toUInt64 >>> (y &&& 0x3f).toInt64.toUInt64).toInt64) = v) (K : Go p e below s Q ce sl T (mkF m q ls (.long v :: st))) : Go p e below s Q ce sl T (mkF m pc ls (.int y :: .long x :: st)) := by
  subst hp
  exact K.to fun _ r => XS.lushr X.here hx rfl hd rfl (hv ▸ r)
theorem go_i2l (X : Stand p l e R s m args below meth c T locs cells slots) (hx : p.tables.exec = Jvm.exec) {x : Int32} {v : Int64} (hd : decode c.code pc = .ok (.i2l, 1)) (hp : pc + 1 = q) (hv : x.toInt64 = v) (K : Go p e below s Q ce sl T (mkF m q ls (.long v :: st))) : Go p e below s Q ce sl T (mkF m pc ls (.int x :: st)) := by
  subst hp
  exact K.to fun _ r => XS.i2l X.here hx rfl hd rfl (hv ▸ r)
theorem go_l2i (X : Stand p l e R s m args below meth c T locs cells slots) (hx : p.tables.exec = Jvm.exec) {x : Int64} {v : Int32} (hd : decode c.code pc = .ok (.l2i, 1)) (hp : pc + 1 = q) (hv : x.toInt32 = v) (K : Go p e below s Q ce sl T (mkF m q ls (.int v :: st))) : Go p e below s Q ce sl T (mkF m pc ls (.long x :: st)) := by
  subst hp
  exact K.to fun _ r => XS.l2i X.here hx rfl hd rfl (hv ▸ r)
theorem go_i2b (X : Stand p l e R s m args below meth c T locs cells slots) (hx : p.tables.exec = Jvm.exec) {x : Int32} {v : Int32} (hd : decode c.code pc = .ok (.i2b, 1)) (hp : pc + 1 = q) (hv : x.toInt8.toInt32 = v) (K : Go p e below s Q ce sl T (mkF m q ls (.int v :: st))) : Go p e below s Q ce sl T (mkF m pc ls (.int x :: st)) := by
  subst hp
  exact K.to fun _ r => XS.i2b X.here hx rfl hd rfl (hv ▸ r)
theorem go_i2s (X : Stand p l e R s m args below meth c T locs cells slots) (hx : p.tables.exec = Jvm.exec) {x : Int32} {v : Int32} (hd : decode c.code pc = .ok (.i2s, 1)) (hp : pc + 1 = q) (hv : x.toInt16.toInt32 = v) (K : Go p e below s Q ce sl T (mkF m q ls (.int v :: st))) : Go p e below s Q ce sl T (mkF m pc ls (.int x :: st)) := by
  subst hp
  exact K.to fun _ r => XS.i2s X.here hx rfl hd rfl (hv ▸ r)
theorem go_i2c (X : Stand p l e R s m args below meth c T locs cells slots) (hx : p.tables.exec = Jvm.exec) {x : Int32} {v : Int32} (hd : decode c.code pc = .ok (.i2c, 1)) (hp : pc + 1 = q) (hv : x.toUInt32.toUInt16.toUInt32.toInt32 = v) (K : Go p e below s Q ce sl T (mkF m q ls (.int v :: st))) : Go p e below s Q ce sl T (mkF m pc ls (.int x :: st)) := by
  subst hp
  exact K.to fun _ r => XS.i2c X.here hx rfl hd rfl (hv ▸ r)
theorem go_lcmp (X : Stand p l e R s m args below meth c T locs cells slots) (hx : p.tables.exec = Jvm.exec) {x y : Int64} (hd : decode c.code pc = .ok (.lcmp, 1)) (hp : pc + 1 = q)  (K : Go p e below s Q ce sl T (mkF m q ls (.int (lcmpW x y) :: st))) : Go p e below s Q ce sl T (mkF m pc ls (.long y :: .long x :: st)) := by
  subst hp
  exact K.to fun _ r => XS.lcmp X.here hx rfl hd rfl r
theorem go_i2d (X : Stand p l e R s m args below meth c T locs cells slots) (hx : p.tables.exec = Jvm.exec) {x : Int32} {v : UInt64} (hd : decode c.code pc = .ok (.i2d, 1)) (hp : pc + 1 = q) (hv : FP.i2d x = v) (K : Go p e below s Q ce sl T (mkF m q ls (.double v :: st))) : Go p e below s Q ce sl T (mkF m pc ls (.int x :: st)) := by
  subst hp
  exact K.to fun _ r => XS.i2dS X.here hx rfl hd rfl hv r
theorem go_l2d (X : Stand p l e R s m args below meth c T locs cells slots) (hx : p.tables.exec = Jvm.exec) {x : Int64} {v : UInt64} (hd : decode c.code pc = .ok (.l2d, 1)) (hp : pc + 1 = q) (hv : FP.l2d x = v) (K : Go p e below s Q ce sl T (mkF m q ls (.double v :: st))) : Go p e below s Q ce sl T (mkF m pc ls (.long x :: st)) := by
  subst hp
  exact K.to fun _ r => XS.l2dS X.here hx rfl hd rfl hv r
theorem go_d2l (X : Stand p l e R s m args below meth c T locs cells slots) (hx : p.tables.exec = Jvm.exec) {x : UInt64} {v : Int64} (hd : decode c.code pc = .ok (.d2l, 1)) (hp : pc + 1 = q) (hv : FP.d2l x = v) (K : Go p e below s Q ce sl T (mkF m q ls (.long v :: st))) : Go p e below s Q ce sl T (mkF m pc ls (.double x :: st)) := by
  subst hp
  exact K.to fun _ r => XS.d2lS X.here hx rfl hd rfl hv r
theorem go_i2f (X : Stand p l e R s m args below meth c T locs cells slots) (hx : p.tables.exec = Jvm.exec) {x : Int32} {v : UInt32} (hd : decode c.code pc = .ok (.i2f, 1)) (hp : pc + 1 = q) (hv : FP.i2f x = v) (K : Go p e below s Q ce sl T (mkF m q ls (.float v :: st))) : Go p e below s Q ce sl T (mkF m pc ls (.int x :: st)) := by
  subst hp
  exact K.to fun _ r => XS.i2fS X.here hx rfl hd rfl hv r
theorem go_f2d (X : Stand p l e R s m args below meth c T locs cells slots) (hx : p.tables.exec = Jvm.exec) {x : UInt32} {v : UInt64} (hd : decode c.code pc = .ok (.f2d, 1)) (hp : pc + 1 = q) (hn : Jvm.Free.Fl.NoNaN64 (FP.f2d x)) (hv : FP.f2d x = v) (K : Go p e below s Q ce sl T (mkF m q ls (.double v :: st))) : Go p e below s Q ce sl T (mkF m pc ls (.float x :: st)) := by
  subst hp
  exact K.to fun _ r => XS.f2dS X.here hx rfl hd rfl hn hv r
theorem go_dcmp (X : Stand p l e R s m args below meth c T locs cells slots) (hx : p.tables.exec = Jvm.exec) {o : CmpOp} {x y : UInt64} {v : Int32} (hd : decode c.code pc = .ok (.dcmp o, 1)) (hp : pc + 1 = q) (hv : cmpValue (FP.dcmp x y) o = v) (K : Go p e below s Q ce sl T (mkF m q ls (.int v :: st))) : Go p e below s Q ce sl T (mkF m pc ls (.double y :: .double x :: st)) := by
  subst hp
  exact K.to fun _ r => XS.dcmpS X.here hx rfl hd rfl hv r
theorem go_dadd (X : Stand p l e R s m args below meth c T locs cells slots) (hx : p.tables.exec = Jvm.exec) {x y v : UInt64} (hd : decode c.code pc = .ok (.dadd, 1)) (hp : pc + 1 = q) (hn : Jvm.Free.Fl.NoNaN64 (FP.dadd x y)) (hv : FP.dadd x y = v) (K : Go p e below s Q ce sl T (mkF m q ls (.double v :: st))) : Go p e below s Q ce sl T (mkF m pc ls (.double y :: .double x :: st)) := by
  subst hp
  exact K.to fun _ r => XS.daddS X.here hx rfl hd rfl hn hv r
theorem go_dsub (X : Stand p l e R s m args below meth c T locs cells slots) (hx : p.tables.exec = Jvm.exec) {x y v : UInt64} (hd : decode c.code pc = .ok (.dsub, 1)) (hp : pc + 1 = q) (hn : Jvm.Free.Fl.NoNaN64 (FP.dsub x y)) (hv : FP.dsub x y = v) (K : Go p e below s Q ce sl T (mkF m q ls (.double v :: st))) : Go p e below s Q ce sl T (mkF m pc ls (.double y :: .double x :: st)) := by
  subst hp
  exact K.to fun _ r => XS.dsubS X.here hx rfl hd rfl hn hv r
theorem go_dmul (X : Stand p l e R s m args below meth c T locs cells slots) (hx : p.tables.exec = Jvm.exec) {x y v : UInt64} (hd : decode c.code pc = .ok (.dmul, 1)) (hp : pc + 1 = q) (hn : Jvm.Free.Fl.NoNaN64 (FP.dmul x y)) (hv : FP.dmul x y = v) (K : Go p e below s Q ce sl T (mkF m q ls (.double v :: st))) : Go p e below s Q ce sl T (mkF m pc ls (.double y :: .double x :: st)) := by
  subst hp
  exact K.to fun _ r => XS.dmulS X.here hx rfl hd rfl hn hv r
theorem go_ddiv (X : Stand p l e R s m args below meth c T locs cells slots) (hx : p.tables.exec = Jvm.exec) {x y v : UInt64} (hd : decode c.code pc = .ok (.ddiv, 1)) (hp : pc + 1 = q) (hn : Jvm.Free.Fl.NoNaN64 (FP.ddiv x y)) (hv : FP.ddiv x y = v) (K : Go p e below s Q ce sl T (mkF m q ls (.double v :: st))) : Go p e below s Q ce sl T (mkF m pc ls (.double y :: .double x :: st)) := by
  subst hp
  exact K.to fun _ r => XS.ddivS X.here hx rfl hd rfl hn hv r
theorem go_dup (X : Stand p l e R s m args below meth c T locs cells slots) (hx : p.tables.exec = Jvm.exec) {v : Value} (hd : decode c.code pc = .ok (.dup, 1)) (hp : pc + 1 = q) (hv : v.category = 1) (K : Go p e below s Q ce sl T (mkF m q ls (v :: v :: st))) : Go p e below s Q ce sl T (mkF m pc ls (v :: st)) := by
  subst hp
  exact K.to fun _ r => XS.dup X.here hx rfl hd rfl hv r
theorem go_pop (X : Stand p l e R s m args below meth c T locs cells slots) (hx : p.tables.exec = Jvm.exec) {v : Value} (hd : decode c.code pc = .ok (.pop, 1)) (hp : pc + 1 = q) (hv : v.category = 1) (K : Go p e below s Q ce sl T (mkF m q ls st)) : Go p e below s Q ce sl T (mkF m pc ls (v :: st)) := by
  subst hp
  exact K.to fun _ r => XS.pop X.here hx rfl hd rfl hv r
theorem go_iinc (X : Stand p l e R s m args below meth c T locs cells slots) (hx : p.tables.exec = Jvm.exec) {k : Nat} {i : Int} {v : Int32} {l' : Array Slot} (hd : decode c.code pc = .ok (.iinc k i, 3)) (hp : pc + 3 = q) (hl : ls[k]? = some (.val (.int v))) (hs : storeLocals ls k (.int (v + Int32.ofInt i)) = some l') (K : Go p e below s Q ce sl T (mkF m q l' st)) : Go p e below s Q ce sl T (mkF m pc ls st) := by
  subst hp
  exact K.to fun _ r => XS.iinc X.here hx rfl hd hl hs r
theorem go_goto (X : Stand p l e R s m args below meth c T locs cells slots) (hx : p.tables.exec = Jvm.exec) {o : Int} (hd : decode c.code pc = .ok (.goto o, 3)) (ho : 0 ≤ (pc : Int) + o) (hq : ((pc : Int) + o).toNat = q) (K : Go p e below s Q ce sl T (mkF m q ls st)) : Go p e below s Q ce sl T (mkF m pc ls st) :=
  K.to fun _ r => XS.goto X.here hx rfl (pc0 := pc) rfl hd ho hq r
theorem go_icmp_lt (X : Stand p l e R s m args below meth c T locs cells slots) (hx : p.tables.exec = Jvm.exec) {x y : Int32} {o : Int} (hd : decode c.code pc = .ok (.if_icmp .lt o, 3)) (hp : pc + 3 = q) (ho : 0 ≤ (pc : Int) + o) (hq : ((pc : Int) + o).toNat = q') (KY : x < y → Go p e below s Q ce sl T (mkF m q' ls st)) (KN : ¬ x < y → Go p e below s Q ce sl T (mkF m q ls st)) : Go p e below s Q ce sl T (mkF m pc ls (.int y :: .int x :: st)) := by
  subst hp
  by_cases hc : x < y
  · exact (KY hc).to fun _ r => XS.icmpYes X.here hx rfl (pc0 := pc) rfl hd rfl (tlt hc).1 ho hq r
  · exact (KN hc).to fun _ r => XS.icmpNo X.here hx rfl hd rfl (flt hc).1 r
theorem go_if_lt (X : Stand p l e R s m args below meth c T locs cells slots) (hx : p.tables.exec = Jvm.exec) {x : Int32} {o : Int} (hd : decode c.code pc = .ok (.ifCond .lt o, 3)) (hp : pc + 3 = q) (ho : 0 ≤ (pc : Int) + o) (hq : ((pc : Int) + o).toNat = q') (KY : x < (0 : Int32) → Go p e below s Q ce sl T (mkF m q' ls st)) (KN : ¬ x < (0 : Int32) → Go p e below s Q ce sl T (mkF m q ls st)) : Go p e below s Q ce sl T (mkF m pc ls (.int x :: st)) := by
  subst hp
  by_cases hc : x < (0 : Int32)
  · exact (KY hc).to fun _ r => XS.ifYes X.here hx rfl (pc0 := pc) rfl hd rfl ((if0 _ _).trans (tlt hc).1) ho hq r
  · exact (KN hc).to fun _ r => XS.ifNo X.here hx rfl hd rfl ((if0 _ _).trans (flt hc).1) r
theorem go_lif_lt (X : Stand p l e R s m args below meth c T locs cells slots) (hx : p.tables.exec = Jvm.exec) {a b : Int64} {o : Int} (hd : decode c.code pc = .ok (.ifCond .lt o, 3)) (hp : pc + 3 = q) (ho : 0 ≤ (pc : Int) + o) (hq : ((pc : Int) + o).toNat = q') (KY : a < b → Go p e below s Q ce sl T (mkF m q' ls st)) (KN : ¬ a < b → Go p e below s Q ce sl T (mkF m q ls st)) : Go p e below s Q ce sl T (mkF m pc ls (.int (lcmpW a b) :: st)) :=
  go_if_lt X hx hd hp ho hq (fun w => KY ((lw_lt _ _).mp w)) (fun w => KN (fun z => w ((lw_lt _ _).mpr z)))
theorem go_icmp_ge (X : Stand p l e R s m args below meth c T locs cells slots) (hx : p.tables.exec = Jvm.exec) {x y : Int32} {o : Int} (hd : decode c.code pc = .ok (.if_icmp .ge o, 3)) (hp : pc + 3 = q) (ho : 0 ≤ (pc : Int) + o) (hq : ((pc : Int) + o).toNat = q') (KY : ¬ x < y → Go p e below s Q ce sl T (mkF m q' ls st)) (KN : x < y → Go p e below s Q ce sl T (mkF m q ls st)) : Go p e below s Q ce sl T (mkF m pc ls (.int y :: .int x :: st)) := by
  subst hp
  by_cases hc : x < y
  · exact (KN hc).to fun _ r => XS.icmpNo X.here hx rfl hd rfl (tlt hc).2.1 r
  · exact (KY hc).to fun _ r => XS.icmpYes X.here hx rfl (pc0 := pc) rfl hd rfl (flt hc).2.1 ho hq r
theorem go_if_ge (X : Stand p l e R s m args below meth c T locs cells slots) (hx : p.tables.exec = Jvm.exec) {x : Int32} {o : Int} (hd : decode c.code pc = .ok (.ifCond .ge o, 3)) (hp : pc + 3 = q) (ho : 0 ≤ (pc : Int) + o) (hq : ((pc : Int) + o).toNat = q') (KY : ¬ x < (0 : Int32) → Go p e below s Q ce sl T (mkF m q' ls st)) (KN : x < (0 : Int32) → Go p e below s Q ce sl T (mkF m q ls st)) : Go p e below s Q ce sl T (mkF m pc ls (.int x :: st)) := by
  subst hp
  by_cases hc : x < (0 : Int32)
  · exact (KN hc).to fun _ r => XS.ifNo X.here hx rfl hd rfl ((if0 _ _).trans (tlt hc).2.1) r
  · exact (KY hc).to fun _ r => XS.ifYes X.here hx rfl (pc0 := pc) rfl hd rfl ((if0 _ _).trans (flt hc).2.1) ho hq r
theorem go_lif_ge (X : Stand p l e R s m args below meth c T locs cells slots) (hx : p.tables.exec = Jvm.exec) {a b : Int64} {o : Int} (hd : decode c.code pc = .ok (.ifCond .ge o, 3)) (hp : pc + 3 = q) (ho : 0 ≤ (pc : Int) + o) (hq : ((pc : Int) + o).toNat = q') (KY : ¬ a < b → Go p e below s Q ce sl T (mkF m q' ls st)) (KN : a < b → Go p e below s Q ce sl T (mkF m q ls st)) : Go p e below s Q ce sl T (mkF m pc ls (.int (lcmpW a b) :: st)) :=
  go_if_ge X hx hd hp ho hq (fun w => KY (fun z => w ((lw_lt _ _).mpr z))) (fun w => KN ((lw_lt _ _).mp w))
theorem go_icmp_gt (X : Stand p l e R s m args below meth c T locs cells slots) (hx : p.tables.exec = Jvm.exec) {x y : Int32} {o : Int} (hd : decode c.code pc = .ok (.if_icmp .gt o, 3)) (hp : pc + 3 = q) (ho : 0 ≤ (pc : Int) + o) (hq : ((pc : Int) + o).toNat = q') (KY : y < x → Go p e below s Q ce sl T (mkF m q' ls st)) (KN : ¬ y < x → Go p e below s Q ce sl T (mkF m q ls st)) : Go p e below s Q ce sl T (mkF m pc ls (.int y :: .int x :: st)) := by
  subst hp
  by_cases hc : y < x
  · exact (KY hc).to fun _ r => XS.icmpYes X.here hx rfl (pc0 := pc) rfl hd rfl (tlt hc).2.2.1 ho hq r
  · exact (KN hc).to fun _ r => XS.icmpNo X.here hx rfl hd rfl (flt hc).2.2.1 r
theorem go_if_gt (X : Stand p l e R s m args below meth c T locs cells slots) (hx : p.tables.exec = Jvm.exec) {x : Int32} {o : Int} (hd : decode c.code pc = .ok (.ifCond .gt o, 3)) (hp : pc + 3 = q) (ho : 0 ≤ (pc : Int) + o) (hq : ((pc : Int) + o).toNat = q') (KY : (0 : Int32) < x → Go p e below s Q ce sl T (mkF m q' ls st)) (KN : ¬ (0 : Int32) < x → Go p e below s Q ce sl T (mkF m q ls st)) : Go p e below s Q ce sl T (mkF m pc ls (.int x :: st)) := by
  subst hp
  by_cases hc : (0 : Int32) < x
  · exact (KY hc).to fun _ r => XS.ifYes X.here hx rfl (pc0 := pc) rfl hd rfl ((if0 _ _).trans (tlt hc).2.2.1) ho hq r
  · exact (KN hc).to fun _ r => XS.ifNo X.here hx rfl hd rfl ((if0 _ _).trans (flt hc).2.2.1) r
theorem go_lif_gt (X : Stand p l e R s m args below meth c T locs cells slots) (hx : p.tables.exec = Jvm.exec) {a b : Int64} {o : Int} (hd : decode c.code pc = .ok (.ifCond .gt o, 3)) (hp : pc + 3 = q) (ho : 0 ≤ (pc : Int) + o) (hq : ((pc : Int) + o).toNat = q') (KY : b < a → Go p e below s Q ce sl T (mkF m q' ls st)) (KN : ¬ b < a → Go p e below s Q ce sl T (mkF m q ls st)) : Go p e below s Q ce sl T (mkF m pc ls (.int (lcmpW a b) :: st)) :=
  go_if_gt X hx hd hp ho hq (fun w => KY ((lw_gt _ _).mp w)) (fun w => KN (fun z => w ((lw_gt _ _).mpr z)))
theorem go_icmp_le (X : Stand p l e R s m args below meth c T locs cells slots) (hx : p.tables.exec = Jvm.exec) {x y : Int32} {o : Int} (hd : decode c.code pc = .ok (.if_icmp .le o, 3)) (hp : pc + 3 = q) (ho : 0 ≤ (pc : Int) + o) (hq : ((pc : Int) + o).toNat = q') (KY : ¬ y < x → Go p e below s Q ce sl T (mkF m q' ls st)) (KN : y < x → Go p e below s Q ce sl T (mkF m q ls st)) : Go p e below s Q ce sl T (mkF m pc ls (.int y :: .int x :: st)) := by
  subst hp
  by_cases hc : y < x
  · exact (KN hc).to fun _ r => XS.icmpNo X.here hx rfl hd rfl (tlt hc).2.2.2 r
  · exact (KY hc).to fun _ r => XS.icmpYes X.here hx rfl (pc0 := pc) rfl hd rfl (flt hc).2.2.2 ho hq r
theorem go_if_le (X : Stand p l e R s m args below meth c T locs cells slots) (hx : p.tables.exec = Jvm.exec) {x : Int32} {o : Int} (hd : decode c.code pc = .ok (.ifCond .le o, 3)) (hp : pc + 3 = q) (ho : 0 ≤ (pc : Int) + o) (hq : ((pc : Int) + o).toNat = q') (KY : ¬ (0 : Int32) < x → Go p e below s Q ce sl T (mkF m q' ls st)) (KN : (0 : Int32) < x → Go p e below s Q ce sl T (mkF m q ls st)) : Go p e below s Q ce sl T (mkF m pc ls (.int x :: st)) := by
  subst hp
  by_cases hc : (0 : Int32) < x
  · exact (KN hc).to fun _ r => XS.ifNo X.here hx rfl hd rfl ((if0 _ _).trans (tlt hc).2.2.2) r
  · exact (KY hc).to fun _ r => XS.ifYes X.here hx rfl (pc0 := pc) rfl hd rfl ((if0 _ _).trans (flt hc).2.2.2) ho hq r
theorem go_lif_le (X : Stand p l e R s m args below meth c T locs cells slots) (hx : p.tables.exec = Jvm.exec) {a b : Int64} {o : Int} (hd : decode c.code pc = .ok (.ifCond .le o, 3)) (hp : pc + 3 = q) (ho : 0 ≤ (pc : Int) + o) (hq : ((pc : Int) + o).toNat = q') (KY : ¬ b < a → Go p e below s Q ce sl T (mkF m q' ls st)) (KN : b < a → Go p e below s Q ce sl T (mkF m q ls st)) : Go p e below s Q ce sl T (mkF m pc ls (.int (lcmpW a b) :: st)) :=
  go_if_le X hx hd hp ho hq (fun w => KY (fun z => w ((lw_gt _ _).mpr z))) (fun w => KN ((lw_gt _ _).mp w))
theorem go_icmp_eq (X : Stand p l e R s m args below meth c T locs cells slots) (hx : p.tables.exec = Jvm.exec) {x y : Int32} {o : Int} (hd : decode c.code pc = .ok (.if_icmp .eq o, 3)) (hp : pc + 3 = q) (ho : 0 ≤ (pc : Int) + o) (hq : ((pc : Int) + o).toNat = q') (KY : x = y → Go p e below s Q ce sl T (mkF m q' ls st)) (KN : ¬ x = y → Go p e below s Q ce sl T (mkF m q ls st)) : Go p e below s Q ce sl T (mkF m pc ls (.int y :: .int x :: st)) := by
  subst hp
  by_cases hc : x = y
  · exact (KY hc).to fun _ r => XS.icmpYes X.here hx rfl (pc0 := pc) rfl hd rfl (teq hc).1 ho hq r
  · exact (KN hc).to fun _ r => XS.icmpNo X.here hx rfl hd rfl (feq hc).1 r
theorem go_if_eq (X : Stand p l e R s m args below meth c T locs cells slots) (hx : p.tables.exec = Jvm.exec) {x : Int32} {o : Int} (hd : decode c.code pc = .ok (.ifCond .eq o, 3)) (hp : pc + 3 = q) (ho : 0 ≤ (pc : Int) + o) (hq : ((pc : Int) + o).toNat = q') (KY : x = (0 : Int32) → Go p e below s Q ce sl T (mkF m q' ls st)) (KN : ¬ x = (0 : Int32) → Go p e below s Q ce sl T (mkF m q ls st)) : Go p e below s Q ce sl T (mkF m pc ls (.int x :: st)) := by
  subst hp
  by_cases hc : x = (0 : Int32)
  · exact (KY hc).to fun _ r => XS.ifYes X.here hx rfl (pc0 := pc) rfl hd rfl ((if0 _ _).trans (teq hc).1) ho hq r
  · exact (KN hc).to fun _ r => XS.ifNo X.here hx rfl hd rfl ((if0 _ _).trans (feq hc).1) r
theorem go_lif_eq (X : Stand p l e R s m args below meth c T locs cells slots) (hx : p.tables.exec = Jvm.exec) {a b : Int64} {o : Int} (hd : decode c.code pc = .ok (.ifCond .eq o, 3)) (hp : pc + 3 = q) (ho : 0 ≤ (pc : Int) + o) (hq : ((pc : Int) + o).toNat = q') (KY : a = b → Go p e below s Q ce sl T (mkF m q' ls st)) (KN : ¬ a = b → Go p e below s Q ce sl T (mkF m q ls st)) : Go p e below s Q ce sl T (mkF m pc ls (.int (lcmpW a b) :: st)) :=
  go_if_eq X hx hd hp ho hq (fun w => KY ((lw_eq _ _).mp w)) (fun w => KN (fun z => w ((lw_eq _ _).mpr z)))
theorem go_icmp_ne (X : Stand p l e R s m args below meth c T locs cells slots) (hx : p.tables.exec = Jvm.exec) {x y : Int32} {o : Int} (hd : decode c.code pc = .ok (.if_icmp .ne o, 3)) (hp : pc + 3 = q) (ho : 0 ≤ (pc : Int) + o) (hq : ((pc : Int) + o).toNat = q') (KY : ¬ x = y → Go p e below s Q ce sl T (mkF m q' ls st)) (KN : x = y → Go p e below s Q ce sl T (mkF m q ls st)) : Go p e below s Q ce sl T (mkF m pc ls (.int y :: .int x :: st)) := by
  subst hp
  by_cases hc : x = y
  · exact (KN hc).to fun _ r => XS.icmpNo X.here hx rfl hd rfl (teq hc).2 r
  · exact (KY hc).to fun _ r => XS.icmpYes X.here hx rfl (pc0 := pc) rfl hd rfl (feq hc).2 ho hq r
theorem go_if_ne (X : Stand p l e R s m args below meth c T locs cells slots) (hx : p.tables.exec = Jvm.exec) {x : Int32} {o : Int} (hd : decode c.code pc = .ok (.ifCond .ne o, 3)) (hp : pc + 3 = q) (ho : 0 ≤ (pc : Int) + o) (hq : ((pc : Int) + o).toNat = q') (KY : ¬ x = (0 : Int32) → Go p e below s Q ce sl T (mkF m q' ls st)) (KN : x = (0 : Int32) → Go p e below s Q ce sl T (mkF m q ls st)) : Go p e below s Q ce sl T (mkF m pc ls (.int x :: st)) := by
  subst hp
  by_cases hc : x = (0 : Int32)
  · exact (KN hc).to fun _ r => XS.ifNo X.here hx rfl hd rfl ((if0 _ _).trans (teq hc).2) r
  · exact (KY hc).to fun _ r => XS.ifYes X.here hx rfl (pc0 := pc) rfl hd rfl ((if0 _ _).trans (feq hc).2) ho hq r
theorem go_lif_ne (X : Stand p l e R s m args below meth c T locs cells slots) (hx : p.tables.exec = Jvm.exec) {a b : Int64} {o : Int} (hd : decode c.code pc = .ok (.ifCond .ne o, 3)) (hp : pc + 3 = q) (ho : 0 ≤ (pc : Int) + o) (hq : ((pc : Int) + o).toNat = q') (KY : ¬ a = b → Go p e below s Q ce sl T (mkF m q' ls st)) (KN : a = b → Go p e below s Q ce sl T (mkF m q ls st)) : Go p e below s Q ce sl T (mkF m pc ls (.int (lcmpW a b) :: st)) :=
  go_if_ne X hx hd hp ho hq (fun w => KY (fun z => w ((lw_eq _ _).mpr z))) (fun w => KN ((lw_eq _ _).mp w))
theorem go_ret (X : Stand p l e R s m args below meth c T locs cells slots) (hx : p.tables.exec = Jvm.exec) {w : Value} {t : FieldType} {i : Instr} (hret : meth.sig.returnType = some t) (hlk : meth.locks = false) (hn : narrow t w = w)
    (hi : (i = .ireturn ∧ (t = .int ∨ t = .boolean ∨ t = .byte ∨ t = .char ∨ t = .short) ∧ ∃ z, w = .int z) ∨ (i = .lreturn ∧ t = .long ∧ ∃ z, w = .long z) ∨ (i = .dreturn ∧ t = .double ∧ ∃ z, w = .double z) ∨ (i = .freturn ∧ t = .float ∧ ∃ z, w = .float z) ∨ (i = .areturn ∧ t.isReference = true ∧ w.isRef = true))
    (hd : decode c.code pc = .ok (i, 1)) (hc : cells ≤ ce) (hs : slots ≤ sl) (hQ : Q (some w) T.heap locs) : Go p e below s Q ce sl T (mkF m pc ls (w :: st)) := by
  obtain ⟨fs, hr, hrun, hended, hW, hsame⟩ := X.leave (v := some w) (fun h => by rw [hret] at h; cases h) hlk
  exact ⟨_, _, retOut X hx hret hn hi hd hr, hrun, hended, _, _, rfl, hQ, ⟨_, rfl⟩, hW, hsame.mono hc hs⟩
theorem go_retD (X : Stand p l e R s m args below meth c T locs cells slots) (hx : p.tables.exec = Jvm.exec) {v : UInt64} (hret : meth.sig.returnType = some .double) (hlk : meth.locks = false) (hd : decode c.code pc = .ok (.dreturn, 1)) (hc : cells ≤ ce) (hs : slots ≤ sl) (hQ : Q (some (.double v)) T.heap locs) : Go p e below s Q ce sl T (mkF m pc ls (.double v :: st)) :=
  go_ret X hx hret hlk rfl (Or.inr (Or.inr (Or.inl ⟨rfl, rfl, v, rfl⟩))) hd hc hs hQ
theorem go_retJ (X : Stand p l e R s m args below meth c T locs cells slots) (hx : p.tables.exec = Jvm.exec) {v : Int64} (hret : meth.sig.returnType = some .long) (hlk : meth.locks = false) (hd : decode c.code pc = .ok (.lreturn, 1)) (hc : cells ≤ ce) (hs : slots ≤ sl) (hQ : Q (some (.long v)) T.heap locs) : Go p e below s Q ce sl T (mkF m pc ls (.long v :: st)) :=
  go_ret X hx hret hlk rfl (Or.inr (Or.inl ⟨rfl, rfl, v, rfl⟩)) hd hc hs hQ
theorem go_retI (X : Stand p l e R s m args below meth c T locs cells slots) (hx : p.tables.exec = Jvm.exec) {v : Int32} (hret : meth.sig.returnType = some .int) (hlk : meth.locks = false) (hd : decode c.code pc = .ok (.ireturn, 1)) (hc : cells ≤ ce) (hs : slots ≤ sl) (hQ : Q (some (.int v)) T.heap locs) : Go p e below s Q ce sl T (mkF m pc ls (.int v :: st)) :=
  go_ret X hx hret hlk rfl (Or.inl ⟨rfl, Or.inl rfl, v, rfl⟩) hd hc hs hQ
theorem go_retA (X : Stand p l e R s m args below meth c T locs cells slots) (hx : p.tables.exec = Jvm.exec) {v : Value} {t : FieldType} (hret : meth.sig.returnType = some t) (hlk : meth.locks = false) (ht : t.isReference = true) (hv : v.isRef = true) (hn : narrow t v = v) (hd : decode c.code pc = .ok (.areturn, 1)) (hc : cells ≤ ce) (hs : slots ≤ sl) (hQ : Q (some v) T.heap locs) : Go p e below s Q ce sl T (mkF m pc ls (v :: st)) :=
  go_ret X hx hret hlk hn (Or.inr (Or.inr (Or.inr (Or.inr ⟨rfl, ht, hv⟩)))) hd hc hs hQ
theorem go_retN (X : Stand p l e R s m args below meth c T locs cells slots) (hx : p.tables.exec = Jvm.exec) {z : Int32} {t : FieldType} (ht : t = .boolean ∨ t = .byte ∨ t = .char ∨ t = .short) (hret : meth.sig.returnType = some t) (hlk : meth.locks = false) (hd : decode c.code pc = .ok (.ireturn, 1)) (hc : cells ≤ ce) (hs : slots ≤ sl) (hQ : Q (some (.int (nar t z))) T.heap locs) : Go p e below s Q ce sl T (mkF m pc ls (.int z :: st)) := by
  obtain ⟨fs, hr, hrun, hended, hW, hsame⟩ := X.leave (v := some (.int (nar t z))) (fun h => by rw [hret] at h; cases h) hlk
  exact ⟨_, _, retN X hx hret ht hd hr, hrun, hended, _, _, rfl, hQ, ⟨_, rfl⟩, hW, hsame.mono hc hs⟩
theorem go_retV (X : Stand p l e R s m args below meth c T locs cells slots) (hx : p.tables.exec = Jvm.exec) (hret : meth.sig.returnType = none) (hlk : meth.locks = false) (hd : decode c.code pc = .ok (.return_, 1)) (hc : cells ≤ ce) (hs : slots ≤ sl) (hQ : Q none T.heap locs) : Go p e below s Q ce sl T (mkF m pc ls []) := by
  obtain ⟨fs, hr, hrun, hended, hW, hsame⟩ := X.leave (v := none) (fun _ => rfl) hlk
  exact ⟨_, _, X.returnOut hx hret hd hr, hrun, hended, _, _, rfl, hQ, ⟨_, rfl⟩, hW, hsame.mono hc hs⟩
theorem go_ldcI (X : Stand p l e R s m args below meth c T locs cells slots) (hx : p.tables.exec = Jvm.exec) (hZ : Z.Warmed39 s.vm) {own : String} {index : Nat} {v : Int32} (hown : s.vm.findClass own = some m.cls) (w : (Jvm.Cond.constant own index v).before a0 Z = true) (hd : decode c.code pc = .ok (.ldc index, 2)) (hp : pc + 2 = q) (K : Go p e below s Q ce sl T (mkF m q ls (.int v :: st))) : Go p e below s Q ce sl T (mkF m pc ls st) := by
  subst hp
  exact K.to fun t r => X.ldcInt hx hown (mvT hZ w) (g := mkF m pc ls st) rfl hd t r
theorem go_ldc2J (X : Stand p l e R s m args below meth c T locs cells slots) (hx : p.tables.exec = Jvm.exec) (hZ : Z.Warmed39 s.vm) {own : String} {index : Nat} {v : Int64} (hown : s.vm.findClass own = some m.cls) (w : (Jvm.Cond.constantLong own index v).before a0 Z = true) (hd : decode c.code pc = .ok (.ldc2_w index, 3)) (hp : pc + 3 = q) (K : Go p e below s Q ce sl T (mkF m q ls (.long v :: st))) : Go p e below s Q ce sl T (mkF m pc ls st) := by
  subst hp
  exact K.to fun t r => X.ldc2Long hx hown (mvT hZ w) (g := mkF m pc ls st) rfl hd t r
theorem go_ldc2D (X : Stand p l e R s m args below meth c T locs cells slots) (hx : p.tables.exec = Jvm.exec) (hZ : Z.Warmed39 s.vm) {own : String} {index : Nat} {v : UInt64} (hown : s.vm.findClass own = some m.cls) (w : (Jvm.Cond.constantDouble own index v).before a0 Z = true) (hd : decode c.code pc = .ok (.ldc2_w index, 3)) (hp : pc + 3 = q) (K : Go p e below s Q ce sl T (mkF m q ls (.double v :: st))) : Go p e below s Q ce sl T (mkF m pc ls st) := by
  subst hp
  exact K.to fun t r => X.ldc2DoubleC hx hown (mvT hZ w) (g := mkF m pc ls st) rfl hd t r
theorem go_callS (X : Stand p l e R s m args below meth c T locs cells slots) (hx : p.tables.exec = Jvm.exec) (hZ : Z.Warmed39 s.vm) {own : String} {index : Nat} {y : MethodName} {bytes : ByteArray} {maxL : Nat} {ret : Option FieldType} {rm : Room} {W : Nat} {Qc : Option Value → Heap → List Loc → Prop} (hown : s.vm.findClass own = some m.cls) (eT : T.heap = h)
    (w1 : (Jvm.Cond.methodLink own index y).before a0 Z = true) (w2 : (Jvm.Cond.static y).before a0 Z = true) (w3 : (Jvm.Cond.initialized y.cls).before a0 Z = true) (w4 : (Jvm.Cond.code y bytes maxL ret).before a0 Z = true) (hy : y.cls ≠ "java/lang/invoke/MethodHandle" ∧ y.cls ≠ "java/lang/invoke/VarHandle")
    (argsL rest : List Value) (hM : Con l y bytes maxL ret [] rm Z argsL.toArray h Qc) (hsz : ls.size = c.maxLocals) (hst : st = argsL.reverse ++ rest) (hlen : ∀ sig, parseMethodDescriptor y.desc = some sig → argsL.length = sig.parameters.length) (hW : (rest.map fun v => v.category).sum ≤ W)
    (hf : rm.frames + 1 ≤ R.frames) (hl : W + (maxL + 11) + rm.locals ≤ R.locals) (hd : decode c.code pc = .ok (.invokestatic index, 3)) (hp : pc + 3 = q) (hc : cells + rm.cells ≤ R.cells) (hs : slots + rm.slots ≤ R.slots)
    (K : ∀ (T' : State) (L : List Loc) (v : Option Value), Stand p l e R s m args below meth c T' (locs ++ L) (cells + rm.cells) (slots + rm.slots) → Qc v T'.heap L → Go p e below s Q ce sl T' (mkF m q ls (v.toList ++ rest))) : Go p e below s Q ce sl T (mkF m pc ls st) := by
  subst hp
  obtain ⟨v, _, ⟨T', L', k', n'⟩, -, X', ⟨Lc, hQ, l1, y1, z1⟩, stp⟩ := Jvm.LawKit.callS X hx (y := y) hown (mvT hZ w1) (mvT hZ w2) (mvT hZ w3) (mvT hZ w4) hy (backOf (W := W) hM hZ w4 w3 hf hl) (g := mkF m pc ls st) rfl hsz (argsL := argsL) (rest := rest) hlen hst (by show 2 * 0 + _ ≤ _; omega) hd (fun _ _ => ⟨rfl, eT, hc, hs⟩)
  dsimp only [Pt.U, Pt.locs, Pt.cells, Pt.slots] at X' l1 y1 z1 stp hQ
  subst l1 y1 z1
  exact (K T' Lc v X' hQ).to fun t r => stp t r
theorem go_callI (X : Stand p l e R s m args below meth c T locs cells slots) (hx : p.tables.exec = Jvm.exec) (hZ : Z.Warmed39 s.vm) {own : String} {index : Nat} {y : MethodName} {bytes : ByteArray} {maxL : Nat} {rm : Room} {W : Nat} {Qc : Option Value → Heap → List Loc → Prop} (hown : s.vm.findClass own = some m.cls) (eT : T.heap = h) (hy1 : y.name = "<init>")
    (w1 : (Jvm.Cond.methodLink own index y).before a0 Z = true) (w2 : (Jvm.Cond.instanceMethod y).before a0 Z = true) (w3 : (Jvm.Cond.initialized y.cls).before a0 Z = true) (w4 : (Jvm.Cond.code y bytes maxL none).before a0 Z = true) (hy : y.cls ≠ "java/lang/invoke/MethodHandle" ∧ y.cls ≠ "java/lang/invoke/VarHandle")
    (a : Addr) (argsL rest : List Value) (hM : Con l y bytes maxL none [] rm Z (.ref a :: argsL).toArray h Qc) (hsz : ls.size = c.maxLocals) (hst : st = argsL.reverse ++ .ref a :: rest) (hlen : ∀ sig, parseMethodDescriptor y.desc = some sig → argsL.length = sig.parameters.length) (hW : (rest.map fun v => v.category).sum ≤ W)
    (hf : rm.frames + 1 ≤ R.frames) (hl : W + (maxL + 11) + rm.locals ≤ R.locals) (hd : decode c.code pc = .ok (.invokespecial index, 3)) (hp : pc + 3 = q) (hc : cells + rm.cells ≤ R.cells) (hs : slots + rm.slots ≤ R.slots)
    (K : ∀ (T' : State) (L : List Loc) (v : Option Value), Stand p l e R s m args below meth c T' (locs ++ L) (cells + rm.cells) (slots + rm.slots) → Qc v T'.heap L → Go p e below s Q ce sl T' (mkF m q ls (v.toList ++ rest))) : Go p e below s Q ce sl T (mkF m pc ls st) := by
  subst hp
  obtain ⟨v, _, ⟨T', L', k', n'⟩, -, X', ⟨Lc, hQ, l1, y1, z1⟩, stp⟩ := X.specialBack hx (y := y) hy1 hown (mvT hZ w1) (mvT hZ w2) (mvT hZ w4) hy (backOf (W := W) hM hZ w4 w3 hf hl) (g := mkF m pc ls st) rfl hsz (Steps.refl _) (a := a) (argsL := argsL) (rest := rest) hlen hst (by show 2 * 0 + _ ≤ _; omega) hd (fun _ _ => ⟨rfl, eT, hc, hs⟩)
  dsimp only [Pt.U, Pt.locs, Pt.cells, Pt.slots] at X' l1 y1 z1 stp hQ
  subst l1 y1 z1
  exact (K T' Lc v X' hQ).to fun t r => stp.trans r
theorem go_callV (X : Stand p l e R s m args below meth c T locs cells slots) (hx : p.tables.exec = Jvm.exec) (hZ : Z.Warmed39 s.vm) {own C : String} {index : Nat} {y : MethodName} {bytes : ByteArray} {maxL : Nat} {ret : Option FieldType} {rm : Room} {W : Nat} {Qc : Option Value → Heap → List Loc → Prop} {z : MethodName} (hown : s.vm.findClass own = some m.cls) (eT : T.heap = h)
    (w1 : (Jvm.Cond.methodLink own index y).before a0 Z = true) (w2 : (Jvm.Cond.declares y).before a0 Z = true) (hnf : NotFace s y) (w3 : (Jvm.Cond.selects C y z).before a0 Z = true) (w5 : (Jvm.Cond.instanceMethod z).before a0 Z = true) (w6 : (Jvm.Cond.initialized z.cls).before a0 Z = true) (w4 : (Jvm.Cond.code z bytes maxL ret).before a0 Z = true) (hy : y.cls ≠ "java/lang/invoke/MethodHandle" ∧ y.cls ≠ "java/lang/invoke/VarHandle")
    (a : Addr) (argsL rest : List Value) (E : Exa Z h a C) (hM : Con l z bytes maxL ret [] rm Z (.ref a :: argsL).toArray h Qc) (hsz : ls.size = c.maxLocals) (hst : st = argsL.reverse ++ .ref a :: rest) (hlen : ∀ sig, parseMethodDescriptor y.desc = some sig → argsL.length = sig.parameters.length) (hW : (rest.map fun v => v.category).sum ≤ W)
    (hf : rm.frames + 1 ≤ R.frames) (hl : W + (maxL + 11) + rm.locals ≤ R.locals) (hd : decode c.code pc = .ok (.invokevirtual index, 3)) (hp : pc + 3 = q) (hc : cells + rm.cells ≤ R.cells) (hs : slots + rm.slots ≤ R.slots)
    (K : ∀ (T' : State) (L : List Loc) (v : Option Value), Stand p l e R s m args below meth c T' (locs ++ L) (cells + rm.cells) (slots + rm.slots) → Qc v T'.heap L → Go p e below s Q ce sl T' (mkF m q ls (v.toList ++ rest))) : Go p e below s Q ce sl T (mkF m pc ls st) := by
  subst hp
  obtain ⟨cq, kq, qa, qb, qc⟩ := isOf hZ eT E
  obtain ⟨v, _, ⟨T', L', k', n'⟩, -, X', ⟨Lc, hQ, l1, y1, z1⟩, stp⟩ := X.virtualBack hx (y := y) (z := z) hown (mvT hZ w1) (mvT hZ w2) hnf (mvT hZ w3) (mvT hZ w5) hy (backOf (W := W) hM hZ w4 w6 hf hl) qa qc (g := mkF m pc ls st) rfl hsz (Steps.refl _) (argsL := argsL) (rest := rest) hlen hst (by show 2 * 0 + _ ≤ _; omega) hd (fun _ _ => ⟨rfl, eT, hc, hs⟩)
  dsimp only [Pt.U, Pt.locs, Pt.cells, Pt.slots] at X' l1 y1 z1 stp hQ
  subst l1 y1 z1
  exact (K T' Lc v X' hQ).to fun t r => stp.trans r
end OwnWalk

section OwnHeap
variable {p : Program} {l : Launch} {e : Env} {R : Room} {s : State} {m : MethodId} {args : Array Value} {below : List Frame} {meth : Method} {c : Code} {T : State} {locs : List Loc} {cells slots : Nat} {Z : State} {h : Heap} {Q : Option Value → Heap → List Loc → Prop} {ce sl : Nat} {pc q q' : Nat} {ls : Array Slot} {st : List Value} {a0 : Array Value} {n0 : Nat} {a : Addr}
theorem go_getS (X : Stand p l e R s m args below meth c T locs cells slots) (hx : p.tables.exec = Jvm.exec) (hZ : Z.Warmed39 s.vm) {own R0 O n d host : String} {index : Nat} (hown : s.vm.findClass own = some m.cls) (w : (Jvm.Cond.fieldLink own index R0 n d).before a0 Z = true ∨ (Jvm.Cond.fieldLinkNest own index R0 n d host).before a0 Z = true) (via : Via Z R0 O n d) (eT : T.heap = h) {v : Value} (F : Sta Z h O n d v) (hd : decode c.code pc = .ok (.getstatic index, 3)) (hp : pc + 3 = q) (K : ∀ T', Stand p l e R s m args below meth c T' locs cells slots → T'.heap = h → Go p e below s Q ce sl T' (mkF m q ls (v :: st))) : Go p e below s Q ce sl T (mkF m pc ls st) := by
  subst hp
  obtain ⟨T', X', e', st'⟩ := getS2 X hx hZ hown w via eT F (g := mkF m pc ls st) rfl hd
  exact (K T' X' e').to fun t r => st' t r
theorem go_getF (X : Stand p l e R s m args below meth c T locs cells slots) (hx : p.tables.exec = Jvm.exec) (hZ : Z.Warmed39 s.vm) {own R0 O n d host : String} {index : Nat} (hown : s.vm.findClass own = some m.cls) (w : (Jvm.Cond.fieldLink own index R0 n d).before a0 Z = true ∨ (Jvm.Cond.fieldLinkNest own index R0 n d host).before a0 Z = true) (via : Via Z R0 O n d) (eT : T.heap = h) {v : Value} (F : Fld Z h a O n d v) (hd : decode c.code pc = .ok (.getfield index, 3)) (hp : pc + 3 = q) (K : ∀ T', Stand p l e R s m args below meth c T' locs cells slots → T'.heap = h → Go p e below s Q ce sl T' (mkF m q ls (v :: st))) : Go p e below s Q ce sl T (mkF m pc ls (.ref a :: st)) := by
  subst hp
  obtain ⟨T', X', e', st'⟩ := getF X hx hZ hown w via eT F (g := mkF m pc ls (.ref a :: st)) rfl rfl hd
  exact (K T' X' e').to fun t r => st' t r
theorem go_putF (X : Stand p l e R s m args below meth c T locs cells slots) (hx : p.tables.exec = Jvm.exec) (hZ : Z.Warmed39 s.vm) {own R0 O n d host : String} {index : Nat} (hown : s.vm.findClass own = some m.cls) (w : (Jvm.Cond.fieldLink own index R0 n d).before a0 Z = true ∨ (Jvm.Cond.fieldLinkNest own index R0 n d host).before a0 Z = true) (via : Via Z R0 O n d) (eT : T.heap = h) {C : String} {kk : Nat} {ty : FieldType} {v old : Value} (F : Fld Z h a O n d old) (E : Exa Z h a C) (L : (Jvm.Cond.lays C O n d).before a0 Z = true ∨ ((Jvm.Cond.laysFinal C O n d).before a0 Z = true ∧ own = O ∧ meth.name = "<init>")) (wi : (Jvm.Cond.instantiable C kk).before a0 Z = true) (hty : parseFieldDescriptor d = some ty) (hn : narrow ty v = v) (hf : fits ty v = true) (N : Fr n0 locs) (ha : n0 ≤ a) (hd : decode c.code pc = .ok (.putfield index, 3)) (hp : pc + 3 = q)
    (K : ∀ T' h' locs', Stand p l e R s m args below meth c T' locs' cells slots → Fr n0 locs' → T'.heap = h' → Wr h h' a (Jvm.RoadKit.slotOf Z O n d) v → Go p e below s Q ce sl T' (mkF m q ls st)) : Go p e below s Q ce sl T (mkF m pc ls (v :: .ref a :: st)) := by
  subst hp
  obtain ⟨T', h', X', e', W', st'⟩ := putF X hx hZ hown w via eT F E L wi hty hn hf (g := mkF m pc ls (v :: .ref a :: st)) rfl rfl hd
  exact (K T' h' _ X' (Fr.snoc X' N ha) e' W').to fun t r => st' t r
theorem go_newO (X : Stand p l e R s m args below meth c T locs cells slots) (hx : p.tables.exec = Jvm.exec) (hZ : Z.Warmed39 s.vm) {own C : String} {index n : Nat} (hown : s.vm.findClass own = some m.cls) (w : (Jvm.Cond.classLink own index C).before a0 Z = true) (wi : (Jvm.Cond.instantiable C n).before a0 Z = true) (wz : (Jvm.Cond.initialized C).before a0 Z = true) (eT : T.heap = h) (hd : decode c.code pc = .ok (.new index, 3)) (hp : pc + 3 = q) (hc : cells + 1 ≤ R.cells) (hl : slots + n ≤ R.slots)
    (K : ∀ T' h' b, b = h.size → Stand p l e R s m args below meth c T' locs (cells + 1) (slots + n) → T'.heap = h' → Ext h h' → Exa Z h' b C → (∀ {O nm d : String} {ty : FieldType}, Laid Z a0 C O nm d → parseFieldDescriptor d = some ty → Fld Z h' b O nm d (defaultValue ty)) → Go p e below s Q ce sl T' (mkF m q ls (.ref b :: st))) : Go p e below s Q ce sl T (mkF m pc ls st) := by
  subst hp
  obtain ⟨T', h', X', e', E', A', D', -, st'⟩ := newO X hx hZ hown w wi wz eT (g := mkF m pc ls st) rfl hd hc hl
  exact (K T' h' _ rfl X' e' E' A' D').to fun t r => st' t r
theorem go_newP (X : Stand p l e R s m args below meth c T locs cells slots) (hx : p.tables.exec = Jvm.exec) (hZ : Z.Warmed39 s.vm) {aty : ArrayType} (w : (Jvm.Cond.arrayClass (newarray.typeOf aty)).before a0 Z = true) (eT : T.heap = h) (hd : decode c.code pc = .ok (.newarray aty, 2)) (hp : pc + 2 = q) {n : Int32} (hn : ¬ n < 0) (cap : Nat) (hcap : n.toNatClampNeg ≤ cap) (hb : cap * 8 ≤ 536870912) (hc : cells + 1 ≤ R.cells) (hl : slots + cap ≤ R.slots)
    (K : ∀ T' h' kc b, b = h.size → Stand p l e R s m args below meth c T' locs (cells + 1) (slots + cap) → T'.heap = h' → Ext h h' → Arv Z h' b kc (newarray.typeOf aty) n [] (defaultValue (newarray.typeOf aty)) → Go p e below s Q ce sl T' (mkF m q ls (.ref b :: st))) : Go p e below s Q ce sl T (mkF m pc ls (.int n :: st)) := by
  subst hp
  obtain ⟨T', h', kc, X', e', E', A', st'⟩ := newP X hx hZ w eT (g := mkF m pc ls (.int n :: st)) rfl hd rfl hn (cap := cap) hcap hb hc hl
  exact (K T' h' kc _ rfl X' e' E' (Arv.new A' hn)).to fun t r => st' t r
theorem go_initO (X : Stand p l e R s m args below meth c T locs cells slots) (hx : p.tables.exec = Jvm.exec) (hZ : Z.Warmed39 s.vm) {own : String} {index W : Nat} (hown : s.vm.findClass own = some m.cls) (w1 : (Jvm.Cond.methodLink own index Lib.objectInit).before a0 Z = true) (w2 : (Jvm.Cond.instanceMethod Lib.objectInit).before a0 Z = true) (w3 : (Jvm.Cond.code Lib.objectInit ⟨#[0xb1]⟩ 1 none).before a0 Z = true) (eT : T.heap = h) (hsz : ls.size = c.maxLocals) (hd : decode c.code pc = .ok (.invokespecial index, 3)) (hp : pc + 3 = q) (hf : 1 ≤ R.frames) (hW : (st.map fun v => v.category).sum ≤ W) (hl : W + 12 ≤ R.locals) (K : ∀ T', Stand p l e R s m args below meth c T' locs cells slots → T'.heap = h → Go p e below s Q ce sl T' (mkF m q ls st)) : Go p e below s Q ce sl T (mkF m pc ls (.ref a :: st)) := by
  subst hp
  obtain ⟨T', X', e', st'⟩ := initO X hx hZ hown w1 w2 w3 eT (g := mkF m pc ls (.ref a :: st)) rfl hsz rfl hd hf (W := W) (by show 2 * 0 + _ ≤ _; omega) hl
  exact (K T' X' e').to fun t r => st' t r
theorem go_iaload (X : Stand p l e R s m args below meth c T locs cells slots) (hx : p.tables.exec = Jvm.exec) (hZ : Z.Warmed39 s.vm) (eT : T.heap = h) {k : ClassId} {z j : Int32} {vs : List Value} {dv : Value} {v : Value} (F : Arv Z h a k .int z vs dv) (hj : ¬ j < 0 ∧ j < z) (hv : vs.getD j.toNatClampNeg dv = v) (hd : decode c.code pc = .ok (.iaload, 1)) (hp : pc + 1 = q) (K : Go p e below s Q ce sl T (mkF m q ls (v :: st))) : Go p e below s Q ce sl T (mkF m pc ls (.int j :: .ref a :: st)) := by
  subst hp
  obtain ⟨cl, A, -, S, -, H, -⟩ := F
  exact K.to fun t r => X.iaload hx (by rw [eT]; exact A.1) (State.isArrayOf_alike hZ.alike A.2.1) A.2.2 (inb_of S hj) (H.at (inb_of S hj) hv) (g := mkF m pc ls (.int j :: .ref a :: st)) rfl rfl hd t r
theorem go_daload (X : Stand p l e R s m args below meth c T locs cells slots) (hx : p.tables.exec = Jvm.exec) (hZ : Z.Warmed39 s.vm) (eT : T.heap = h) {k : ClassId} {z j : Int32} {vs : List Value} {dv : Value} {v : Value} (F : Arv Z h a k .double z vs dv) (hj : ¬ j < 0 ∧ j < z) (hv : vs.getD j.toNatClampNeg dv = v) (hd : decode c.code pc = .ok (.daload, 1)) (hp : pc + 1 = q) (K : Go p e below s Q ce sl T (mkF m q ls (v :: st))) : Go p e below s Q ce sl T (mkF m pc ls (.int j :: .ref a :: st)) := by
  subst hp
  obtain ⟨cl, A, -, S, -, H, -⟩ := F
  exact K.to fun t r => X.daload hx (by rw [eT]; exact A.1) (State.isArrayOf_alike hZ.alike A.2.1) A.2.2 (inb_of S hj) (H.at (inb_of S hj) hv) (g := mkF m pc ls (.int j :: .ref a :: st)) rfl rfl hd t r
theorem go_faload (X : Stand p l e R s m args below meth c T locs cells slots) (hx : p.tables.exec = Jvm.exec) (hZ : Z.Warmed39 s.vm) (eT : T.heap = h) {k : ClassId} {z j : Int32} {vs : List Value} {dv : Value} {v : Value} (F : Arv Z h a k .float z vs dv) (hj : ¬ j < 0 ∧ j < z) (hv : vs.getD j.toNatClampNeg dv = v) (hd : decode c.code pc = .ok (.faload, 1)) (hp : pc + 1 = q) (K : Go p e below s Q ce sl T (mkF m q ls (v :: st))) : Go p e below s Q ce sl T (mkF m pc ls (.int j :: .ref a :: st)) := by
  subst hp
  obtain ⟨cl, A, -, S, -, H, -⟩ := F
  exact K.to fun t r => X.faload hx (by rw [eT]; exact A.1) (State.isArrayOf_alike hZ.alike A.2.1) A.2.2 (inb_of S hj) (H.at (inb_of S hj) hv) (g := mkF m pc ls (.int j :: .ref a :: st)) rfl rfl hd t r
theorem go_baload (X : Stand p l e R s m args below meth c T locs cells slots) (hx : p.tables.exec = Jvm.exec) (hZ : Z.Warmed39 s.vm) (eT : T.heap = h) {k : ClassId} {z j : Int32} {vs : List Value} {dv : Value} {v : Value} (F : Arv Z h a k .boolean z vs dv) (hj : ¬ j < 0 ∧ j < z) (hv : vs.getD j.toNatClampNeg dv = v) (hd : decode c.code pc = .ok (.baload, 1)) (hp : pc + 1 = q) (K : Go p e below s Q ce sl T (mkF m q ls (v :: st))) : Go p e below s Q ce sl T (mkF m pc ls (.int j :: .ref a :: st)) := by
  subst hp
  obtain ⟨cl, A, -, S, -, H, -⟩ := F
  exact K.to fun t r => X.baloadBooleans hx (by rw [eT]; exact A.1) (State.isArrayOf_alike hZ.alike A.2.1) A.2.2 (inb_of S hj) (H.at (inb_of S hj) hv) (g := mkF m pc ls (.int j :: .ref a :: st)) rfl rfl hd t r
theorem go_baloadB (X : Stand p l e R s m args below meth c T locs cells slots) (hx : p.tables.exec = Jvm.exec) (hZ : Z.Warmed39 s.vm) (eT : T.heap = h) {k : ClassId} {z j : Int32} {vs : List Value} {dv : Value} {v : Value} (F : Arv Z h a k .byte z vs dv) (hj : ¬ j < 0 ∧ j < z) (hv : vs.getD j.toNatClampNeg dv = v) (hd : decode c.code pc = .ok (.baload, 1)) (hp : pc + 1 = q) (K : Go p e below s Q ce sl T (mkF m q ls (v :: st))) : Go p e below s Q ce sl T (mkF m pc ls (.int j :: .ref a :: st)) := by
  subst hp
  obtain ⟨cl, A, -, S, -, H, -⟩ := F
  exact K.to fun t r => X.baloadBytes hx (by rw [eT]; exact A.1) (State.isArrayOf_alike hZ.alike A.2.1) A.2.2 (inb_of S hj) (H.at (inb_of S hj) hv) (g := mkF m pc ls (.int j :: .ref a :: st)) rfl rfl hd t r
theorem go_caload (X : Stand p l e R s m args below meth c T locs cells slots) (hx : p.tables.exec = Jvm.exec) (hZ : Z.Warmed39 s.vm) (eT : T.heap = h) {k : ClassId} {z j : Int32} {vs : List Value} {dv : Value} {v : Value} (F : Arv Z h a k .char z vs dv) (hj : ¬ j < 0 ∧ j < z) (hv : vs.getD j.toNatClampNeg dv = v) (hd : decode c.code pc = .ok (.caload, 1)) (hp : pc + 1 = q) (K : Go p e below s Q ce sl T (mkF m q ls (v :: st))) : Go p e below s Q ce sl T (mkF m pc ls (.int j :: .ref a :: st)) := by
  subst hp
  obtain ⟨cl, A, -, S, -, H, -⟩ := F
  exact K.to fun t r => X.caload hx (by rw [eT]; exact A.1) (State.isArrayOf_alike hZ.alike A.2.1) A.2.2 (inb_of S hj) (H.at (inb_of S hj) hv) (g := mkF m pc ls (.int j :: .ref a :: st)) rfl rfl hd t r
theorem go_alen (X : Stand p l e R s m args below meth c T locs cells slots) (hx : p.tables.exec = Jvm.exec) (hZ : Z.Warmed39 s.vm) (eT : T.heap = h) {k : ClassId} {z : Int32} {vs : List Value} {dv : Value} {ty : FieldType} (F : Arv Z h a k ty z vs dv) (hd : decode c.code pc = .ok (.arraylength, 1)) (hp : pc + 1 = q) (K : Go p e below s Q ce sl T (mkF m q ls (.int z :: st))) : Go p e below s Q ce sl T (mkF m pc ls (.ref a :: st)) := by
  subst hp
  obtain ⟨cl, A, -, S, N, -, -⟩ := F
  exact K.to fun t r => X.arraylength hx (by rw [eT]; exact A.1) (State.isArrayOf_alike hZ.alike A.2.1) (g := mkF m pc ls (.ref a :: st)) rfl rfl hd t (by rw [len_of S N]; exact r)
theorem go_iastore (X : Stand p l e R s m args below meth c T locs cells slots) (hx : p.tables.exec = Jvm.exec) (hZ : Z.Warmed39 s.vm) (eT : T.heap = h) {k : ClassId} {z j : Int32} {vs : List Value} {dv : Value} {x : Int32} (F : Arv Z h a k .int z vs dv) (hj : ¬ j < 0 ∧ j < z) (i : Nat) (hi : j.toNatClampNeg = i) (hl : i < vs.length) (N : Fr n0 locs) (ha : n0 ≤ a) (hd : decode c.code pc = .ok (.iastore, 1)) (hp : pc + 1 = q)
    (K : ∀ T' h' locs', Stand p l e R s m args below meth c T' locs' cells slots → Fr n0 locs' → T'.heap = h' → Wr h h' a j.toNatClampNeg (.int x) → Arv Z h' a k .int z (vs.set i (.int x)) dv → Go p e below s Q ce sl T' (mkF m q ls st)) : Go p e below s Q ce sl T (mkF m pc ls ((.int x) :: .int j :: .ref a :: st)) := by
  subst hp
  obtain ⟨cl, A, q1, S, q3, H, G⟩ := F
  obtain ⟨T', h', X', e', W', st'⟩ := stI X hx hZ eT A (inb_of S hj) (g := mkF m pc ls ((.int x) :: .int j :: .ref a :: st)) rfl rfl hd
  exact (K T' h' _ X' (Fr.snoc X' N ha) e' W' (Arv.set A q1 S q3 H G rfl W' i hi hl)).to fun t r => st' t r
theorem go_dastore (X : Stand p l e R s m args below meth c T locs cells slots) (hx : p.tables.exec = Jvm.exec) (hZ : Z.Warmed39 s.vm) (eT : T.heap = h) {k : ClassId} {z j : Int32} {vs : List Value} {dv : Value} {x : UInt64} (F : Arv Z h a k .double z vs dv) (hj : ¬ j < 0 ∧ j < z) (i : Nat) (hi : j.toNatClampNeg = i) (hl : i < vs.length) (N : Fr n0 locs) (ha : n0 ≤ a) (hd : decode c.code pc = .ok (.dastore, 1)) (hp : pc + 1 = q)
    (K : ∀ T' h' locs', Stand p l e R s m args below meth c T' locs' cells slots → Fr n0 locs' → T'.heap = h' → Wr h h' a j.toNatClampNeg (.double x) → Arv Z h' a k .double z (vs.set i (.double x)) dv → Go p e below s Q ce sl T' (mkF m q ls st)) : Go p e below s Q ce sl T (mkF m pc ls ((.double x) :: .int j :: .ref a :: st)) := by
  subst hp
  obtain ⟨cl, A, q1, S, q3, H, G⟩ := F
  obtain ⟨T', h', X', e', W', st'⟩ := stD X hx hZ eT A (inb_of S hj) (g := mkF m pc ls ((.double x) :: .int j :: .ref a :: st)) rfl rfl hd
  exact (K T' h' _ X' (Fr.snoc X' N ha) e' W' (Arv.set A q1 S q3 H G rfl W' i hi hl)).to fun t r => st' t r
theorem go_fastore (X : Stand p l e R s m args below meth c T locs cells slots) (hx : p.tables.exec = Jvm.exec) (hZ : Z.Warmed39 s.vm) (eT : T.heap = h) {k : ClassId} {z j : Int32} {vs : List Value} {dv : Value} {x : UInt32} (F : Arv Z h a k .float z vs dv) (hj : ¬ j < 0 ∧ j < z) (i : Nat) (hi : j.toNatClampNeg = i) (hl : i < vs.length) (N : Fr n0 locs) (ha : n0 ≤ a) (hd : decode c.code pc = .ok (.fastore, 1)) (hp : pc + 1 = q)
    (K : ∀ T' h' locs', Stand p l e R s m args below meth c T' locs' cells slots → Fr n0 locs' → T'.heap = h' → Wr h h' a j.toNatClampNeg (.float x) → Arv Z h' a k .float z (vs.set i (.float x)) dv → Go p e below s Q ce sl T' (mkF m q ls st)) : Go p e below s Q ce sl T (mkF m pc ls ((.float x) :: .int j :: .ref a :: st)) := by
  subst hp
  obtain ⟨cl, A, q1, S, q3, H, G⟩ := F
  obtain ⟨T', h', X', e', W', st'⟩ := stF X hx hZ eT A (inb_of S hj) (g := mkF m pc ls ((.float x) :: .int j :: .ref a :: st)) rfl rfl hd
  exact (K T' h' _ X' (Fr.snoc X' N ha) e' W' (Arv.set A q1 S q3 H G rfl W' i hi hl)).to fun t r => st' t r
theorem go_bastore (X : Stand p l e R s m args below meth c T locs cells slots) (hx : p.tables.exec = Jvm.exec) (hZ : Z.Warmed39 s.vm) (eT : T.heap = h) {k : ClassId} {z j : Int32} {vs : List Value} {dv : Value} {x : Int32} (F : Arv Z h a k .boolean z vs dv) (hj : ¬ j < 0 ∧ j < z) (i : Nat) (hi : j.toNatClampNeg = i) (hl : i < vs.length) (N : Fr n0 locs) (ha : n0 ≤ a) (hd : decode c.code pc = .ok (.bastore, 1)) (hp : pc + 1 = q)
    (K : ∀ T' h' locs', Stand p l e R s m args below meth c T' locs' cells slots → Fr n0 locs' → T'.heap = h' → Wr h h' a j.toNatClampNeg (.int (nar .boolean x)) → Arv Z h' a k .boolean z (vs.set i (.int (nar .boolean x))) dv → Go p e below s Q ce sl T' (mkF m q ls st)) : Go p e below s Q ce sl T (mkF m pc ls ((.int x) :: .int j :: .ref a :: st)) := by
  subst hp
  obtain ⟨cl, A, q1, S, q3, H, G⟩ := F
  obtain ⟨T', h', X', e', W', st'⟩ := stZ X hx hZ eT A (inb_of S hj) (g := mkF m pc ls ((.int x) :: .int j :: .ref a :: st)) rfl rfl hd
  exact (K T' h' _ X' (Fr.snoc X' N ha) e' W' (Arv.set A q1 S q3 H G (fits_nar_bool _) W' i hi hl)).to fun t r => st' t r
theorem go_castore (X : Stand p l e R s m args below meth c T locs cells slots) (hx : p.tables.exec = Jvm.exec) (hZ : Z.Warmed39 s.vm) (eT : T.heap = h) {k : ClassId} {z j : Int32} {vs : List Value} {dv : Value} {x : Int32} (F : Arv Z h a k .char z vs dv) (hj : ¬ j < 0 ∧ j < z) (i : Nat) (hi : j.toNatClampNeg = i) (hl : i < vs.length) (N : Fr n0 locs) (ha : n0 ≤ a) (hd : decode c.code pc = .ok (.castore, 1)) (hp : pc + 1 = q)
    (K : ∀ T' h' locs', Stand p l e R s m args below meth c T' locs' cells slots → Fr n0 locs' → T'.heap = h' → Wr h h' a j.toNatClampNeg (.int (nar .char x)) → Arv Z h' a k .char z (vs.set i (.int (nar .char x))) dv → Go p e below s Q ce sl T' (mkF m q ls st)) : Go p e below s Q ce sl T (mkF m pc ls ((.int x) :: .int j :: .ref a :: st)) := by
  subst hp
  obtain ⟨cl, A, q1, S, q3, H, G⟩ := F
  obtain ⟨T', h', X', e', W', st'⟩ := stC X hx hZ eT A (inb_of S hj) (g := mkF m pc ls ((.int x) :: .int j :: .ref a :: st)) rfl rfl hd
  exact (K T' h' _ X' (Fr.snoc X' N ha) e' W' (Arv.set A q1 S q3 H G (fits_nar_char _) W' i hi hl)).to fun t r => st' t r
theorem go_bastoreB (X : Stand p l e R s m args below meth c T locs cells slots) (hx : p.tables.exec = Jvm.exec) (hZ : Z.Warmed39 s.vm) (eT : T.heap = h) {k : ClassId} {z j : Int32} {vs : List Value} {dv : Value} {x : Int32} (F : Arv Z h a k .byte z vs dv) (hj : ¬ j < 0 ∧ j < z) (i : Nat) (hi : j.toNatClampNeg = i) (hl : i < vs.length) (N : Fr n0 locs) (ha : n0 ≤ a) (hd : decode c.code pc = .ok (.bastore, 1)) (hp : pc + 1 = q)
    (K : ∀ T' h' locs', Stand p l e R s m args below meth c T' locs' cells slots → Fr n0 locs' → T'.heap = h' → Wr h h' a j.toNatClampNeg (.int (nar .byte x)) → Arv Z h' a k .byte z (vs.set i (.int (nar .byte x))) dv → Go p e below s Q ce sl T' (mkF m q ls st)) : Go p e below s Q ce sl T (mkF m pc ls ((.int x) :: .int j :: .ref a :: st)) := by
  subst hp
  obtain ⟨cl, A, q1, S, q3, H, G⟩ := F
  obtain ⟨T', h', X', e', W', st'⟩ := stB X hx hZ eT A (inb_of S hj) (g := mkF m pc ls ((.int x) :: .int j :: .ref a :: st)) rfl rfl hd
  exact (K T' h' _ X' (Fr.snoc X' N ha) e' W' (Arv.set A q1 S q3 H G (fits_nar_byte _) W' i hi hl)).to fun t r => st' t r
theorem go_acmp_eq (X : Stand p l e R s m args below meth c T locs cells slots) (hx : p.tables.exec = Jvm.exec) {x y : Value} (h1 : x.isRef = true) (h2 : y.isRef = true) {o : Int} (hd : decode c.code pc = .ok (.if_acmp .eq o, 3)) (hp : pc + 3 = q) (ho : 0 ≤ (pc : Int) + o) (hq : ((pc : Int) + o).toNat = q') (KY : x = y → Go p e below s Q ce sl T (mkF m q' ls st)) (KN : ¬ x = y → Go p e below s Q ce sl T (mkF m q ls st)) : Go p e below s Q ce sl T (mkF m pc ls (y :: x :: st)) := by
  subst hp hq
  by_cases w : x = y
  · exact (KY w).to fun t r => Jvm.RoadKit.acmp (g := mkF m pc ls (y :: x :: st)) X hx rfl h1 h2 (pc0 := pc) (same := true) rfl hd rfl (decide_eq_true w) ho rfl r
  · exact (KN w).to fun t r => Jvm.RoadKit.acmp (g := mkF m pc ls (y :: x :: st)) X hx rfl h1 h2 (pc0 := pc) (same := false) rfl hd rfl (decide_eq_false w) ho rfl r
theorem go_acmp_ne (X : Stand p l e R s m args below meth c T locs cells slots) (hx : p.tables.exec = Jvm.exec) {x y : Value} (h1 : x.isRef = true) (h2 : y.isRef = true) {o : Int} (hd : decode c.code pc = .ok (.if_acmp .ne o, 3)) (hp : pc + 3 = q) (ho : 0 ≤ (pc : Int) + o) (hq : ((pc : Int) + o).toNat = q') (KY : ¬ x = y → Go p e below s Q ce sl T (mkF m q' ls st)) (KN : x = y → Go p e below s Q ce sl T (mkF m q ls st)) : Go p e below s Q ce sl T (mkF m pc ls (y :: x :: st)) := by
  subst hp hq
  by_cases w : x = y
  · exact (KN w).to fun t r => Jvm.RoadKit.acmp (g := mkF m pc ls (y :: x :: st)) X hx rfl h1 h2 (pc0 := pc) (same := true) rfl hd rfl (decide_eq_true w) ho rfl r
  · exact (KY w).to fun t r => Jvm.RoadKit.acmp (g := mkF m pc ls (y :: x :: st)) X hx rfl h1 h2 (pc0 := pc) (same := false) rfl hd rfl (decide_eq_false w) ho rfl r
theorem go_ifnullR (X : Stand p l e R s m args below meth c T locs cells slots) (hx : p.tables.exec = Jvm.exec) {b : Addr} {o : Int} (hd : decode c.code pc = .ok (.ifnull o, 3)) (hp : pc + 3 = q) (K : Go p e below s Q ce sl T (mkF m q ls st)) : Go p e below s Q ce sl T (mkF m pc ls (.ref b :: st)) := by
  subst hp
  exact K.to fun t r => XS.ifnullNo X.here hx rfl hd rfl r
theorem go_ifnonnullR (X : Stand p l e R s m args below meth c T locs cells slots) (hx : p.tables.exec = Jvm.exec) {b : Addr} {o : Int} (hd : decode c.code pc = .ok (.ifnonnull o, 3)) (ho : 0 ≤ (pc : Int) + o) (hq : ((pc : Int) + o).toNat = q') (K : Go p e below s Q ce sl T (mkF m q' ls st)) : Go p e below s Q ce sl T (mkF m pc ls (.ref b :: st)) :=
  K.to fun t r => XS.ifnonnullYes X.here hx rfl (pc0 := pc) rfl hd rfl ho hq r
theorem go_tsw (X : Stand p l e R s m args below meth c T locs cells slots) (hx : p.tables.exec = Jvm.exec) {dflt low high off : Int} {offs : Array Int} {len : Nat} {i : Int32} (hd : decode c.code pc = .ok (.tableswitch dflt low high offs, len)) (hin : ¬ (i.toInt < low ∨ i.toInt > high)) (hoff : offs[(i.toInt - low).toNat]? = some off) (ho : 0 ≤ (pc : Int) + off) (hq : ((pc : Int) + off).toNat = q) (K : Go p e below s Q ce sl T (mkF m q ls st)) : Go p e below s Q ce sl T (mkF m pc ls (.int i :: st)) :=
  K.to fun t r => XS.tswIn X.here hx rfl (pc0 := pc) rfl hd rfl hin hoff ho hq r
theorem go_callVU (X : Stand p l e R s m args below meth c T locs cells slots) (hx : p.tables.exec = Jvm.exec) (hZ : Z.Warmed39 s.vm) {own C owner : String} {index : Nat} {y : MethodName} {bytes : ByteArray} {maxL : Nat} {ret : Option FieldType} {rm : Room} {W : Nat} {Qc : Option Value → Heap → List Loc → Prop} {z : MethodName} (hown : s.vm.findClass own = some m.cls) (eT : T.heap = h)
    (w1 : (Jvm.Cond.methodLink own index y).before a0 Z = true) (w2 : (Jvm.Cond.sameMethod y.cls owner y.name y.desc).before a0 Z = true) (w7 : (Jvm.Cond.declares ⟨owner, y.name, y.desc⟩).before a0 Z = true) (hy : owner ≠ "java/lang/invoke/MethodHandle" ∧ owner ≠ "java/lang/invoke/VarHandle") (w3 : (Jvm.Cond.selects C y z).before a0 Z = true) (w5 : (Jvm.Cond.instanceMethod z).before a0 Z = true) (w6 : (Jvm.Cond.initialized z.cls).before a0 Z = true) (w4 : (Jvm.Cond.code z bytes maxL ret).before a0 Z = true)
    (a : Addr) (argsL rest : List Value) (E : Exa Z h a C) (hM : Con l z bytes maxL ret [] rm Z (.ref a :: argsL).toArray h Qc) (hsz : ls.size = c.maxLocals) (hst : st = argsL.reverse ++ .ref a :: rest) (hlen : ∀ sig, parseMethodDescriptor y.desc = some sig → argsL.length = sig.parameters.length) (hW : (rest.map fun v => v.category).sum ≤ W)
    (hf : rm.frames + 1 ≤ R.frames) (hl : W + (maxL + 11) + rm.locals ≤ R.locals) (hd : decode c.code pc = .ok (.invokevirtual index, 3)) (hp : pc + 3 = q) (hc : cells + rm.cells ≤ R.cells) (hs : slots + rm.slots ≤ R.slots)
    (K : ∀ (T' : State) (L : List Loc) (v : Option Value), Stand p l e R s m args below meth c T' (locs ++ L) (cells + rm.cells) (slots + rm.slots) → Qc v T'.heap L → Go p e below s Q ce sl T' (mkF m q ls (v.toList ++ rest))) : Go p e below s Q ce sl T (mkF m pc ls st) := by
  subst hp
  obtain ⟨cq, kq, qa, qb, qc⟩ := isOf hZ eT E
  obtain ⟨v, _, ⟨T', L', k', n'⟩, -, X', ⟨Lc, hQ, l1, y1, z1⟩, stp⟩ := X.virtualBackUp hx (x := y) (y := z) hown (mvT hZ w1) (mvT hZ w2) (mvT hZ w7) hy (mvT hZ w3) (mvT hZ w5) (backOf (W := W) hM hZ w4 w6 hf hl) qa qc (g := mkF m pc ls st) rfl hsz (Steps.refl _) (argsL := argsL) (rest := rest) hlen hst (by show 2 * 0 + _ ≤ _; omega) hd (fun _ _ => ⟨rfl, eT, hc, hs⟩)
  dsimp only [Pt.U, Pt.locs, Pt.cells, Pt.slots] at X' l1 y1 z1 stp hQ
  subst l1 y1 z1
  exact (K T' Lc v X' hQ).to fun t r => stp.trans r
end OwnHeap

section OwnFloat
open Jvm.FP Jvm.FP.Core
/-- the datum with its exponent moved down by k -/
def sh (k : Int) : Datum → Datum
  | .fin s c q => .fin s c (q - k)
  | d => d
/-- the datum's value is i * 2^k -/
def Dy (k i : Int) (d : Datum) : Prop := Whole i (sh k d)
theorem dy_zero_iff {i : Int} {d : Datum} : Dy 0 i d ↔ Whole i d := by
  cases d <;> simp [Dy, sh]
theorem sh_sum (k : Int) (x y : Datum) : exactSum (sh k x) (sh k y) = sh k (exactSum x y) := by
  cases x <;> cases y <;> try rfl
  · rename_i a b; by_cases q : a = b <;> simp [sh, exactSum, q]
  · rename_i s c q t d r
    have e1 : min (q - k) (r - k) = min q r - k := by omega
    have e2 : q - k - (min q r - k) = q - min q r := by omega
    have e3 : r - k - (min q r - k) = r - min q r := by omega
    simp [sh, exactSum, sumUnits, inUnits, e1, e2, e3]
theorem sh_product (k l : Int) {x y : Datum} {s t : Bool} {c d : Nat} {q r : Int} (hx : x = .fin s c q) (hy : y = .fin t d r) : exactProduct (sh k x) (sh l y) = sh (k + l) (exactProduct x y) := by
  subst hx hy
  have e1 : q - k + (r - l) = q + r - (k + l) := by omega
  simp [sh, exactProduct, e1]
theorem sh_negate (k : Int) (x : Datum) : negate (sh k x) = sh k (negate x) := by cases x <;> rfl
theorem sh_order (k : Int) (x y : Datum) : order (sh k x) (sh k y) = order x y := by
  cases x <;> cases y <;> try rfl
  rename_i s c q t d r
  have e1 : min (q - k) (r - k) = min q r - k := by omega
  have e2 : q - k - (min q r - k) = q - min q r := by omega
  have e3 : r - k - (min q r - k) = r - min q r := by omega
  simp [sh, order, inUnits, e1, e2, e3]
theorem dy_fin {k i : Int} {d : Datum} (h : Dy k i d) : ∃ s c q, d = .fin s c q := by
  cases d with
  | nan => exact h.elim
  | inf s => exact h.elim
  | fin s c q => exact ⟨s, c, q, rfl⟩
theorem dy_sum {k i j : Int} {x y : Datum} (hx : Dy k i x) (hy : Dy k j y) : Dy k (i + j) (exactSum x y) := by
  unfold Dy; rw [← sh_sum]; exact whole_sum hx hy
theorem dy_negate {k i : Int} {x : Datum} (hx : Dy k i x) : Dy k (-i) (negate x) := by
  unfold Dy; rw [← sh_negate]; exact whole_negate hx
theorem dy_product {k l i j : Int} {x y : Datum} (hx : Dy k i x) (hy : Dy l j y) : Dy (k + l) (i * j) (exactProduct x y) := by
  obtain ⟨s, c, q, ex⟩ := dy_fin hx
  obtain ⟨t, d, r, ey⟩ := dy_fin hy
  unfold Dy; rw [← sh_product k l ex ey]; exact whole_product hx hy
theorem dy_order {k i j : Int} {x y : Datum} (hx : Dy k i x) (hy : Dy k j y) : order x y = some (compare i j) := by
  rw [← sh_order k]; exact order_whole hx hy
/-- c * 2^q and A * 2^k are alike: by differences, or with both exponents raised -/
theorem p2 {c A : Nat} {q k : Int} (N : Nat) (h1 : 0 ≤ q + N) (h2 : 0 ≤ k + N) : c * 2 ^ (q - k).toNat = A * 2 ^ (k - q).toNat ↔ c * 2 ^ (q + N).toNat = A * 2 ^ (k + N).toNat := by
  rcases Int.le_total q k with hqk | hqk
  · have e1 : (q - k).toNat = 0 := by omega
    have e2 : (k + N).toNat = (k - q).toNat + (q + N).toNat := by omega
    rw [e1, e2, Nat.pow_zero, Nat.mul_one, Nat.pow_add, ← Nat.mul_assoc]
    exact ⟨fun h => by rw [h], fun h => Nat.eq_of_mul_eq_mul_right (Nat.two_pow_pos _) h⟩
  · have e1 : (k - q).toNat = 0 := by omega
    have e2 : (q + N).toNat = (q - k).toNat + (k + N).toNat := by omega
    rw [e1, e2, Nat.pow_zero, Nat.mul_one, Nat.pow_add, ← Nat.mul_assoc]
    exact ⟨fun h => by rw [h], fun h => Nat.eq_of_mul_eq_mul_right (Nat.two_pow_pos _) h⟩
theorem dy_abs {k i : Int} {s : Bool} {c : Nat} {q : Int} (h : Dy k i (.fin s c q)) : c * 2 ^ (q - k).toNat = i.natAbs * 2 ^ (k - q).toNat := by
  have h' : signed s (c * 2 ^ (q - k).toNat) = i * ((2 ^ (-(q - k)).toNat : Nat) : Int) := h
  have e := congrArg Int.natAbs h'
  rw [natAbs_signed, Int.natAbs_mul, Int.natAbs_natCast, show -(q - k) = k - q by omega] at e
  exact e
theorem dy_sgn {k i : Int} {s : Bool} {c : Nat} {q : Int} (h : Dy k i (.fin s c q)) : signed s i.natAbs = i := by
  have h' : signed s (c * 2 ^ (q - k).toNat) = i * ((2 ^ (-(q - k)).toNat : Nat) : Int) := h
  rw [dy_abs h, signed_mul, show -(q - k) = k - q by omega] at h'
  exact Int.eq_of_mul_eq_mul_right (by have := Nat.two_pow_pos (k - q).toNat; omega) h'
theorem dy_mk {k i : Int} {s : Bool} {c : Nat} {q : Int} (h1 : c * 2 ^ (q - k).toNat = i.natAbs * 2 ^ (k - q).toNat) (h2 : signed s i.natAbs = i) : Dy k i (.fin s c q) := by
  show signed s (c * 2 ^ (q - k).toNat) = i * ((2 ^ (-(q - k)).toNat : Nat) : Int)
  rw [h1, signed_mul, h2, show -(q - k) = k - q by omega]
theorem dy_of_units {k i : Int} {s : Bool} {c' : Nat} {q' : Int} (hq : -1074 ≤ q') (hk : -1074 ≤ k) (e2 : inUnits c' q' (-1074) = inUnits i.natAbs k (-1074)) (h2 : signed s i.natAbs = i) : Dy k i (.fin s c' q') := by
  refine dy_mk ?_ h2
  rw [p2 1074 (by omega) (by omega)]
  unfold inUnits at e2
  rw [show q' - -1074 = q' + (1074 : Nat) by omega, show k - -1074 = k + (1074 : Nat) by omega] at e2
  exact e2
theorem dy_roundRatio {k m : Int} {S : Bool} {c d : Nat} {e : Int} (hd : 0 < d) (h : c * 2 ^ (e - k).toNat = m.natAbs * d * 2 ^ (k - e).toNat) (hm : m.natAbs < 2 ^ 53) (k1 : -1074 ≤ k) (k2 : k ≤ 971) (h2 : signed S m.natAbs = m) : Dy k m (roundRatio b64 S c d e) := by
  have hr : roundRatio b64 S c d e = round b64 (.fin S m.natAbs k) := roundRatio_congr (A := c) (B := d) (A' := m.natAbs) (B' := 1) (e := e) (e' := k) hd (by decide) (by rw [Nat.mul_one]; exact h)
  obtain ⟨c', q', e1, e2⟩ := round_exact good_b64 S (c := m.natAbs) (q := k) hm (by rw [qmin_b64]; exact k1) (by show k ≤ 971; exact k2)
  have hf : Core.fits b64 (.fin S c' q') := by rw [← e1]; exact round_fits good_b64 _
  have hq : -1074 ≤ q' := by have := hf.2.1; rw [qmin_b64] at this; exact this
  rw [hr, e1]
  rw [qmin_b64] at e2
  exact dy_of_units hq k1 e2 h2
theorem dy_round {k i : Int} {d : Datum} (h : Dy k i d) (hi : i.natAbs < 2 ^ 53) (k1 : -1074 ≤ k) (k2 : k ≤ 971) : Dy k i (round b64 d) := by
  obtain ⟨s, c, q, rfl⟩ := dy_fin h
  exact dy_roundRatio (d := 1) (by decide) (by rw [Nat.mul_one]; exact dy_abs h) hi k1 k2 (dy_sgn h)
theorem signed_xor1 (s t : Bool) (a b : Nat) : signed (s != t) (a * b) = signed s a * signed t b := signed_xor s t a b
theorem dy_quotient {k l i j m : Int} {x y : Datum} (hx : Dy k i x) (hy : Dy l j y) (hj : j ≠ 0) (hm : i = m * j) (hb : m.natAbs < 2 ^ 53) (k1 : -1074 ≤ k - l) (k2 : k - l ≤ 971) : Dy (k - l) m (quotient b64 x y) := by
  obtain ⟨s, c, q, rfl⟩ := dy_fin hx
  obtain ⟨t, d, r, rfl⟩ := dy_fin hy
  have a1 := dy_abs hx
  have a2 := dy_abs hy
  have jpos : 0 < j.natAbs := by omega
  have dpos : 0 < d := by
    rcases Nat.eq_zero_or_pos d with rfl | h
    · rw [Nat.zero_mul] at a2
      have := Nat.mul_pos jpos (Nat.two_pow_pos (l - r).toNat)
      omega
    · exact h
  have ea : i.natAbs = m.natAbs * j.natAbs := by rw [hm, Int.natAbs_mul]
  show Dy (k - l) m (if d = 0 then (if c = 0 then .nan else .inf (s != t)) else roundRatio b64 (s != t) c d (q - r))
  rw [if_neg (by omega)]
  refine dy_roundRatio dpos ?_ hb k1 k2 ?_
  · have N : Nat := 0
    obtain ⟨M, hM⟩ : ∃ M : Nat, 0 ≤ q + M ∧ 0 ≤ k + M ∧ 0 ≤ r + M ∧ 0 ≤ l + M := ⟨q.natAbs + k.natAbs + r.natAbs + l.natAbs, by omega, by omega, by omega, by omega⟩
    rw [p2 M hM.1 hM.2.1] at a1
    rw [p2 M hM.2.2.1 hM.2.2.2] at a2
    have e1 : q - r - (k - l) = (q + l) - (k + r) := by omega
    have e2 : k - l - (q - r) = (k + r) - (q + l) := by omega
    rw [e1, e2, p2 (2 * M) (by omega) (by omega)]
    have f1 : (q + l + ((2 * M : Nat) : Int)).toNat = (q + M).toNat + (l + M).toNat := by omega
    have f2 : (k + r + ((2 * M : Nat) : Int)).toNat = (k + M).toNat + (r + M).toNat := by omega
    rw [f1, f2, Nat.pow_add, Nat.pow_add]
    refine Nat.eq_of_mul_eq_mul_right jpos ?_
    calc c * (2 ^ (q + M).toNat * 2 ^ (l + M).toNat) * j.natAbs
        = (c * 2 ^ (q + M).toNat) * (j.natAbs * 2 ^ (l + M).toNat) := by ac_rfl
      _ = (i.natAbs * 2 ^ (k + M).toNat) * (d * 2 ^ (r + M).toNat) := by rw [a1, a2]
      _ = m.natAbs * d * (2 ^ (k + M).toNat * 2 ^ (r + M).toNat) * j.natAbs := by rw [ea]; ac_rfl
  · have s1 := dy_sgn hx
    have s2 := dy_sgn hy
    have s3 : signed (s != t) (i.natAbs * j.natAbs) = i * j := by rw [signed_xor, s1, s2]
    have e3 : i.natAbs * j.natAbs = m.natAbs * (j.natAbs * j.natAbs) := by rw [ea, Nat.mul_assoc]
    rw [e3, signed_mul, Int.natAbs_mul_self, hm, Int.mul_assoc] at s3
    exact Int.eq_of_mul_eq_mul_right (Int.mul_ne_zero hj hj) s3
theorem dy_scale {k i : Int} {d : Datum} (h : Dy k i d) (n : Nat) : Dy (k - n) (i * 2 ^ n) d := by
  obtain ⟨s, c, q, rfl⟩ := dy_fin h
  have a1 := dy_abs h
  have s1 := dy_sgn h
  have e0 : (i * 2 ^ n).natAbs = i.natAbs * 2 ^ n := by rw [Int.natAbs_mul, Int.natAbs_pow]; rfl
  refine dy_mk ?_ ?_
  · obtain ⟨M, h1, h2⟩ : ∃ M : Nat, 0 ≤ q + M ∧ 0 ≤ k - n + M := ⟨q.natAbs + k.natAbs + n, by omega, by omega⟩
    rw [p2 M h1 (by omega)] at a1
    rw [p2 M h1 h2, a1, e0]
    have : (k + (M : Int)).toNat = n + (k - n + M).toNat := by omega
    rw [this, Nat.pow_add, Nat.mul_assoc]
  · rw [e0, signed_mul, s1]; congr 1
/-- the double x is worth i * 2^k, and |i| is at most A -/
def DB (k : Int) (A : Nat) (i : Int) (x : UInt64) : Prop := Dy k i (val64 x) ∧ i.natAbs ≤ A
theorem DB.fin {k i : Int} {A : Nat} {x : UInt64} (h : DB k A i x) : DFin x := dy_fin h.1
theorem DB.nn {k i : Int} {A : Nat} {x : UInt64} (h : DB k A i x) : Jvm.Free.Fl.NoNaN64 x := Jvm.Free.Fl.noNaN64_no.mpr h.fin.notNaN
theorem DB.le {k i : Int} {A B : Nat} {x : UInt64} (h : DB k A i x) (hb : i.natAbs ≤ B) : DB k B i x := ⟨h.1, hb⟩
theorem DB.eqv {k i j : Int} {A : Nat} {x : UInt64} (h : DB k A i x) (e : i = j) : DB k A j x := e ▸ h
theorem db_add {k i j : Int} {A B : Nat} {x y : UInt64} (hx : DB k A i x) (hy : DB k B j y) (hA : A + B < 9007199254740992) (k1 : -1074 ≤ k) (k2 : k ≤ 971) : DB k (A + B) (i + j) (FP.dadd x y) := by
  have h1 := hx.2; have h2 := hy.2
  have hb : (i + j).natAbs ≤ A + B := by omega
  refine ⟨?_, hb⟩
  show Dy k (i + j) (val64 (Core.dadd x y))
  rw [val64_dadd]; exact dy_round (dy_sum hx.1 hy.1) (by omega) k1 k2
theorem db_sub {k i j : Int} {A B : Nat} {x y : UInt64} (hx : DB k A i x) (hy : DB k B j y) (hA : A + B < 9007199254740992) (k1 : -1074 ≤ k) (k2 : k ≤ 971) : DB k (A + B) (i - j) (FP.dsub x y) := by
  have h1 := hx.2; have h2 := hy.2
  have hb : (i - j).natAbs ≤ A + B := by omega
  refine ⟨?_, hb⟩
  show Dy k (i - j) (val64 (Core.dsub x y))
  rw [val64_dsub]; exact dy_round (by rw [Int.sub_eq_add_neg]; exact dy_sum hx.1 (dy_negate hy.1)) (by omega) k1 k2
theorem db_mul {k l i j : Int} {A B : Nat} {x y : UInt64} (hx : DB k A i x) (hy : DB l B j y) (hA : A * B < 9007199254740992) (k1 : -1074 ≤ k + l) (k2 : k + l ≤ 971) : DB (k + l) (A * B) (i * j) (FP.dmul x y) := by
  have hb : (i * j).natAbs ≤ A * B := by rw [Int.natAbs_mul]; exact Nat.mul_le_mul hx.2 hy.2
  refine ⟨?_, hb⟩
  show Dy (k + l) (i * j) (val64 (Core.dmul x y))
  rw [val64_dmul]; exact dy_round (dy_product hx.1 hy.1) (by omega) k1 k2
theorem db_div {k l i j : Int} {A B : Nat} {x y : UInt64} (m : Int) (hx : DB k A i x) (hy : DB l B j y) (hj : j ≠ 0) (hm : i = m * j) (hA : A < 9007199254740992) (k1 : -1074 ≤ k - l) (k2 : k - l ≤ 971) : DB (k - l) A m (FP.ddiv x y) := by
  have h1 : m.natAbs ≤ i.natAbs := by rw [hm, Int.natAbs_mul]; exact Nat.le_mul_of_pos_right _ (by omega)
  have h2 := hx.2
  refine ⟨?_, by omega⟩
  show Dy (k - l) m (val64 (Core.ddiv x y))
  rw [val64_ddiv]; exact dy_quotient hx.1 hy.1 hj hm (by omega) k1 k2
theorem DB.scale {k i : Int} {A : Nat} {x : UInt64} (h : DB k A i x) (n : Nat) : DB (k - n) (A * 2 ^ n) (i * 2 ^ n) x :=
  ⟨dy_scale h.1 n, by rw [Int.natAbs_mul, Int.natAbs_pow]; exact Nat.mul_le_mul_right _ h.2⟩
theorem db_i2d (v : Int32) : DB 0 2147483648 v.toInt (FP.i2d v) := ⟨dy_zero_iff.mpr (i2d_int v), by have := Int32.toInt_lt v; have := Int32.le_toInt v; omega⟩
theorem db_i2d' {v : Int32} {A : Nat} (h : v.toInt.natAbs ≤ A) : DB 0 A v.toInt (FP.i2d v) := (db_i2d v).le h
theorem db_l2d {v : Int64} {A : Nat} (h : v.toInt.natAbs ≤ A) (hA : A ≤ 9007199254740992) : DB 0 A v.toInt (FP.l2d v) := ⟨dy_zero_iff.mpr (l2d_int (by omega)), h⟩
theorem db_dcmp {k i j : Int} {A B : Nat} {x y : UInt64} (hx : DB k A i x) (hy : DB k B j y) : FP.dcmp x y = some (compare i j) := dy_order hx.1 hy.1
theorem db_cv {k i j : Int} {A B : Nat} {x y : UInt64} (hx : DB k A i x) (hy : DB k B j y) (o : CmpOp) : cmpValue (FP.dcmp x y) o = if i < j then -1 else if i = j then 0 else 1 := by
  rw [db_dcmp hx hy, compare_ite]
  by_cases h1 : i < j
  · simp [h1]; rfl
  · by_cases h2 : i = j
    · simp [h2]; rfl
    · simp [h1, h2]; rfl
theorem db_lt {k i j : Int} {A B : Nat} {x y : UInt64} (hx : DB k A i x) (hy : DB k B j y) (o : CmpOp) : cmpValue (FP.dcmp x y) o < 0 ↔ i < j := by
  rw [db_cv hx hy]
  by_cases h1 : i < j
  · simp [h1]
  · by_cases h2 : i = j
    · simp [h2]
    · simp [h1, h2]
theorem db_gt {k i j : Int} {A B : Nat} {x y : UInt64} (hx : DB k A i x) (hy : DB k B j y) (o : CmpOp) : 0 < cmpValue (FP.dcmp x y) o ↔ j < i := by
  rw [db_cv hx hy]
  by_cases h1 : i < j
  · simp [h1, show ¬ j < i by omega]
  · by_cases h2 : i = j
    · simp [h2]
    · simp [h1, h2, show j < i by omega]
theorem db_eq {k i j : Int} {A B : Nat} {x y : UInt64} (hx : DB k A i x) (hy : DB k B j y) (o : CmpOp) : cmpValue (FP.dcmp x y) o = 0 ↔ i = j := by
  rw [db_cv hx hy]
  by_cases h1 : i < j
  · simp [h1, show ¬ i = j by omega]
  · by_cases h2 : i = j
    · simp [h2]
    · simp [h1, h2]
theorem db_c0 : DB 0 0 0 0 := ⟨by rw [show val64 0 = .fin false 0 (-1074) by decide +kernel]; exact dy_mk (by simp) rfl, by decide⟩
theorem db_c1 : DB 0 1 1 4607182418800017408 := ⟨by rw [show val64 4607182418800017408 = .fin false (2 ^ 52) (-52) by decide +kernel]; exact dy_mk (by decide +kernel) rfl, by decide⟩
theorem db_c2 : DB 0 2 2 4611686018427387904 := ⟨by rw [show val64 4611686018427387904 = .fin false (2 ^ 52) (-51) by decide +kernel]; exact dy_mk (by decide +kernel) rfl, by decide⟩
end OwnFloat

section OwnFloatGo
variable {p : Program} {l : Launch} {e : Env} {R : Room} {s : State} {m : MethodId} {args : Array Value} {below : List Frame} {meth : Method} {c : Code} {T : State} {locs : List Loc} {cells slots : Nat} {Z : State} {h : Heap} {Q : Option Value → Heap → List Loc → Prop} {ce sl : Nat} {pc q q' : Nat} {ls : Array Slot} {st : List Value} {a0 : Array Value}
theorem go_i2dB (X : Stand p l e R s m args below meth c T locs cells slots) (hx : p.tables.exec = Jvm.exec) {x : Int32} {A : Nat} {i : Int} (hd : decode c.code pc = .ok (.i2d, 1)) (hp : pc + 1 = q) (hA : DB 0 A i (FP.i2d x)) (K : ∀ z, DB 0 A i z → Go p e below s Q ce sl T (mkF m q ls (.double z :: st))) : Go p e below s Q ce sl T (mkF m pc ls (.int x :: st)) :=
  go_i2d X hx hd hp rfl (K _ hA)
theorem go_l2dB (X : Stand p l e R s m args below meth c T locs cells slots) (hx : p.tables.exec = Jvm.exec) {x : Int64} {A : Nat} {i : Int} (hd : decode c.code pc = .ok (.l2d, 1)) (hp : pc + 1 = q) (hA : DB 0 A i (FP.l2d x)) (K : ∀ z, DB 0 A i z → Go p e below s Q ce sl T (mkF m q ls (.double z :: st))) : Go p e below s Q ce sl T (mkF m pc ls (.long x :: st)) :=
  go_l2d X hx hd hp rfl (K _ hA)
theorem go_f2dB (X : Stand p l e R s m args below meth c T locs cells slots) (hx : p.tables.exec = Jvm.exec) {x : UInt32} {A : Nat} {i : Int} (hd : decode c.code pc = .ok (.f2d, 1)) (hp : pc + 1 = q) (hA : DB 0 A i (FP.f2d x)) (K : ∀ z, DB 0 A i z → Go p e below s Q ce sl T (mkF m q ls (.double z :: st))) : Go p e below s Q ce sl T (mkF m pc ls (.float x :: st)) :=
  go_f2d X hx hd hp hA.nn rfl (K _ hA)
theorem go_daddB (X : Stand p l e R s m args below meth c T locs cells slots) (hx : p.tables.exec = Jvm.exec) {x y : UInt64} {k i j : Int} {A B C : Nat} (hd : decode c.code pc = .ok (.dadd, 1)) (hp : pc + 1 = q) (hA : DB k A i x) (hB : DB k B j y) (b1 : A + B < 9007199254740992) (k1 : -1074 ≤ k) (k2 : k ≤ 971) (hC : A + B = C) (K : ∀ z, DB k C (i + j) z → Go p e below s Q ce sl T (mkF m q ls (.double z :: st))) : Go p e below s Q ce sl T (mkF m pc ls (.double y :: .double x :: st)) :=
  go_dadd X hx hd hp (db_add hA hB b1 k1 k2).nn rfl (K _ (hC ▸ db_add hA hB b1 k1 k2))
theorem go_dsubB (X : Stand p l e R s m args below meth c T locs cells slots) (hx : p.tables.exec = Jvm.exec) {x y : UInt64} {k i j : Int} {A B C : Nat} (hd : decode c.code pc = .ok (.dsub, 1)) (hp : pc + 1 = q) (hA : DB k A i x) (hB : DB k B j y) (b1 : A + B < 9007199254740992) (k1 : -1074 ≤ k) (k2 : k ≤ 971) (hC : A + B = C) (K : ∀ z, DB k C (i - j) z → Go p e below s Q ce sl T (mkF m q ls (.double z :: st))) : Go p e below s Q ce sl T (mkF m pc ls (.double y :: .double x :: st)) :=
  go_dsub X hx hd hp (db_sub hA hB b1 k1 k2).nn rfl (K _ (hC ▸ db_sub hA hB b1 k1 k2))
theorem go_dmulB (X : Stand p l e R s m args below meth c T locs cells slots) (hx : p.tables.exec = Jvm.exec) {x y : UInt64} {k k' kk i j : Int} {A B C : Nat} (hd : decode c.code pc = .ok (.dmul, 1)) (hp : pc + 1 = q) (hA : DB k A i x) (hB : DB k' B j y) (b1 : A * B < 9007199254740992) (k1 : -1074 ≤ k + k') (k2 : k + k' ≤ 971) (hk : k + k' = kk) (hC : A * B = C) (K : ∀ z, DB kk C (i * j) z → Go p e below s Q ce sl T (mkF m q ls (.double z :: st))) : Go p e below s Q ce sl T (mkF m pc ls (.double y :: .double x :: st)) :=
  go_dmul X hx hd hp (db_mul hA hB b1 k1 k2).nn rfl (K _ (hC ▸ hk ▸ db_mul hA hB b1 k1 k2))
theorem go_ddivB (X : Stand p l e R s m args below meth c T locs cells slots) (hx : p.tables.exec = Jvm.exec) {x y : UInt64} {k k' kk i j w0 : Int} {A B : Nat} (hd : decode c.code pc = .ok (.ddiv, 1)) (hp : pc + 1 = q) (hA : DB k A i x) (hB : DB k' B j y) (hj : j ≠ 0) (hm : i = w0 * j) (b1 : A < 9007199254740992) (k1 : -1074 ≤ k - k') (k2 : k - k' ≤ 971) (hk : k - k' = kk) (K : ∀ z, DB kk A w0 z → Go p e below s Q ce sl T (mkF m q ls (.double z :: st))) : Go p e below s Q ce sl T (mkF m pc ls (.double y :: .double x :: st)) :=
  go_ddiv X hx hd hp (db_div w0 hA hB hj hm b1 k1 k2).nn rfl (K _ (hk ▸ db_div w0 hA hB hj hm b1 k1 k2))
theorem go_dif_lt (X : Stand p l e R s m args below meth c T locs cells slots) (hx : p.tables.exec = Jvm.exec) {x y : UInt64} {k i j : Int} {A B : Nat} {cm : CmpOp} {o : Int} (hd : decode c.code pc = .ok (.ifCond .lt o, 3)) (hp : pc + 3 = q) (ho : 0 ≤ (pc : Int) + o) (hq : ((pc : Int) + o).toNat = q') (hA : DB k A i x) (hB : DB k B j y) (KY : i < j → Go p e below s Q ce sl T (mkF m q' ls st)) (KN : ¬ i < j → Go p e below s Q ce sl T (mkF m q ls st)) : Go p e below s Q ce sl T (mkF m pc ls (.int (cmpValue (FP.dcmp x y) cm) :: st)) :=
  go_if_lt X hx hd hp ho hq (fun w => KY ((db_lt hA hB _).mp w)) (fun w => KN (fun z => w ((db_lt hA hB _).mpr z)))
theorem go_dif_ge (X : Stand p l e R s m args below meth c T locs cells slots) (hx : p.tables.exec = Jvm.exec) {x y : UInt64} {k i j : Int} {A B : Nat} {cm : CmpOp} {o : Int} (hd : decode c.code pc = .ok (.ifCond .ge o, 3)) (hp : pc + 3 = q) (ho : 0 ≤ (pc : Int) + o) (hq : ((pc : Int) + o).toNat = q') (hA : DB k A i x) (hB : DB k B j y) (KY : ¬ i < j → Go p e below s Q ce sl T (mkF m q' ls st)) (KN : i < j → Go p e below s Q ce sl T (mkF m q ls st)) : Go p e below s Q ce sl T (mkF m pc ls (.int (cmpValue (FP.dcmp x y) cm) :: st)) :=
  go_if_ge X hx hd hp ho hq (fun w => KY (fun z => w ((db_lt hA hB _).mpr z))) (fun w => KN ((db_lt hA hB _).mp w))
theorem go_dif_gt (X : Stand p l e R s m args below meth c T locs cells slots) (hx : p.tables.exec = Jvm.exec) {x y : UInt64} {k i j : Int} {A B : Nat} {cm : CmpOp} {o : Int} (hd : decode c.code pc = .ok (.ifCond .gt o, 3)) (hp : pc + 3 = q) (ho : 0 ≤ (pc : Int) + o) (hq : ((pc : Int) + o).toNat = q') (hA : DB k A i x) (hB : DB k B j y) (KY : j < i → Go p e below s Q ce sl T (mkF m q' ls st)) (KN : ¬ j < i → Go p e below s Q ce sl T (mkF m q ls st)) : Go p e below s Q ce sl T (mkF m pc ls (.int (cmpValue (FP.dcmp x y) cm) :: st)) :=
  go_if_gt X hx hd hp ho hq (fun w => KY ((db_gt hA hB _).mp w)) (fun w => KN (fun z => w ((db_gt hA hB _).mpr z)))
theorem go_dif_le (X : Stand p l e R s m args below meth c T locs cells slots) (hx : p.tables.exec = Jvm.exec) {x y : UInt64} {k i j : Int} {A B : Nat} {cm : CmpOp} {o : Int} (hd : decode c.code pc = .ok (.ifCond .le o, 3)) (hp : pc + 3 = q) (ho : 0 ≤ (pc : Int) + o) (hq : ((pc : Int) + o).toNat = q') (hA : DB k A i x) (hB : DB k B j y) (KY : ¬ j < i → Go p e below s Q ce sl T (mkF m q' ls st)) (KN : j < i → Go p e below s Q ce sl T (mkF m q ls st)) : Go p e below s Q ce sl T (mkF m pc ls (.int (cmpValue (FP.dcmp x y) cm) :: st)) :=
  go_if_le X hx hd hp ho hq (fun w => KY (fun z => w ((db_gt hA hB _).mpr z))) (fun w => KN ((db_gt hA hB _).mp w))
theorem go_dif_eq (X : Stand p l e R s m args below meth c T locs cells slots) (hx : p.tables.exec = Jvm.exec) {x y : UInt64} {k i j : Int} {A B : Nat} {cm : CmpOp} {o : Int} (hd : decode c.code pc = .ok (.ifCond .eq o, 3)) (hp : pc + 3 = q) (ho : 0 ≤ (pc : Int) + o) (hq : ((pc : Int) + o).toNat = q') (hA : DB k A i x) (hB : DB k B j y) (KY : i = j → Go p e below s Q ce sl T (mkF m q' ls st)) (KN : ¬ i = j → Go p e below s Q ce sl T (mkF m q ls st)) : Go p e below s Q ce sl T (mkF m pc ls (.int (cmpValue (FP.dcmp x y) cm) :: st)) :=
  go_if_eq X hx hd hp ho hq (fun w => KY ((db_eq hA hB _).mp w)) (fun w => KN (fun z => w ((db_eq hA hB _).mpr z)))
theorem go_dif_ne (X : Stand p l e R s m args below meth c T locs cells slots) (hx : p.tables.exec = Jvm.exec) {x y : UInt64} {k i j : Int} {A B : Nat} {cm : CmpOp} {o : Int} (hd : decode c.code pc = .ok (.ifCond .ne o, 3)) (hp : pc + 3 = q) (ho : 0 ≤ (pc : Int) + o) (hq : ((pc : Int) + o).toNat = q') (hA : DB k A i x) (hB : DB k B j y) (KY : ¬ i = j → Go p e below s Q ce sl T (mkF m q' ls st)) (KN : i = j → Go p e below s Q ce sl T (mkF m q ls st)) : Go p e below s Q ce sl T (mkF m pc ls (.int (cmpValue (FP.dcmp x y) cm) :: st)) :=
  go_if_ne X hx hd hp ho hq (fun w => KY (fun z => w ((db_eq hA hB _).mpr z))) (fun w => KN ((db_eq hA hB _).mp w))
end OwnFloatGo

theorem own_and3 (y : Int32) : y &&& (3 : Int32) = 0 ∨ y &&& (3 : Int32) = 1 ∨ y &&& (3 : Int32) = 2 ∨ y &&& (3 : Int32) = 3 := by
  have h1 := c_and y 3 (by decide); have e1 : (3 : Int32).toInt = 3 := rfl
  rw [← Int32.toInt_inj, ← Int32.toInt_inj, ← Int32.toInt_inj, ← Int32.toInt_inj]
  show (y &&& 3).toInt = 0 ∨ (y &&& 3).toInt = 1 ∨ (y &&& 3).toInt = 2 ∨ (y &&& 3).toInt = 3
  omega
theorem own_small (y : Int32) : ((y <<< ((8 : Int32) &&& 31)) >>> ((8 : Int32) &&& 31)).toInt.natAbs ≤ 8388608 := by
  rw [c_ishr _ 8 8 (by decide), show ((2 ^ 8 : Nat) : Int) = 256 from rfl]; have := rng32 (y <<< ((8 : Int32) &&& 31)); omega
theorem own_mulb {a b : Int} {A B : Nat} (ha : a.natAbs ≤ A) (hb : b.natAbs ≤ B) : (a * b).natAbs ≤ A * B := by rw [Int.natAbs_mul]; exact Nat.mul_le_mul ha hb
theorem own_acc {s : Int64} {S : Int} {A : Nat} (hs : s.toInt = S ∧ S.natAbs ≤ A) {a b : Int32} (ha : a.toInt.natAbs ≤ 8388608) (hb : b.toInt.natAbs ≤ 8388608) (hA : A ≤ 1000000000000000) : (s + a.toInt64 * b.toInt64).toInt = S + a.toInt * b.toInt ∧ (S + a.toInt * b.toInt).natAbs ≤ A + 70368744177664 := by
  have m1 : (a.toInt * b.toInt).natAbs ≤ 8388608 * 8388608 := own_mulb ha hb
  have e1 := c_lmul a.toInt64 b.toInt64; have r1 := rng64 (a.toInt64 * b.toInt64); have e2 := c_ladd s (a.toInt64 * b.toInt64); have r2 := rng64 (s + a.toInt64 * b.toInt64)
  rw [c_i2l, c_i2l] at e1
  omega

theorem pd_0 : parseMethodDescriptor "(I)I" = some ⟨[.int], some .int⟩ := by decide +kernel
theorem pd_1 : parseMethodDescriptor "([D[D)D" = some ⟨[(.array .double), (.array .double)], some .double⟩ := by decide +kernel
theorem d1_0 : decode method_3_code 0 = .ok (.iload_n 0, 1) := by decide +kernel
theorem d1_1 : decode method_3_code 1 = .ok (.bipush 8, 2) := by decide +kernel
theorem d1_3 : decode method_3_code 3 = .ok (.ishl, 1) := by decide +kernel
theorem d1_4 : decode method_3_code 4 = .ok (.bipush 8, 2) := by decide +kernel
theorem d1_6 : decode method_3_code 6 = .ok (.ishr, 1) := by decide +kernel
theorem d1_7 : decode method_3_code 7 = .ok (.ireturn, 1) := by decide +kernel
theorem pn_1 : plainName "com/example/orbweave/orbweave/sphere/SphereMinimiserDotPinLaw" = true := by first | (simp [plainName, overriddenIn]; done) | decide +kernel
theorem ef_1 (m : MethodId) (x0 : Int32) : entryFrame m #[(.int x0)] 1 = mkF m 0 #[.val (.int x0)] [] := by first | (simp [entryFrame, mkF, argsToLocals, Value.category]; done) | rfl
set_option maxRecDepth 65536 in
set_option maxHeartbeats 40000000 in
theorem rm1 (l : Launch) (Z : State) (a0 : Array Value) (hw : ∀ d ∈ tables_1, d.before a0 Z = true) (ws : List Jvm.Cond) (x_ : Int32)  (h0 : Heap)  :
    Con l (⟨"com/example/orbweave/orbweave/sphere/SphereMinimiserDotPinLaw", "small", "(I)I"⟩ : MethodName) method_3_code 1 (some .int) ws ({ frames := 0, cells := 0, slots := 0, locals := 0 } : Room) Z #[(.int x_)] h0 (fun v h L => (∀ n, Fr n L) ∧ v = some (.int ((x_ <<< ((8 : Int32) &&& 31)) >>> ((8 : Int32) &&& 31))) ∧ h = h0) := by
  refine con_of (plainFor_of_name pn_1) ?_
  intro p e s m below meth c s₁ X0 hx hby hml hret hlk hown hnm hZ e0
  refine Go.cast (ef_1 m x_) ?_
  refine go_iloadN (q := 1) X0 hx (hb hby d1_0) rfl rfl ?_
  refine go_bipush (q := 3) (v := (8 : Int32)) X0 hx (hb hby d1_1) rfl rfl ?_
  refine go_ishl (q := 4) (v := (x_ <<< ((8 : Int32) &&& 31))) X0 hx (hb hby d1_3) rfl rfl ?_
  refine go_bipush (q := 6) (v := (8 : Int32)) X0 hx (hb hby d1_4) rfl rfl ?_
  refine go_ishr (q := 7) (v := ((x_ <<< ((8 : Int32) &&& 31)) >>> ((8 : Int32) &&& 31))) X0 hx (hb hby d1_6) rfl rfl ?_
  exact go_retI X0 hx hret hlk (hb hby d1_7) (by decide) (by decide) ⟨fun _ => Fr.nil _, rfl, e0⟩
theorem d2_0 : decode prog_61_method_7_code 0 = .ok (.dconst 0, 1) := by decide +kernel
theorem d2_1 : decode prog_61_method_7_code 1 = .ok (.dstore_n 2, 1) := by decide +kernel
theorem d2_2 : decode prog_61_method_7_code 2 = .ok (.iconst 0, 1) := by decide +kernel
theorem d2_3 : decode prog_61_method_7_code 3 = .ok (.istore 4, 2) := by decide +kernel
theorem d2_5 : decode prog_61_method_7_code 5 = .ok (.iload 4, 2) := by decide +kernel
theorem d2_7 : decode prog_61_method_7_code 7 = .ok (.aload_n 0, 1) := by decide +kernel
theorem d2_8 : decode prog_61_method_7_code 8 = .ok (.arraylength, 1) := by decide +kernel
theorem d2_9 : decode prog_61_method_7_code 9 = .ok (.if_icmp .ge 21, 3) := by decide +kernel
theorem d2_30 : decode prog_61_method_7_code 30 = .ok (.dload_n 2, 1) := by decide +kernel
theorem d2_31 : decode prog_61_method_7_code 31 = .ok (.dreturn, 1) := by decide +kernel
theorem pn_2 : plainName "com/example/orbweave/orbweave/sphere/SphereMinimiser" = true := by first | (simp [plainName, overriddenIn]; done) | decide +kernel
theorem ef_2 (m : MethodId) (x0 : Addr) (x1 : Addr) : entryFrame m #[(.ref x0), (.ref x1)] 5 = mkF m 0 #[.val (.ref x0), .val (.ref x1), .unset, .unset, .unset] [] := by first | (simp [entryFrame, mkF, argsToLocals, Value.category]; done) | rfl
set_option maxRecDepth 65536 in
set_option maxHeartbeats 40000000 in
theorem rm2_0 (l : Launch) (Z : State) (a0 : Array Value) (hw : ∀ d ∈ tables_1, d.before a0 Z = true) (ws : List Jvm.Cond) (au : Addr) (av : Addr) (ku kv : ClassId) (du dw : Value) (zv : Int32) (tl : List Value) (h0 : Heap) (V_au : Arv Z h0 au ku .double (0 : Int32) [] du) (V_av : Arv Z h0 av kv .double zv (tl) dw) :
    Con l (⟨"com/example/orbweave/orbweave/sphere/SphereMinimiser", "dot", "([D[D)D"⟩ : MethodName) prog_61_method_7_code 5 (some .double) ws ({ frames := 0, cells := 0, slots := 0, locals := 0 } : Room) Z #[(.ref au), (.ref av)] h0 (fun v h L => (∀ n, Fr n L) ∧ (∃ r : UInt64, v = some (.double r) ∧ DB 0 0 0 r) ∧ h = h0) := by
  refine con_of (plainFor_of_name pn_2) ?_
  intro p e s m below meth c s₁ X0 hx hby hml hret hlk hown hnm hZ e0
  refine Go.cast (ef_2 m au av) ?_
  refine go_dconst0 (q := 1) (v := (0 : UInt64)) X0 hx (hb hby d2_0) rfl rfl ?_
  refine go_dstoreN (q := 2) (l' := #[.val (.ref au), .val (.ref av), .val (.double (0 : UInt64)), .second, .unset]) X0 hx (hb hby d2_1) rfl rfl ?_
  refine go_iconst (q := 3) (v := (0 : Int32)) X0 hx (hb hby d2_2) rfl rfl ?_
  refine go_istore (q := 5) (l' := #[.val (.ref au), .val (.ref av), .val (.double (0 : UInt64)), .second, .val (.int (0 : Int32))]) X0 hx (hb hby d2_3) rfl rfl ?_
  refine go_iload (q := 7) X0 hx (hb hby d2_5) rfl rfl ?_
  refine go_aloadN (q := 8) X0 hx (hb hby d2_7) rfl rfl rfl ?_
  refine go_alen (q := 9) X0 hx hZ e0 V_au (hb hby d2_8) rfl ?_
  refine go_icmp_ge (q := 12) (q' := 30) X0 hx (hb hby d2_9) rfl (by decide) rfl (fun hc9 => ?_) (fun hc9 => ?_)
  · refine go_dloadN (q := 31) X0 hx (hb hby d2_30) rfl rfl ?_
    exact go_retD X0 hx hret hlk (hb hby d2_31) (by decide) (by decide) ⟨fun _ => Fr.nil _, ⟨_, rfl, db_c0⟩, e0⟩
  · exact absurd hc9 (by decide)
theorem d2_12 : decode prog_61_method_7_code 12 = .ok (.dload_n 2, 1) := by decide +kernel
theorem d2_13 : decode prog_61_method_7_code 13 = .ok (.aload_n 0, 1) := by decide +kernel
theorem d2_14 : decode prog_61_method_7_code 14 = .ok (.iload 4, 2) := by decide +kernel
theorem d2_16 : decode prog_61_method_7_code 16 = .ok (.daload, 1) := by decide +kernel
theorem d2_17 : decode prog_61_method_7_code 17 = .ok (.aload_n 1, 1) := by decide +kernel
theorem d2_18 : decode prog_61_method_7_code 18 = .ok (.iload 4, 2) := by decide +kernel
theorem d2_20 : decode prog_61_method_7_code 20 = .ok (.daload, 1) := by decide +kernel
theorem d2_21 : decode prog_61_method_7_code 21 = .ok (.dmul, 1) := by decide +kernel
theorem d2_22 : decode prog_61_method_7_code 22 = .ok (.dadd, 1) := by decide +kernel
theorem d2_23 : decode prog_61_method_7_code 23 = .ok (.dstore_n 2, 1) := by decide +kernel
theorem d2_24 : decode prog_61_method_7_code 24 = .ok (.iinc 4 1, 3) := by decide +kernel
theorem d2_27 : decode prog_61_method_7_code 27 = .ok (.goto (-22), 3) := by decide +kernel
set_option maxRecDepth 65536 in
set_option maxHeartbeats 40000000 in
theorem rm2_1 (l : Launch) (Z : State) (a0 : Array Value) (hw : ∀ d ∈ tables_1, d.before a0 Z = true) (ws : List Jvm.Cond) (au : Addr) (av : Addr) (ku kv : ClassId) (du dw : Value) (zv : Int32) (tl : List Value) (x0 y0 : UInt64) (m0 n0 : Int) (h0 : Heap) (V_au : Arv Z h0 au ku .double (1 : Int32) [.double x0] du) (V_av : Arv Z h0 av kv .double zv (.double y0 :: tl) dw) (hlt0 : (0 : Int32) < zv) (Fx0 : DB 0 8388608 m0 x0) (Fy0 : DB 0 8388608 n0 y0) :
    Con l (⟨"com/example/orbweave/orbweave/sphere/SphereMinimiser", "dot", "([D[D)D"⟩ : MethodName) prog_61_method_7_code 5 (some .double) ws ({ frames := 0, cells := 0, slots := 0, locals := 0 } : Room) Z #[(.ref au), (.ref av)] h0 (fun v h L => (∀ n, Fr n L) ∧ (∃ r : UInt64, v = some (.double r) ∧ DB 0 70368744177664 (0 + m0 * n0) r) ∧ h = h0) := by
  refine con_of (plainFor_of_name pn_2) ?_
  intro p e s m below meth c s₁ X0 hx hby hml hret hlk hown hnm hZ e0
  refine Go.cast (ef_2 m au av) ?_
  refine go_dconst0 (q := 1) (v := (0 : UInt64)) X0 hx (hb hby d2_0) rfl rfl ?_
  refine go_dstoreN (q := 2) (l' := #[.val (.ref au), .val (.ref av), .val (.double (0 : UInt64)), .second, .unset]) X0 hx (hb hby d2_1) rfl rfl ?_
  refine go_iconst (q := 3) (v := (0 : Int32)) X0 hx (hb hby d2_2) rfl rfl ?_
  refine go_istore (q := 5) (l' := #[.val (.ref au), .val (.ref av), .val (.double (0 : UInt64)), .second, .val (.int (0 : Int32))]) X0 hx (hb hby d2_3) rfl rfl ?_
  refine go_iload (q := 7) X0 hx (hb hby d2_5) rfl rfl ?_
  refine go_aloadN (q := 8) X0 hx (hb hby d2_7) rfl rfl rfl ?_
  refine go_alen (q := 9) X0 hx hZ e0 V_au (hb hby d2_8) rfl ?_
  refine go_icmp_ge (q := 12) (q' := 30) X0 hx (hb hby d2_9) rfl (by decide) rfl (fun hc9 => ?_) (fun hc9 => ?_)
  · exact absurd (by decide) hc9
  · refine go_dloadN (q := 13) X0 hx (hb hby d2_12) rfl rfl ?_
    refine go_aloadN (q := 14) X0 hx (hb hby d2_13) rfl rfl rfl ?_
    refine go_iload (q := 16) X0 hx (hb hby d2_14) rfl rfl ?_
    refine go_daload (q := 17) (v := (.double x0)) X0 hx hZ e0 V_au ⟨by decide, by decide⟩ rfl (hb hby d2_16) rfl ?_
    refine go_aloadN (q := 18) X0 hx (hb hby d2_17) rfl rfl rfl ?_
    refine go_iload (q := 20) X0 hx (hb hby d2_18) rfl rfl ?_
    refine go_daload (q := 21) (v := (.double y0)) X0 hx hZ e0 V_av ⟨by decide, hlt0⟩ rfl (hb hby d2_20) rfl ?_
    refine go_dmulB (q := 22) (kk := 0) (C := 70368744177664) X0 hx (hb hby d2_21) rfl Fx0 Fy0 (by decide) (by decide) (by decide) rfl rfl (fun z1 hz1 => ?_)
    refine go_daddB (q := 23) (C := 70368744177664) X0 hx (hb hby d2_22) rfl db_c0 hz1 (by decide) (by decide) (by decide) rfl (fun z2 hz2 => ?_)
    refine go_dstoreN (q := 24) (l' := #[.val (.ref au), .val (.ref av), .val (.double z2), .second, .val (.int (0 : Int32))]) X0 hx (hb hby d2_23) rfl rfl ?_
    refine go_iinc (q := 27) (l' := #[.val (.ref au), .val (.ref av), .val (.double z2), .second, .val (.int (1 : Int32))]) X0 hx (hb hby d2_24) rfl rfl rfl ?_
    refine go_goto (q := 5) X0 hx (hb hby d2_27) (by decide) rfl ?_
    refine go_iload (q := 7) X0 hx (hb hby d2_5) rfl rfl ?_
    refine go_aloadN (q := 8) X0 hx (hb hby d2_7) rfl rfl rfl ?_
    refine go_alen (q := 9) X0 hx hZ e0 V_au (hb hby d2_8) rfl ?_
    refine go_icmp_ge (q := 12) (q' := 30) X0 hx (hb hby d2_9) rfl (by decide) rfl (fun hc9 => ?_) (fun hc9 => ?_)
    · refine go_dloadN (q := 31) X0 hx (hb hby d2_30) rfl rfl ?_
      exact go_retD X0 hx hret hlk (hb hby d2_31) (by decide) (by decide) ⟨fun _ => Fr.nil _, ⟨_, rfl, hz2⟩, e0⟩
    · exact absurd hc9 (by decide)
set_option maxRecDepth 65536 in
set_option maxHeartbeats 40000000 in
theorem rm2_2 (l : Launch) (Z : State) (a0 : Array Value) (hw : ∀ d ∈ tables_1, d.before a0 Z = true) (ws : List Jvm.Cond) (au : Addr) (av : Addr) (ku kv : ClassId) (du dw : Value) (zv : Int32) (tl : List Value) (x0 x1 y0 y1 : UInt64) (m0 n0 m1 n1 : Int) (h0 : Heap) (V_au : Arv Z h0 au ku .double (2 : Int32) [.double x0, .double x1] du) (V_av : Arv Z h0 av kv .double zv (.double y0 :: .double y1 :: tl) dw) (hlt0 : (0 : Int32) < zv) (Fx0 : DB 0 8388608 m0 x0) (Fy0 : DB 0 8388608 n0 y0) (hlt1 : (1 : Int32) < zv) (Fx1 : DB 0 8388608 m1 x1) (Fy1 : DB 0 8388608 n1 y1) :
    Con l (⟨"com/example/orbweave/orbweave/sphere/SphereMinimiser", "dot", "([D[D)D"⟩ : MethodName) prog_61_method_7_code 5 (some .double) ws ({ frames := 0, cells := 0, slots := 0, locals := 0 } : Room) Z #[(.ref au), (.ref av)] h0 (fun v h L => (∀ n, Fr n L) ∧ (∃ r : UInt64, v = some (.double r) ∧ DB 0 140737488355328 ((0 + m0 * n0) + m1 * n1) r) ∧ h = h0) := by
  refine con_of (plainFor_of_name pn_2) ?_
  intro p e s m below meth c s₁ X0 hx hby hml hret hlk hown hnm hZ e0
  refine Go.cast (ef_2 m au av) ?_
  refine go_dconst0 (q := 1) (v := (0 : UInt64)) X0 hx (hb hby d2_0) rfl rfl ?_
  refine go_dstoreN (q := 2) (l' := #[.val (.ref au), .val (.ref av), .val (.double (0 : UInt64)), .second, .unset]) X0 hx (hb hby d2_1) rfl rfl ?_
  refine go_iconst (q := 3) (v := (0 : Int32)) X0 hx (hb hby d2_2) rfl rfl ?_
  refine go_istore (q := 5) (l' := #[.val (.ref au), .val (.ref av), .val (.double (0 : UInt64)), .second, .val (.int (0 : Int32))]) X0 hx (hb hby d2_3) rfl rfl ?_
  refine go_iload (q := 7) X0 hx (hb hby d2_5) rfl rfl ?_
  refine go_aloadN (q := 8) X0 hx (hb hby d2_7) rfl rfl rfl ?_
  refine go_alen (q := 9) X0 hx hZ e0 V_au (hb hby d2_8) rfl ?_
  refine go_icmp_ge (q := 12) (q' := 30) X0 hx (hb hby d2_9) rfl (by decide) rfl (fun hc9 => ?_) (fun hc9 => ?_)
  · exact absurd (by decide) hc9
  · refine go_dloadN (q := 13) X0 hx (hb hby d2_12) rfl rfl ?_
    refine go_aloadN (q := 14) X0 hx (hb hby d2_13) rfl rfl rfl ?_
    refine go_iload (q := 16) X0 hx (hb hby d2_14) rfl rfl ?_
    refine go_daload (q := 17) (v := (.double x0)) X0 hx hZ e0 V_au ⟨by decide, by decide⟩ rfl (hb hby d2_16) rfl ?_
    refine go_aloadN (q := 18) X0 hx (hb hby d2_17) rfl rfl rfl ?_
    refine go_iload (q := 20) X0 hx (hb hby d2_18) rfl rfl ?_
    refine go_daload (q := 21) (v := (.double y0)) X0 hx hZ e0 V_av ⟨by decide, hlt0⟩ rfl (hb hby d2_20) rfl ?_
    refine go_dmulB (q := 22) (kk := 0) (C := 70368744177664) X0 hx (hb hby d2_21) rfl Fx0 Fy0 (by decide) (by decide) (by decide) rfl rfl (fun z1 hz1 => ?_)
    refine go_daddB (q := 23) (C := 70368744177664) X0 hx (hb hby d2_22) rfl db_c0 hz1 (by decide) (by decide) (by decide) rfl (fun z2 hz2 => ?_)
    refine go_dstoreN (q := 24) (l' := #[.val (.ref au), .val (.ref av), .val (.double z2), .second, .val (.int (0 : Int32))]) X0 hx (hb hby d2_23) rfl rfl ?_
    refine go_iinc (q := 27) (l' := #[.val (.ref au), .val (.ref av), .val (.double z2), .second, .val (.int (1 : Int32))]) X0 hx (hb hby d2_24) rfl rfl rfl ?_
    refine go_goto (q := 5) X0 hx (hb hby d2_27) (by decide) rfl ?_
    refine go_iload (q := 7) X0 hx (hb hby d2_5) rfl rfl ?_
    refine go_aloadN (q := 8) X0 hx (hb hby d2_7) rfl rfl rfl ?_
    refine go_alen (q := 9) X0 hx hZ e0 V_au (hb hby d2_8) rfl ?_
    refine go_icmp_ge (q := 12) (q' := 30) X0 hx (hb hby d2_9) rfl (by decide) rfl (fun hc9 => ?_) (fun hc9 => ?_)
    · exact absurd (by decide) hc9
    · refine go_dloadN (q := 13) X0 hx (hb hby d2_12) rfl rfl ?_
      refine go_aloadN (q := 14) X0 hx (hb hby d2_13) rfl rfl rfl ?_
      refine go_iload (q := 16) X0 hx (hb hby d2_14) rfl rfl ?_
      refine go_daload (q := 17) (v := (.double x1)) X0 hx hZ e0 V_au ⟨by decide, by decide⟩ rfl (hb hby d2_16) rfl ?_
      refine go_aloadN (q := 18) X0 hx (hb hby d2_17) rfl rfl rfl ?_
      refine go_iload (q := 20) X0 hx (hb hby d2_18) rfl rfl ?_
      refine go_daload (q := 21) (v := (.double y1)) X0 hx hZ e0 V_av ⟨by decide, hlt1⟩ rfl (hb hby d2_20) rfl ?_
      refine go_dmulB (q := 22) (kk := 0) (C := 70368744177664) X0 hx (hb hby d2_21) rfl Fx1 Fy1 (by decide) (by decide) (by decide) rfl rfl (fun z3 hz3 => ?_)
      refine go_daddB (q := 23) (C := 140737488355328) X0 hx (hb hby d2_22) rfl hz2 hz3 (by decide) (by decide) (by decide) rfl (fun z4 hz4 => ?_)
      refine go_dstoreN (q := 24) (l' := #[.val (.ref au), .val (.ref av), .val (.double z4), .second, .val (.int (1 : Int32))]) X0 hx (hb hby d2_23) rfl rfl ?_
      refine go_iinc (q := 27) (l' := #[.val (.ref au), .val (.ref av), .val (.double z4), .second, .val (.int (2 : Int32))]) X0 hx (hb hby d2_24) rfl rfl rfl ?_
      refine go_goto (q := 5) X0 hx (hb hby d2_27) (by decide) rfl ?_
      refine go_iload (q := 7) X0 hx (hb hby d2_5) rfl rfl ?_
      refine go_aloadN (q := 8) X0 hx (hb hby d2_7) rfl rfl rfl ?_
      refine go_alen (q := 9) X0 hx hZ e0 V_au (hb hby d2_8) rfl ?_
      refine go_icmp_ge (q := 12) (q' := 30) X0 hx (hb hby d2_9) rfl (by decide) rfl (fun hc9 => ?_) (fun hc9 => ?_)
      · refine go_dloadN (q := 31) X0 hx (hb hby d2_30) rfl rfl ?_
        exact go_retD X0 hx hret hlk (hb hby d2_31) (by decide) (by decide) ⟨fun _ => Fr.nil _, ⟨_, rfl, hz4⟩, e0⟩
      · exact absurd hc9 (by decide)
set_option maxRecDepth 65536 in
set_option maxHeartbeats 40000000 in
theorem rm2_3 (l : Launch) (Z : State) (a0 : Array Value) (hw : ∀ d ∈ tables_1, d.before a0 Z = true) (ws : List Jvm.Cond) (au : Addr) (av : Addr) (ku kv : ClassId) (du dw : Value) (zv : Int32) (tl : List Value) (x0 x1 x2 y0 y1 y2 : UInt64) (m0 n0 m1 n1 m2 n2 : Int) (h0 : Heap) (V_au : Arv Z h0 au ku .double (3 : Int32) [.double x0, .double x1, .double x2] du) (V_av : Arv Z h0 av kv .double zv (.double y0 :: .double y1 :: .double y2 :: tl) dw) (hlt0 : (0 : Int32) < zv) (Fx0 : DB 0 8388608 m0 x0) (Fy0 : DB 0 8388608 n0 y0) (hlt1 : (1 : Int32) < zv) (Fx1 : DB 0 8388608 m1 x1) (Fy1 : DB 0 8388608 n1 y1) (hlt2 : (2 : Int32) < zv) (Fx2 : DB 0 8388608 m2 x2) (Fy2 : DB 0 8388608 n2 y2) :
    Con l (⟨"com/example/orbweave/orbweave/sphere/SphereMinimiser", "dot", "([D[D)D"⟩ : MethodName) prog_61_method_7_code 5 (some .double) ws ({ frames := 0, cells := 0, slots := 0, locals := 0 } : Room) Z #[(.ref au), (.ref av)] h0 (fun v h L => (∀ n, Fr n L) ∧ (∃ r : UInt64, v = some (.double r) ∧ DB 0 211106232532992 (((0 + m0 * n0) + m1 * n1) + m2 * n2) r) ∧ h = h0) := by
  refine con_of (plainFor_of_name pn_2) ?_
  intro p e s m below meth c s₁ X0 hx hby hml hret hlk hown hnm hZ e0
  refine Go.cast (ef_2 m au av) ?_
  refine go_dconst0 (q := 1) (v := (0 : UInt64)) X0 hx (hb hby d2_0) rfl rfl ?_
  refine go_dstoreN (q := 2) (l' := #[.val (.ref au), .val (.ref av), .val (.double (0 : UInt64)), .second, .unset]) X0 hx (hb hby d2_1) rfl rfl ?_
  refine go_iconst (q := 3) (v := (0 : Int32)) X0 hx (hb hby d2_2) rfl rfl ?_
  refine go_istore (q := 5) (l' := #[.val (.ref au), .val (.ref av), .val (.double (0 : UInt64)), .second, .val (.int (0 : Int32))]) X0 hx (hb hby d2_3) rfl rfl ?_
  refine go_iload (q := 7) X0 hx (hb hby d2_5) rfl rfl ?_
  refine go_aloadN (q := 8) X0 hx (hb hby d2_7) rfl rfl rfl ?_
  refine go_alen (q := 9) X0 hx hZ e0 V_au (hb hby d2_8) rfl ?_
  refine go_icmp_ge (q := 12) (q' := 30) X0 hx (hb hby d2_9) rfl (by decide) rfl (fun hc9 => ?_) (fun hc9 => ?_)
  · exact absurd (by decide) hc9
  · refine go_dloadN (q := 13) X0 hx (hb hby d2_12) rfl rfl ?_
    refine go_aloadN (q := 14) X0 hx (hb hby d2_13) rfl rfl rfl ?_
    refine go_iload (q := 16) X0 hx (hb hby d2_14) rfl rfl ?_
    refine go_daload (q := 17) (v := (.double x0)) X0 hx hZ e0 V_au ⟨by decide, by decide⟩ rfl (hb hby d2_16) rfl ?_
    refine go_aloadN (q := 18) X0 hx (hb hby d2_17) rfl rfl rfl ?_
    refine go_iload (q := 20) X0 hx (hb hby d2_18) rfl rfl ?_
    refine go_daload (q := 21) (v := (.double y0)) X0 hx hZ e0 V_av ⟨by decide, hlt0⟩ rfl (hb hby d2_20) rfl ?_
    refine go_dmulB (q := 22) (kk := 0) (C := 70368744177664) X0 hx (hb hby d2_21) rfl Fx0 Fy0 (by decide) (by decide) (by decide) rfl rfl (fun z1 hz1 => ?_)
    refine go_daddB (q := 23) (C := 70368744177664) X0 hx (hb hby d2_22) rfl db_c0 hz1 (by decide) (by decide) (by decide) rfl (fun z2 hz2 => ?_)
    refine go_dstoreN (q := 24) (l' := #[.val (.ref au), .val (.ref av), .val (.double z2), .second, .val (.int (0 : Int32))]) X0 hx (hb hby d2_23) rfl rfl ?_
    refine go_iinc (q := 27) (l' := #[.val (.ref au), .val (.ref av), .val (.double z2), .second, .val (.int (1 : Int32))]) X0 hx (hb hby d2_24) rfl rfl rfl ?_
    refine go_goto (q := 5) X0 hx (hb hby d2_27) (by decide) rfl ?_
    refine go_iload (q := 7) X0 hx (hb hby d2_5) rfl rfl ?_
    refine go_aloadN (q := 8) X0 hx (hb hby d2_7) rfl rfl rfl ?_
    refine go_alen (q := 9) X0 hx hZ e0 V_au (hb hby d2_8) rfl ?_
    refine go_icmp_ge (q := 12) (q' := 30) X0 hx (hb hby d2_9) rfl (by decide) rfl (fun hc9 => ?_) (fun hc9 => ?_)
    · exact absurd (by decide) hc9
    · refine go_dloadN (q := 13) X0 hx (hb hby d2_12) rfl rfl ?_
      refine go_aloadN (q := 14) X0 hx (hb hby d2_13) rfl rfl rfl ?_
      refine go_iload (q := 16) X0 hx (hb hby d2_14) rfl rfl ?_
      refine go_daload (q := 17) (v := (.double x1)) X0 hx hZ e0 V_au ⟨by decide, by decide⟩ rfl (hb hby d2_16) rfl ?_
      refine go_aloadN (q := 18) X0 hx (hb hby d2_17) rfl rfl rfl ?_
      refine go_iload (q := 20) X0 hx (hb hby d2_18) rfl rfl ?_
      refine go_daload (q := 21) (v := (.double y1)) X0 hx hZ e0 V_av ⟨by decide, hlt1⟩ rfl (hb hby d2_20) rfl ?_
      refine go_dmulB (q := 22) (kk := 0) (C := 70368744177664) X0 hx (hb hby d2_21) rfl Fx1 Fy1 (by decide) (by decide) (by decide) rfl rfl (fun z3 hz3 => ?_)
      refine go_daddB (q := 23) (C := 140737488355328) X0 hx (hb hby d2_22) rfl hz2 hz3 (by decide) (by decide) (by decide) rfl (fun z4 hz4 => ?_)
      refine go_dstoreN (q := 24) (l' := #[.val (.ref au), .val (.ref av), .val (.double z4), .second, .val (.int (1 : Int32))]) X0 hx (hb hby d2_23) rfl rfl ?_
      refine go_iinc (q := 27) (l' := #[.val (.ref au), .val (.ref av), .val (.double z4), .second, .val (.int (2 : Int32))]) X0 hx (hb hby d2_24) rfl rfl rfl ?_
      refine go_goto (q := 5) X0 hx (hb hby d2_27) (by decide) rfl ?_
      refine go_iload (q := 7) X0 hx (hb hby d2_5) rfl rfl ?_
      refine go_aloadN (q := 8) X0 hx (hb hby d2_7) rfl rfl rfl ?_
      refine go_alen (q := 9) X0 hx hZ e0 V_au (hb hby d2_8) rfl ?_
      refine go_icmp_ge (q := 12) (q' := 30) X0 hx (hb hby d2_9) rfl (by decide) rfl (fun hc9 => ?_) (fun hc9 => ?_)
      · exact absurd (by decide) hc9
      · refine go_dloadN (q := 13) X0 hx (hb hby d2_12) rfl rfl ?_
        refine go_aloadN (q := 14) X0 hx (hb hby d2_13) rfl rfl rfl ?_
        refine go_iload (q := 16) X0 hx (hb hby d2_14) rfl rfl ?_
        refine go_daload (q := 17) (v := (.double x2)) X0 hx hZ e0 V_au ⟨by decide, by decide⟩ rfl (hb hby d2_16) rfl ?_
        refine go_aloadN (q := 18) X0 hx (hb hby d2_17) rfl rfl rfl ?_
        refine go_iload (q := 20) X0 hx (hb hby d2_18) rfl rfl ?_
        refine go_daload (q := 21) (v := (.double y2)) X0 hx hZ e0 V_av ⟨by decide, hlt2⟩ rfl (hb hby d2_20) rfl ?_
        refine go_dmulB (q := 22) (kk := 0) (C := 70368744177664) X0 hx (hb hby d2_21) rfl Fx2 Fy2 (by decide) (by decide) (by decide) rfl rfl (fun z5 hz5 => ?_)
        refine go_daddB (q := 23) (C := 211106232532992) X0 hx (hb hby d2_22) rfl hz4 hz5 (by decide) (by decide) (by decide) rfl (fun z6 hz6 => ?_)
        refine go_dstoreN (q := 24) (l' := #[.val (.ref au), .val (.ref av), .val (.double z6), .second, .val (.int (2 : Int32))]) X0 hx (hb hby d2_23) rfl rfl ?_
        refine go_iinc (q := 27) (l' := #[.val (.ref au), .val (.ref av), .val (.double z6), .second, .val (.int (3 : Int32))]) X0 hx (hb hby d2_24) rfl rfl rfl ?_
        refine go_goto (q := 5) X0 hx (hb hby d2_27) (by decide) rfl ?_
        refine go_iload (q := 7) X0 hx (hb hby d2_5) rfl rfl ?_
        refine go_aloadN (q := 8) X0 hx (hb hby d2_7) rfl rfl rfl ?_
        refine go_alen (q := 9) X0 hx hZ e0 V_au (hb hby d2_8) rfl ?_
        refine go_icmp_ge (q := 12) (q' := 30) X0 hx (hb hby d2_9) rfl (by decide) rfl (fun hc9 => ?_) (fun hc9 => ?_)
        · refine go_dloadN (q := 31) X0 hx (hb hby d2_30) rfl rfl ?_
          exact go_retD X0 hx hret hlk (hb hby d2_31) (by decide) (by decide) ⟨fun _ => Fr.nil _, ⟨_, rfl, hz6⟩, e0⟩
        · exact absurd hc9 (by decide)
theorem pn_0 : plainName "com/example/orbweave/orbweave/sphere/SphereMinimiserDotPinLaw" = true := by first | (simp [plainName, overriddenIn]; done) | decide +kernel
theorem ef_0 (m : MethodId) (x0 : Int32) (x1 : Int32) (x2 : Int32) (x3 : Int32) (x4 : Int64) (x5 : Int64) : entryFrame m #[(.int x0), (.int x1), (.int x2), (.int x3), (.long x4), (.long x5)] maxLocals = mkF m 0 #[.val (.int x0), .val (.int x1), .val (.int x2), .val (.int x3), .val (.long x4), .second, .val (.long x5), .second, .unset, .unset, .unset, .unset, .unset, .unset, .unset, .unset, .unset, .unset, .unset, .unset, .unset] [] := by first | (simp [entryFrame, mkF, argsToLocals, Value.category, maxLocals]; done) | rfl
set_option maxRecDepth 65536 in
set_option maxHeartbeats 40000000 in
theorem rm0 (l : Launch) (Z : State) (a0 : Array Value) (hw : ∀ d ∈ tables_1, d.before a0 Z = true) (ws : List Jvm.Cond) (shape : Int32) (a_ : Int32) (b_ : Int32) (c_ : Int32) (d_ : Int64) (e_ : Int64)  (h0 : Heap)  :
    Con l x code maxLocals ret ws room_1 Z #[(.int shape), (.int a_), (.int b_), (.int c_), (.long d_), (.long e_)] h0 (fun v h L => v = some (.int (1 : Int32)) ∧ Fr h0.size L) := by
  refine con_of (plainFor_of_name pn_0) ?_
  intro p e s m below meth c s₁ X0 hx hby hml hret hlk hown hnm hZ e0
  refine Go.cast (ef_0 m shape a_ b_ c_ d_ e_) ?_
  have N0 := Fr.nil h0.size
  have hsz : h0.size ≤ h0.size := (Nat.le_refl _)
  refine go_iloadN (q := 1) X0 hx (hb hby at_0) rfl rfl ?_
  refine go_iconst (q := 2) (v := (3 : Int32)) X0 hx (hb hby at_1) rfl rfl ?_
  refine go_iand (q := 3) (v := (shape &&& (3 : Int32))) X0 hx (hb hby at_2) rfl rfl ?_
  refine go_istore (q := 5) (l' := #[.val (.int shape), .val (.int a_), .val (.int b_), .val (.int c_), .val (.long d_), .second, .val (.long e_), .second, .val (.int (shape &&& (3 : Int32))), .unset, .unset, .unset, .unset, .unset, .unset, .unset, .unset, .unset, .unset, .unset, .unset]) X0 hx (hb hby at_3) rfl rfl ?_
  suffices Hlen : ∀ len : Int32, len = (shape &&& (3 : Int32)) → Go p e below s (fun v h L => v = some (.int (1 : Int32)) ∧ Fr h0.size L) room_1.cells room_1.slots s₁ (mkF m 5 #[.val (.int shape), .val (.int a_), .val (.int b_), .val (.int c_), .val (.long d_), .second, .val (.long e_), .second, .val (.int len), .unset, .unset, .unset, .unset, .unset, .unset, .unset, .unset, .unset, .unset, .unset, .unset] []) from Hlen _ rfl
  intro len elen
  have hlen : len = 0 ∨ len = 1 ∨ len = 2 ∨ len = 3 := by rw [elen]; exact own_and3 _
  refine go_iloadN (q := 6) X0 hx (hb hby at_5) rfl rfl ?_
  refine go_iconst (q := 7) (v := (2 : Int32)) X0 hx (hb hby at_6) rfl rfl ?_
  refine go_ishr (q := 8) (v := (shape >>> ((2 : Int32) &&& 31))) X0 hx (hb hby at_7) rfl rfl ?_
  refine go_iconst (q := 9) (v := (1 : Int32)) X0 hx (hb hby at_8) rfl rfl ?_
  refine go_iand (q := 10) (v := ((shape >>> ((2 : Int32) &&& 31)) &&& (1 : Int32))) X0 hx (hb hby at_9) rfl rfl ?_
  suffices J : ∀ lg : Int32, lg = 0 ∨ lg = 1 → Go p e below s (fun v h L => v = some (.int (1 : Int32)) ∧ Fr h0.size L) room_1.cells room_1.slots s₁ (mkF m 20 #[.val (.int shape), .val (.int a_), .val (.int b_), .val (.int c_), .val (.long d_), .second, .val (.long e_), .second, .val (.int len), .val (.int lg), .unset, .unset, .unset, .unset, .unset, .unset, .unset, .unset, .unset, .unset, .unset] []) by
    refine go_if_eq (q := 13) (q' := 17) X0 hx (hb hby at_10) rfl (by decide) rfl (fun hc10 => ?_) (fun hc10 => ?_)
    · refine go_iconst (q := 18) (v := (0 : Int32)) X0 hx (hb hby at_17) rfl rfl ?_
      refine go_istore (q := 20) (l' := #[.val (.int shape), .val (.int a_), .val (.int b_), .val (.int c_), .val (.long d_), .second, .val (.long e_), .second, .val (.int len), .val (.int (0 : Int32)), .unset, .unset, .unset, .unset, .unset, .unset, .unset, .unset, .unset, .unset, .unset]) X0 hx (hb hby at_18) rfl rfl ?_
      exact J _ (Or.inl rfl)
    · refine go_iconst (q := 14) (v := (1 : Int32)) X0 hx (hb hby at_13) rfl rfl ?_
      refine go_goto (q := 18) X0 hx (hb hby at_14) (by decide) rfl ?_
      refine go_istore (q := 20) (l' := #[.val (.int shape), .val (.int a_), .val (.int b_), .val (.int c_), .val (.long d_), .second, .val (.long e_), .second, .val (.int len), .val (.int (1 : Int32)), .unset, .unset, .unset, .unset, .unset, .unset, .unset, .unset, .unset, .unset, .unset]) X0 hx (hb hby at_18) rfl rfl ?_
      exact J _ (Or.inr rfl)
  intro lg hlg
  refine go_iloadN (q := 21) X0 hx (hb hby at_20) rfl rfl ?_
  refine go_callS (q := 24) (W := 0) X0 hx hZ hown e0 (hw _ (List.mem_of_getElem? (i := 0) rfl)) (hw _ (List.mem_of_getElem? (i := 1) rfl)) (hw _ (List.mem_of_getElem? (i := 2) rfl)) (hw _ (List.mem_of_getElem? (i := 3) rfl)) (by decide) [(.int a_)] [] (rm1 l Z a0 hw [] a_ h0) (by rw [hml]; rfl) rfl (lenOf pd_0 rfl) (Nat.le_of_eq rfl) (by decide) (by decide) (hb hby at_21) rfl (by decide) (by decide) ?_
  rintro T1 L1 v1 X1 ⟨Np1, rfl, e1⟩
  have N1 := Fr.app N0 (Np1 _)
  show Go p e below s (fun v h L => v = some (.int (1 : Int32)) ∧ Fr h0.size L) room_1.cells room_1.slots T1 (mkF m 24 #[.val (.int shape), .val (.int a_), .val (.int b_), .val (.int c_), .val (.long d_), .second, .val (.long e_), .second, .val (.int len), .val (.int lg), .unset, .unset, .unset, .unset, .unset, .unset, .unset, .unset, .unset, .unset, .unset] [(.int ((a_ <<< ((8 : Int32) &&& 31)) >>> ((8 : Int32) &&& 31)))])
  suffices Hu0 : ∀ u0 : Int32, u0 = ((a_ <<< ((8 : Int32) &&& 31)) >>> ((8 : Int32) &&& 31)) → Go p e below s (fun v h L => v = some (.int (1 : Int32)) ∧ Fr h0.size L) room_1.cells room_1.slots T1 (mkF m 24 #[.val (.int shape), .val (.int a_), .val (.int b_), .val (.int c_), .val (.long d_), .second, .val (.long e_), .second, .val (.int len), .val (.int lg), .unset, .unset, .unset, .unset, .unset, .unset, .unset, .unset, .unset, .unset, .unset] [(.int u0)]) from Hu0 _ rfl
  intro u0 eu0
  have hu0 : u0.toInt.natAbs ≤ 8388608 := by rw [eu0]; exact own_small _
  refine go_istore (q := 26) (l' := #[.val (.int shape), .val (.int a_), .val (.int b_), .val (.int c_), .val (.long d_), .second, .val (.long e_), .second, .val (.int len), .val (.int lg), .val (.int u0), .unset, .unset, .unset, .unset, .unset, .unset, .unset, .unset, .unset, .unset]) X1 hx (hb hby at_24) rfl rfl ?_
  refine go_iloadN (q := 27) X1 hx (hb hby at_26) rfl rfl ?_
  refine go_callS (q := 30) (W := 0) X1 hx hZ hown e1 (hw _ (List.mem_of_getElem? (i := 0) rfl)) (hw _ (List.mem_of_getElem? (i := 1) rfl)) (hw _ (List.mem_of_getElem? (i := 2) rfl)) (hw _ (List.mem_of_getElem? (i := 3) rfl)) (by decide) [(.int b_)] [] (rm1 l Z a0 hw [] b_ h0) (by rw [hml]; rfl) rfl (lenOf pd_0 rfl) (Nat.le_of_eq rfl) (by decide) (by decide) (hb hby at_27) rfl (by decide) (by decide) ?_
  rintro T2 L2 v2 X2 ⟨Np2, rfl, e2⟩
  have N2 := Fr.app N1 (Np2 _)
  show Go p e below s (fun v h L => v = some (.int (1 : Int32)) ∧ Fr h0.size L) room_1.cells room_1.slots T2 (mkF m 30 #[.val (.int shape), .val (.int a_), .val (.int b_), .val (.int c_), .val (.long d_), .second, .val (.long e_), .second, .val (.int len), .val (.int lg), .val (.int u0), .unset, .unset, .unset, .unset, .unset, .unset, .unset, .unset, .unset, .unset] [(.int ((b_ <<< ((8 : Int32) &&& 31)) >>> ((8 : Int32) &&& 31)))])
  suffices Hu1 : ∀ u1 : Int32, u1 = ((b_ <<< ((8 : Int32) &&& 31)) >>> ((8 : Int32) &&& 31)) → Go p e below s (fun v h L => v = some (.int (1 : Int32)) ∧ Fr h0.size L) room_1.cells room_1.slots T2 (mkF m 30 #[.val (.int shape), .val (.int a_), .val (.int b_), .val (.int c_), .val (.long d_), .second, .val (.long e_), .second, .val (.int len), .val (.int lg), .val (.int u0), .unset, .unset, .unset, .unset, .unset, .unset, .unset, .unset, .unset, .unset] [(.int u1)]) from Hu1 _ rfl
  intro u1 eu1
  have hu1 : u1.toInt.natAbs ≤ 8388608 := by rw [eu1]; exact own_small _
  refine go_istore (q := 32) (l' := #[.val (.int shape), .val (.int a_), .val (.int b_), .val (.int c_), .val (.long d_), .second, .val (.long e_), .second, .val (.int len), .val (.int lg), .val (.int u0), .val (.int u1), .unset, .unset, .unset, .unset, .unset, .unset, .unset, .unset, .unset]) X2 hx (hb hby at_30) rfl rfl ?_
  refine go_iloadN (q := 33) X2 hx (hb hby at_32) rfl rfl ?_
  refine go_callS (q := 36) (W := 0) X2 hx hZ hown e2 (hw _ (List.mem_of_getElem? (i := 0) rfl)) (hw _ (List.mem_of_getElem? (i := 1) rfl)) (hw _ (List.mem_of_getElem? (i := 2) rfl)) (hw _ (List.mem_of_getElem? (i := 3) rfl)) (by decide) [(.int c_)] [] (rm1 l Z a0 hw [] c_ h0) (by rw [hml]; rfl) rfl (lenOf pd_0 rfl) (Nat.le_of_eq rfl) (by decide) (by decide) (hb hby at_33) rfl (by decide) (by decide) ?_
  rintro T3 L3 v3 X3 ⟨Np3, rfl, e3⟩
  have N3 := Fr.app N2 (Np3 _)
  show Go p e below s (fun v h L => v = some (.int (1 : Int32)) ∧ Fr h0.size L) room_1.cells room_1.slots T3 (mkF m 36 #[.val (.int shape), .val (.int a_), .val (.int b_), .val (.int c_), .val (.long d_), .second, .val (.long e_), .second, .val (.int len), .val (.int lg), .val (.int u0), .val (.int u1), .unset, .unset, .unset, .unset, .unset, .unset, .unset, .unset, .unset] [(.int ((c_ <<< ((8 : Int32) &&& 31)) >>> ((8 : Int32) &&& 31)))])
  suffices Hu2 : ∀ u2 : Int32, u2 = ((c_ <<< ((8 : Int32) &&& 31)) >>> ((8 : Int32) &&& 31)) → Go p e below s (fun v h L => v = some (.int (1 : Int32)) ∧ Fr h0.size L) room_1.cells room_1.slots T3 (mkF m 36 #[.val (.int shape), .val (.int a_), .val (.int b_), .val (.int c_), .val (.long d_), .second, .val (.long e_), .second, .val (.int len), .val (.int lg), .val (.int u0), .val (.int u1), .unset, .unset, .unset, .unset, .unset, .unset, .unset, .unset, .unset] [(.int u2)]) from Hu2 _ rfl
  intro u2 eu2
  have hu2 : u2.toInt.natAbs ≤ 8388608 := by rw [eu2]; exact own_small _
  refine go_istore (q := 38) (l' := #[.val (.int shape), .val (.int a_), .val (.int b_), .val (.int c_), .val (.long d_), .second, .val (.long e_), .second, .val (.int len), .val (.int lg), .val (.int u0), .val (.int u1), .val (.int u2), .unset, .unset, .unset, .unset, .unset, .unset, .unset, .unset]) X3 hx (hb hby at_36) rfl rfl ?_
  refine go_lload (q := 40) X3 hx (hb hby at_38) rfl rfl ?_
  refine go_l2i (q := 41) (v := (d_.toInt32)) X3 hx (hb hby at_40) rfl rfl ?_
  refine go_callS (q := 44) (W := 0) X3 hx hZ hown e3 (hw _ (List.mem_of_getElem? (i := 0) rfl)) (hw _ (List.mem_of_getElem? (i := 1) rfl)) (hw _ (List.mem_of_getElem? (i := 2) rfl)) (hw _ (List.mem_of_getElem? (i := 3) rfl)) (by decide) [(.int (d_.toInt32))] [] (rm1 l Z a0 hw [] (d_.toInt32) h0) (by rw [hml]; rfl) rfl (lenOf pd_0 rfl) (Nat.le_of_eq rfl) (by decide) (by decide) (hb hby at_41) rfl (by decide) (by decide) ?_
  rintro T4 L4 v4 X4 ⟨Np4, rfl, e4⟩
  have N4 := Fr.app N3 (Np4 _)
  show Go p e below s (fun v h L => v = some (.int (1 : Int32)) ∧ Fr h0.size L) room_1.cells room_1.slots T4 (mkF m 44 #[.val (.int shape), .val (.int a_), .val (.int b_), .val (.int c_), .val (.long d_), .second, .val (.long e_), .second, .val (.int len), .val (.int lg), .val (.int u0), .val (.int u1), .val (.int u2), .unset, .unset, .unset, .unset, .unset, .unset, .unset, .unset] [(.int (((d_.toInt32) <<< ((8 : Int32) &&& 31)) >>> ((8 : Int32) &&& 31)))])
  suffices Hv0 : ∀ v0 : Int32, v0 = (((d_.toInt32) <<< ((8 : Int32) &&& 31)) >>> ((8 : Int32) &&& 31)) → Go p e below s (fun v h L => v = some (.int (1 : Int32)) ∧ Fr h0.size L) room_1.cells room_1.slots T4 (mkF m 44 #[.val (.int shape), .val (.int a_), .val (.int b_), .val (.int c_), .val (.long d_), .second, .val (.long e_), .second, .val (.int len), .val (.int lg), .val (.int u0), .val (.int u1), .val (.int u2), .unset, .unset, .unset, .unset, .unset, .unset, .unset, .unset] [(.int v0)]) from Hv0 _ rfl
  intro v0 ev0
  have hv0 : v0.toInt.natAbs ≤ 8388608 := by rw [ev0]; exact own_small _
  refine go_istore (q := 46) (l' := #[.val (.int shape), .val (.int a_), .val (.int b_), .val (.int c_), .val (.long d_), .second, .val (.long e_), .second, .val (.int len), .val (.int lg), .val (.int u0), .val (.int u1), .val (.int u2), .val (.int v0), .unset, .unset, .unset, .unset, .unset, .unset, .unset]) X4 hx (hb hby at_44) rfl rfl ?_
  refine go_lload (q := 48) X4 hx (hb hby at_46) rfl rfl ?_
  refine go_bipush (q := 50) (v := (32 : Int32)) X4 hx (hb hby at_48) rfl rfl ?_
  refine go_lushr (q := 51) (v := ((d_.toUInt64 >>> ((32 : Int32) &&& 0x3f).toInt64.toUInt64).toInt64)) X4 hx (hb hby at_50) rfl rfl ?_
  refine go_l2i (q := 52) (v := (((d_.toUInt64 >>> ((32 : Int32) &&& 0x3f).toInt64.toUInt64).toInt64).toInt32)) X4 hx (hb hby at_51) rfl rfl ?_
  refine go_callS (q := 55) (W := 0) X4 hx hZ hown e4 (hw _ (List.mem_of_getElem? (i := 0) rfl)) (hw _ (List.mem_of_getElem? (i := 1) rfl)) (hw _ (List.mem_of_getElem? (i := 2) rfl)) (hw _ (List.mem_of_getElem? (i := 3) rfl)) (by decide) [(.int (((d_.toUInt64 >>> ((32 : Int32) &&& 0x3f).toInt64.toUInt64).toInt64).toInt32))] [] (rm1 l Z a0 hw [] (((d_.toUInt64 >>> ((32 : Int32) &&& 0x3f).toInt64.toUInt64).toInt64).toInt32) h0) (by rw [hml]; rfl) rfl (lenOf pd_0 rfl) (Nat.le_of_eq rfl) (by decide) (by decide) (hb hby at_52) rfl (by decide) (by decide) ?_
  rintro T5 L5 v5 X5 ⟨Np5, rfl, e5⟩
  have N5 := Fr.app N4 (Np5 _)
  show Go p e below s (fun v h L => v = some (.int (1 : Int32)) ∧ Fr h0.size L) room_1.cells room_1.slots T5 (mkF m 55 #[.val (.int shape), .val (.int a_), .val (.int b_), .val (.int c_), .val (.long d_), .second, .val (.long e_), .second, .val (.int len), .val (.int lg), .val (.int u0), .val (.int u1), .val (.int u2), .val (.int v0), .unset, .unset, .unset, .unset, .unset, .unset, .unset] [(.int (((((d_.toUInt64 >>> ((32 : Int32) &&& 0x3f).toInt64.toUInt64).toInt64).toInt32) <<< ((8 : Int32) &&& 31)) >>> ((8 : Int32) &&& 31)))])
  suffices Hv1 : ∀ v1 : Int32, v1 = (((((d_.toUInt64 >>> ((32 : Int32) &&& 0x3f).toInt64.toUInt64).toInt64).toInt32) <<< ((8 : Int32) &&& 31)) >>> ((8 : Int32) &&& 31)) → Go p e below s (fun v h L => v = some (.int (1 : Int32)) ∧ Fr h0.size L) room_1.cells room_1.slots T5 (mkF m 55 #[.val (.int shape), .val (.int a_), .val (.int b_), .val (.int c_), .val (.long d_), .second, .val (.long e_), .second, .val (.int len), .val (.int lg), .val (.int u0), .val (.int u1), .val (.int u2), .val (.int v0), .unset, .unset, .unset, .unset, .unset, .unset, .unset] [(.int v1)]) from Hv1 _ rfl
  intro v1 ev1
  have hv1 : v1.toInt.natAbs ≤ 8388608 := by rw [ev1]; exact own_small _
  refine go_istore (q := 57) (l' := #[.val (.int shape), .val (.int a_), .val (.int b_), .val (.int c_), .val (.long d_), .second, .val (.long e_), .second, .val (.int len), .val (.int lg), .val (.int u0), .val (.int u1), .val (.int u2), .val (.int v0), .val (.int v1), .unset, .unset, .unset, .unset, .unset, .unset]) X5 hx (hb hby at_55) rfl rfl ?_
  refine go_lload (q := 59) X5 hx (hb hby at_57) rfl rfl ?_
  refine go_l2i (q := 60) (v := (e_.toInt32)) X5 hx (hb hby at_59) rfl rfl ?_
  refine go_callS (q := 63) (W := 0) X5 hx hZ hown e5 (hw _ (List.mem_of_getElem? (i := 0) rfl)) (hw _ (List.mem_of_getElem? (i := 1) rfl)) (hw _ (List.mem_of_getElem? (i := 2) rfl)) (hw _ (List.mem_of_getElem? (i := 3) rfl)) (by decide) [(.int (e_.toInt32))] [] (rm1 l Z a0 hw [] (e_.toInt32) h0) (by rw [hml]; rfl) rfl (lenOf pd_0 rfl) (Nat.le_of_eq rfl) (by decide) (by decide) (hb hby at_60) rfl (by decide) (by decide) ?_
  rintro T6 L6 v6 X6 ⟨Np6, rfl, e6⟩
  have N6 := Fr.app N5 (Np6 _)
  show Go p e below s (fun v h L => v = some (.int (1 : Int32)) ∧ Fr h0.size L) room_1.cells room_1.slots T6 (mkF m 63 #[.val (.int shape), .val (.int a_), .val (.int b_), .val (.int c_), .val (.long d_), .second, .val (.long e_), .second, .val (.int len), .val (.int lg), .val (.int u0), .val (.int u1), .val (.int u2), .val (.int v0), .val (.int v1), .unset, .unset, .unset, .unset, .unset, .unset] [(.int (((e_.toInt32) <<< ((8 : Int32) &&& 31)) >>> ((8 : Int32) &&& 31)))])
  suffices Hv2 : ∀ v2 : Int32, v2 = (((e_.toInt32) <<< ((8 : Int32) &&& 31)) >>> ((8 : Int32) &&& 31)) → Go p e below s (fun v h L => v = some (.int (1 : Int32)) ∧ Fr h0.size L) room_1.cells room_1.slots T6 (mkF m 63 #[.val (.int shape), .val (.int a_), .val (.int b_), .val (.int c_), .val (.long d_), .second, .val (.long e_), .second, .val (.int len), .val (.int lg), .val (.int u0), .val (.int u1), .val (.int u2), .val (.int v0), .val (.int v1), .unset, .unset, .unset, .unset, .unset, .unset] [(.int v2)]) from Hv2 _ rfl
  intro v2 ev2
  have hv2 : v2.toInt.natAbs ≤ 8388608 := by rw [ev2]; exact own_small _
  refine go_istore (q := 65) (l' := #[.val (.int shape), .val (.int a_), .val (.int b_), .val (.int c_), .val (.long d_), .second, .val (.long e_), .second, .val (.int len), .val (.int lg), .val (.int u0), .val (.int u1), .val (.int u2), .val (.int v0), .val (.int v1), .val (.int v2), .unset, .unset, .unset, .unset, .unset]) X6 hx (hb hby at_63) rfl rfl ?_
  refine go_lload (q := 67) X6 hx (hb hby at_65) rfl rfl ?_
  refine go_bipush (q := 69) (v := (32 : Int32)) X6 hx (hb hby at_67) rfl rfl ?_
  refine go_lushr (q := 70) (v := ((e_.toUInt64 >>> ((32 : Int32) &&& 0x3f).toInt64.toUInt64).toInt64)) X6 hx (hb hby at_69) rfl rfl ?_
  refine go_l2i (q := 71) (v := (((e_.toUInt64 >>> ((32 : Int32) &&& 0x3f).toInt64.toUInt64).toInt64).toInt32)) X6 hx (hb hby at_70) rfl rfl ?_
  refine go_callS (q := 74) (W := 0) X6 hx hZ hown e6 (hw _ (List.mem_of_getElem? (i := 0) rfl)) (hw _ (List.mem_of_getElem? (i := 1) rfl)) (hw _ (List.mem_of_getElem? (i := 2) rfl)) (hw _ (List.mem_of_getElem? (i := 3) rfl)) (by decide) [(.int (((e_.toUInt64 >>> ((32 : Int32) &&& 0x3f).toInt64.toUInt64).toInt64).toInt32))] [] (rm1 l Z a0 hw [] (((e_.toUInt64 >>> ((32 : Int32) &&& 0x3f).toInt64.toUInt64).toInt64).toInt32) h0) (by rw [hml]; rfl) rfl (lenOf pd_0 rfl) (Nat.le_of_eq rfl) (by decide) (by decide) (hb hby at_71) rfl (by decide) (by decide) ?_
  rintro T7 L7 v7 X7 ⟨Np7, rfl, e7⟩
  have N7 := Fr.app N6 (Np7 _)
  show Go p e below s (fun v h L => v = some (.int (1 : Int32)) ∧ Fr h0.size L) room_1.cells room_1.slots T7 (mkF m 74 #[.val (.int shape), .val (.int a_), .val (.int b_), .val (.int c_), .val (.long d_), .second, .val (.long e_), .second, .val (.int len), .val (.int lg), .val (.int u0), .val (.int u1), .val (.int u2), .val (.int v0), .val (.int v1), .val (.int v2), .unset, .unset, .unset, .unset, .unset] [(.int (((((e_.toUInt64 >>> ((32 : Int32) &&& 0x3f).toInt64.toUInt64).toInt64).toInt32) <<< ((8 : Int32) &&& 31)) >>> ((8 : Int32) &&& 31)))])
  suffices Hw_ : ∀ w_ : Int32, w_ = (((((e_.toUInt64 >>> ((32 : Int32) &&& 0x3f).toInt64.toUInt64).toInt64).toInt32) <<< ((8 : Int32) &&& 31)) >>> ((8 : Int32) &&& 31)) → Go p e below s (fun v h L => v = some (.int (1 : Int32)) ∧ Fr h0.size L) room_1.cells room_1.slots T7 (mkF m 74 #[.val (.int shape), .val (.int a_), .val (.int b_), .val (.int c_), .val (.long d_), .second, .val (.long e_), .second, .val (.int len), .val (.int lg), .val (.int u0), .val (.int u1), .val (.int u2), .val (.int v0), .val (.int v1), .val (.int v2), .unset, .unset, .unset, .unset, .unset] [(.int w_)]) from Hw_ _ rfl
  intro w_ ew_
  have hw_ : w_.toInt.natAbs ≤ 8388608 := by rw [ew_]; exact own_small _
  refine go_istore (q := 76) (l' := #[.val (.int shape), .val (.int a_), .val (.int b_), .val (.int c_), .val (.long d_), .second, .val (.long e_), .second, .val (.int len), .val (.int lg), .val (.int u0), .val (.int u1), .val (.int u2), .val (.int v0), .val (.int v1), .val (.int v2), .val (.int w_), .unset, .unset, .unset, .unset]) X7 hx (hb hby at_74) rfl rfl ?_
  have hs0 : (0 : Int64).toInt = 0 ∧ (0 : Int).natAbs ≤ 0 := ⟨rfl, by decide⟩
  rcases hlg with rfl | rfl <;> rcases hlen with rfl | rfl | rfl | rfl
  · refine go_iload (q := 78) X7 hx (hb hby at_76) rfl rfl ?_
    refine go_newP (q := 80) X7 hx hZ (hw _ (List.mem_of_getElem? (i := 4) rfl)) e7 (hb hby at_78) rfl (by decide) 0 (by decide) (by decide) (by decide) (by decide) (fun T8 h8 k_bu bu eb8 X8 e8 E8 V_bu => ?_)
    have g_bu : h0.size ≤ bu := Nat.le_trans hsz (Nat.le_of_eq eb8.symm)
    replace hsz := Nat.le_trans hsz E8.1
    replace V_bu : Arv Z h8 bu k_bu .double (0 : Int32) [] (.double (0 : UInt64)) := V_bu.pad (pad_rep [] (.double (0 : UInt64)) 0)
    refine go_astore (q := 82) (l' := #[.val (.int shape), .val (.int a_), .val (.int b_), .val (.int c_), .val (.long d_), .second, .val (.long e_), .second, .val (.int (0 : Int32)), .val (.int (0 : Int32)), .val (.int u0), .val (.int u1), .val (.int u2), .val (.int v0), .val (.int v1), .val (.int v2), .val (.int w_), .val (.ref bu), .unset, .unset, .unset]) X8 hx (hb hby at_80) rfl rfl rfl ?_
    refine go_iload (q := 84) X8 hx (hb hby at_82) rfl rfl ?_
    refine go_if_eq (q := 87) (q' := 94) X8 hx (hb hby at_84) rfl (by decide) rfl (fun hc84 => ?_) (fun hc84 => ?_)
    · refine go_iload (q := 96) X8 hx (hb hby at_94) rfl rfl ?_
      refine go_newP (q := 98) X8 hx hZ (hw _ (List.mem_of_getElem? (i := 4) rfl)) e8 (hb hby at_96) rfl (by decide) 0 (by decide) (by decide) (by decide) (by decide) (fun T9 h9 k_bv bv eb9 X9 e9 E9 V_bv => ?_)
      have g_bv : h0.size ≤ bv := Nat.le_trans hsz (Nat.le_of_eq eb9.symm)
      have ne_bu_bv : bu ≠ bv := Nat.ne_of_lt (Nat.lt_of_lt_of_eq V_bu.lt eb9.symm)
      replace V_bu := V_bu.ext E9
      replace hsz := Nat.le_trans hsz E9.1
      replace V_bv : Arv Z h9 bv k_bv .double (0 : Int32) [] (.double (0 : UInt64)) := V_bv.pad (pad_rep [] (.double (0 : UInt64)) 0)
      refine go_astore (q := 100) (l' := #[.val (.int shape), .val (.int a_), .val (.int b_), .val (.int c_), .val (.long d_), .second, .val (.long e_), .second, .val (.int (0 : Int32)), .val (.int (0 : Int32)), .val (.int u0), .val (.int u1), .val (.int u2), .val (.int v0), .val (.int v1), .val (.int v2), .val (.int w_), .val (.ref bu), .val (.ref bv), .unset, .unset]) X9 hx (hb hby at_98) rfl rfl rfl ?_
      refine go_lconst (q := 101) (v := (0 : Int64)) X9 hx (hb hby at_100) rfl rfl ?_
      refine go_lstore (q := 103) (l' := #[.val (.int shape), .val (.int a_), .val (.int b_), .val (.int c_), .val (.long d_), .second, .val (.long e_), .second, .val (.int (0 : Int32)), .val (.int (0 : Int32)), .val (.int u0), .val (.int u1), .val (.int u2), .val (.int v0), .val (.int v1), .val (.int v2), .val (.int w_), .val (.ref bu), .val (.ref bv), .val (.long (0 : Int64)), .second]) X9 hx (hb hby at_101) rfl rfl ?_
      refine go_iload (q := 105) X9 hx (hb hby at_103) rfl rfl ?_
      refine go_if_le (q := 108) (q' := 134) X9 hx (hb hby at_105) rfl (by decide) rfl (fun hc105 => ?_) (fun hc105 => ?_)
      · refine go_iload (q := 136) X9 hx (hb hby at_134) rfl rfl ?_
        refine go_iconst (q := 137) (v := (1 : Int32)) X9 hx (hb hby at_136) rfl rfl ?_
        refine go_icmp_le (q := 140) (q' := 166) X9 hx (hb hby at_137) rfl (by decide) rfl (fun hc137 => ?_) (fun hc137 => ?_)
        · refine go_iload (q := 168) X9 hx (hb hby at_166) rfl rfl ?_
          refine go_iconst (q := 169) (v := (2 : Int32)) X9 hx (hb hby at_168) rfl rfl ?_
          refine go_icmp_le (q := 172) (q' := 198) X9 hx (hb hby at_169) rfl (by decide) rfl (fun hc169 => ?_) (fun hc169 => ?_)
          · refine go_iload (q := 200) X9 hx (hb hby at_198) rfl rfl ?_
            refine go_if_eq (q := 203) (q' := 211) X9 hx (hb hby at_200) rfl (by decide) rfl (fun hc200 => ?_) (fun hc200 => ?_)
            · refine go_aload (q := 213) X9 hx (hb hby at_211) rfl rfl rfl ?_
              refine go_aload (q := 215) X9 hx (hb hby at_213) rfl rfl rfl ?_
              refine go_callS (q := 218) (W := 0) X9 hx hZ hown e9 (hw _ (List.mem_of_getElem? (i := 5) rfl)) (hw _ (List.mem_of_getElem? (i := 6) rfl)) (hw _ (List.mem_of_getElem? (i := 7) rfl)) (hw _ (List.mem_of_getElem? (i := 8) rfl)) (by decide) [(.ref bu), (.ref bv)] [] (rm2_0 l Z a0 hw [] bu bv k_bu k_bv _ _ _ _    h9 V_bu V_bv) (by rw [hml]; rfl) rfl (lenOf pd_1 rfl) (Nat.le_of_eq rfl) (by decide) (by decide) (hb hby at_215) rfl (by decide) (by decide) ?_
              rintro T10 L10 v10 X10 ⟨Np10, ⟨r_, rfl, hr_⟩, e10⟩
              have N10 := Fr.app N7 (Np10 _)
              show Go p e below s (fun v h L => v = some (.int (1 : Int32)) ∧ Fr h0.size L) room_1.cells room_1.slots T10 (mkF m 218 #[.val (.int shape), .val (.int a_), .val (.int b_), .val (.int c_), .val (.long d_), .second, .val (.long e_), .second, .val (.int (0 : Int32)), .val (.int (0 : Int32)), .val (.int u0), .val (.int u1), .val (.int u2), .val (.int v0), .val (.int v1), .val (.int v2), .val (.int w_), .val (.ref bu), .val (.ref bv), .val (.long (0 : Int64)), .second] [(.double r_)])
              refine go_lload (q := 220) X10 hx (hb hby at_218) rfl rfl ?_
              refine go_l2dB (q := 221) X10 hx (hb hby at_220) rfl (db_l2d (A := 0) (by rw [hs0.1]; exact hs0.2) (by decide)) (fun z11 hz11 => ?_)
              refine go_dcmp (q := 222) X10 hx (hb hby at_221) rfl rfl ?_
              refine go_dif_ne (q := 225) (q' := 229) X10 hx (hb hby at_222) rfl (by decide) rfl hr_ hz11 (fun hc222 => ?_) (fun hc222 => ?_)
              · exact absurd hs0.1.symm hc222
              · refine go_iconst (q := 226) (v := (1 : Int32)) X10 hx (hb hby at_225) rfl rfl ?_
                refine go_goto (q := 230) X10 hx (hb hby at_226) (by decide) rfl ?_
                exact go_retN X10 hx (by simp) hret hlk (hb hby at_230) (by decide) (by decide) ⟨rfl, N10⟩
            · exact absurd rfl hc200
          · exact absurd hc169 (by decide)
        · exact absurd hc137 (by decide)
      · exact absurd hc105 (by decide)
    · exact absurd rfl hc84
  · refine go_iload (q := 78) X7 hx (hb hby at_76) rfl rfl ?_
    refine go_newP (q := 80) X7 hx hZ (hw _ (List.mem_of_getElem? (i := 4) rfl)) e7 (hb hby at_78) rfl (by decide) 1 (by decide) (by decide) (by decide) (by decide) (fun T12 h12 k_bu bu eb12 X12 e12 E12 V_bu => ?_)
    have g_bu : h0.size ≤ bu := Nat.le_trans hsz (Nat.le_of_eq eb12.symm)
    replace hsz := Nat.le_trans hsz E12.1
    replace V_bu : Arv Z h12 bu k_bu .double (1 : Int32) [(.double (0 : UInt64))] (.double (0 : UInt64)) := V_bu.pad (pad_rep [] (.double (0 : UInt64)) 1)
    refine go_astore (q := 82) (l' := #[.val (.int shape), .val (.int a_), .val (.int b_), .val (.int c_), .val (.long d_), .second, .val (.long e_), .second, .val (.int (1 : Int32)), .val (.int (0 : Int32)), .val (.int u0), .val (.int u1), .val (.int u2), .val (.int v0), .val (.int v1), .val (.int v2), .val (.int w_), .val (.ref bu), .unset, .unset, .unset]) X12 hx (hb hby at_80) rfl rfl rfl ?_
    refine go_iload (q := 84) X12 hx (hb hby at_82) rfl rfl ?_
    refine go_if_eq (q := 87) (q' := 94) X12 hx (hb hby at_84) rfl (by decide) rfl (fun hc84 => ?_) (fun hc84 => ?_)
    · refine go_iload (q := 96) X12 hx (hb hby at_94) rfl rfl ?_
      refine go_newP (q := 98) X12 hx hZ (hw _ (List.mem_of_getElem? (i := 4) rfl)) e12 (hb hby at_96) rfl (by decide) 1 (by decide) (by decide) (by decide) (by decide) (fun T13 h13 k_bv bv eb13 X13 e13 E13 V_bv => ?_)
      have g_bv : h0.size ≤ bv := Nat.le_trans hsz (Nat.le_of_eq eb13.symm)
      have ne_bu_bv : bu ≠ bv := Nat.ne_of_lt (Nat.lt_of_lt_of_eq V_bu.lt eb13.symm)
      replace V_bu := V_bu.ext E13
      replace hsz := Nat.le_trans hsz E13.1
      replace V_bv : Arv Z h13 bv k_bv .double (1 : Int32) [(.double (0 : UInt64))] (.double (0 : UInt64)) := V_bv.pad (pad_rep [] (.double (0 : UInt64)) 1)
      refine go_astore (q := 100) (l' := #[.val (.int shape), .val (.int a_), .val (.int b_), .val (.int c_), .val (.long d_), .second, .val (.long e_), .second, .val (.int (1 : Int32)), .val (.int (0 : Int32)), .val (.int u0), .val (.int u1), .val (.int u2), .val (.int v0), .val (.int v1), .val (.int v2), .val (.int w_), .val (.ref bu), .val (.ref bv), .unset, .unset]) X13 hx (hb hby at_98) rfl rfl rfl ?_
      refine go_lconst (q := 101) (v := (0 : Int64)) X13 hx (hb hby at_100) rfl rfl ?_
      refine go_lstore (q := 103) (l' := #[.val (.int shape), .val (.int a_), .val (.int b_), .val (.int c_), .val (.long d_), .second, .val (.long e_), .second, .val (.int (1 : Int32)), .val (.int (0 : Int32)), .val (.int u0), .val (.int u1), .val (.int u2), .val (.int v0), .val (.int v1), .val (.int v2), .val (.int w_), .val (.ref bu), .val (.ref bv), .val (.long (0 : Int64)), .second]) X13 hx (hb hby at_101) rfl rfl ?_
      refine go_iload (q := 105) X13 hx (hb hby at_103) rfl rfl ?_
      refine go_if_le (q := 108) (q' := 134) X13 hx (hb hby at_105) rfl (by decide) rfl (fun hc105 => ?_) (fun hc105 => ?_)
      · exact absurd (by decide) hc105
      · refine go_aload (q := 110) X13 hx (hb hby at_108) rfl rfl rfl ?_
        refine go_iconst (q := 111) (v := (0 : Int32)) X13 hx (hb hby at_110) rfl rfl ?_
        refine go_iload (q := 113) X13 hx (hb hby at_111) rfl rfl ?_
        refine go_i2dB (q := 114) X13 hx (hb hby at_113) rfl (db_i2d' (A := 8388608) hu0) (fun zu0 hzu0 => ?_)
        refine go_dastore (q := 115) X13 hx hZ e13 V_bu ⟨by decide, by decide⟩ 0 rfl (Nat.le_of_ble_eq_true rfl) N7 g_bu (hb hby at_114) rfl (fun T14 h14 l14 X14 N14 e14 W14 V14 => ?_)
        replace V_bv := V_bv.other W14 (Ne.symm ne_bu_bv)
        replace hsz := Nat.le_trans hsz (Nat.le_of_eq W14.size.symm)
        replace V_bu : Arv Z h14 bu k_bu .double (1 : Int32) [(.double zu0)] (.double (0 : UInt64)) := V14
        refine go_aload (q := 117) X14 hx (hb hby at_115) rfl rfl rfl ?_
        refine go_iconst (q := 118) (v := (0 : Int32)) X14 hx (hb hby at_117) rfl rfl ?_
        refine go_iload (q := 120) X14 hx (hb hby at_118) rfl rfl ?_
        refine go_i2dB (q := 121) X14 hx (hb hby at_120) rfl (db_i2d' (A := 8388608) hv0) (fun zv0 hzv0 => ?_)
        refine go_dastore (q := 122) X14 hx hZ e14 V_bv ⟨by decide, by decide⟩ 0 rfl (Nat.le_of_ble_eq_true rfl) N14 g_bv (hb hby at_121) rfl (fun T15 h15 l15 X15 N15 e15 W15 V15 => ?_)
        replace V_bu := V_bu.other W15 ne_bu_bv
        replace hsz := Nat.le_trans hsz (Nat.le_of_eq W15.size.symm)
        replace V_bv : Arv Z h15 bv k_bv .double (1 : Int32) [(.double zv0)] (.double (0 : UInt64)) := V15
        refine go_lload (q := 124) X15 hx (hb hby at_122) rfl rfl ?_
        refine go_iload (q := 126) X15 hx (hb hby at_124) rfl rfl ?_
        refine go_i2l (q := 127) (v := (u0.toInt64)) X15 hx (hb hby at_126) rfl rfl ?_
        refine go_iload (q := 129) X15 hx (hb hby at_127) rfl rfl ?_
        refine go_i2l (q := 130) (v := (v0.toInt64)) X15 hx (hb hby at_129) rfl rfl ?_
        refine go_lmul (q := 131) (v := ((u0.toInt64) * (v0.toInt64))) X15 hx (hb hby at_130) rfl rfl ?_
        refine go_ladd (q := 132) (v := ((0 : Int64) + ((u0.toInt64) * (v0.toInt64)))) X15 hx (hb hby at_131) rfl rfl ?_
        refine go_lstore (q := 134) (l' := #[.val (.int shape), .val (.int a_), .val (.int b_), .val (.int c_), .val (.long d_), .second, .val (.long e_), .second, .val (.int (1 : Int32)), .val (.int (0 : Int32)), .val (.int u0), .val (.int u1), .val (.int u2), .val (.int v0), .val (.int v1), .val (.int v2), .val (.int w_), .val (.ref bu), .val (.ref bv), .val (.long ((0 : Int64) + ((u0.toInt64) * (v0.toInt64)))), .second]) X15 hx (hb hby at_132) rfl rfl ?_
        suffices Hs1 : ∀ s1 : Int64, s1 = ((0 : Int64) + ((u0.toInt64) * (v0.toInt64))) → Go p e below s (fun v h L => v = some (.int (1 : Int32)) ∧ Fr h0.size L) room_1.cells room_1.slots T15 (mkF m 134 #[.val (.int shape), .val (.int a_), .val (.int b_), .val (.int c_), .val (.long d_), .second, .val (.long e_), .second, .val (.int (1 : Int32)), .val (.int (0 : Int32)), .val (.int u0), .val (.int u1), .val (.int u2), .val (.int v0), .val (.int v1), .val (.int v2), .val (.int w_), .val (.ref bu), .val (.ref bv), .val (.long s1), .second] []) from Hs1 _ rfl
        intro s1 es1
        have hs1 := own_acc hs0 hu0 hv0 (by decide)
        rw [← es1] at hs1
        refine go_iload (q := 136) X15 hx (hb hby at_134) rfl rfl ?_
        refine go_iconst (q := 137) (v := (1 : Int32)) X15 hx (hb hby at_136) rfl rfl ?_
        refine go_icmp_le (q := 140) (q' := 166) X15 hx (hb hby at_137) rfl (by decide) rfl (fun hc137 => ?_) (fun hc137 => ?_)
        · refine go_iload (q := 168) X15 hx (hb hby at_166) rfl rfl ?_
          refine go_iconst (q := 169) (v := (2 : Int32)) X15 hx (hb hby at_168) rfl rfl ?_
          refine go_icmp_le (q := 172) (q' := 198) X15 hx (hb hby at_169) rfl (by decide) rfl (fun hc169 => ?_) (fun hc169 => ?_)
          · refine go_iload (q := 200) X15 hx (hb hby at_198) rfl rfl ?_
            refine go_if_eq (q := 203) (q' := 211) X15 hx (hb hby at_200) rfl (by decide) rfl (fun hc200 => ?_) (fun hc200 => ?_)
            · refine go_aload (q := 213) X15 hx (hb hby at_211) rfl rfl rfl ?_
              refine go_aload (q := 215) X15 hx (hb hby at_213) rfl rfl rfl ?_
              refine go_callS (q := 218) (W := 0) X15 hx hZ hown e15 (hw _ (List.mem_of_getElem? (i := 5) rfl)) (hw _ (List.mem_of_getElem? (i := 6) rfl)) (hw _ (List.mem_of_getElem? (i := 7) rfl)) (hw _ (List.mem_of_getElem? (i := 8) rfl)) (by decide) [(.ref bu), (.ref bv)] [] (rm2_1 l Z a0 hw [] bu bv k_bu k_bv _ _ _ _ zu0 zv0 _ _ h15 V_bu V_bv (by decide) hzu0 hzv0) (by rw [hml]; rfl) rfl (lenOf pd_1 rfl) (Nat.le_of_eq rfl) (by decide) (by decide) (hb hby at_215) rfl (by decide) (by decide) ?_
              rintro T16 L16 v16 X16 ⟨Np16, ⟨r_, rfl, hr_⟩, e16⟩
              have N16 := Fr.app N15 (Np16 _)
              show Go p e below s (fun v h L => v = some (.int (1 : Int32)) ∧ Fr h0.size L) room_1.cells room_1.slots T16 (mkF m 218 #[.val (.int shape), .val (.int a_), .val (.int b_), .val (.int c_), .val (.long d_), .second, .val (.long e_), .second, .val (.int (1 : Int32)), .val (.int (0 : Int32)), .val (.int u0), .val (.int u1), .val (.int u2), .val (.int v0), .val (.int v1), .val (.int v2), .val (.int w_), .val (.ref bu), .val (.ref bv), .val (.long s1), .second] [(.double r_)])
              refine go_lload (q := 220) X16 hx (hb hby at_218) rfl rfl ?_
              refine go_l2dB (q := 221) X16 hx (hb hby at_220) rfl (db_l2d (A := 70368744177664) (by rw [hs1.1]; exact hs1.2) (by decide)) (fun z17 hz17 => ?_)
              refine go_dcmp (q := 222) X16 hx (hb hby at_221) rfl rfl ?_
              refine go_dif_ne (q := 225) (q' := 229) X16 hx (hb hby at_222) rfl (by decide) rfl hr_ hz17 (fun hc222 => ?_) (fun hc222 => ?_)
              · exact absurd hs1.1.symm hc222
              · refine go_iconst (q := 226) (v := (1 : Int32)) X16 hx (hb hby at_225) rfl rfl ?_
                refine go_goto (q := 230) X16 hx (hb hby at_226) (by decide) rfl ?_
                exact go_retN X16 hx (by simp) hret hlk (hb hby at_230) (by decide) (by decide) ⟨rfl, N16⟩
            · exact absurd rfl hc200
          · exact absurd hc169 (by decide)
        · exact absurd hc137 (by decide)
    · exact absurd rfl hc84
  · refine go_iload (q := 78) X7 hx (hb hby at_76) rfl rfl ?_
    refine go_newP (q := 80) X7 hx hZ (hw _ (List.mem_of_getElem? (i := 4) rfl)) e7 (hb hby at_78) rfl (by decide) 2 (by decide) (by decide) (by decide) (by decide) (fun T18 h18 k_bu bu eb18 X18 e18 E18 V_bu => ?_)
    have g_bu : h0.size ≤ bu := Nat.le_trans hsz (Nat.le_of_eq eb18.symm)
    replace hsz := Nat.le_trans hsz E18.1
    replace V_bu : Arv Z h18 bu k_bu .double (2 : Int32) [(.double (0 : UInt64)), (.double (0 : UInt64))] (.double (0 : UInt64)) := V_bu.pad (pad_rep [] (.double (0 : UInt64)) 2)
    refine go_astore (q := 82) (l' := #[.val (.int shape), .val (.int a_), .val (.int b_), .val (.int c_), .val (.long d_), .second, .val (.long e_), .second, .val (.int (2 : Int32)), .val (.int (0 : Int32)), .val (.int u0), .val (.int u1), .val (.int u2), .val (.int v0), .val (.int v1), .val (.int v2), .val (.int w_), .val (.ref bu), .unset, .unset, .unset]) X18 hx (hb hby at_80) rfl rfl rfl ?_
    refine go_iload (q := 84) X18 hx (hb hby at_82) rfl rfl ?_
    refine go_if_eq (q := 87) (q' := 94) X18 hx (hb hby at_84) rfl (by decide) rfl (fun hc84 => ?_) (fun hc84 => ?_)
    · refine go_iload (q := 96) X18 hx (hb hby at_94) rfl rfl ?_
      refine go_newP (q := 98) X18 hx hZ (hw _ (List.mem_of_getElem? (i := 4) rfl)) e18 (hb hby at_96) rfl (by decide) 2 (by decide) (by decide) (by decide) (by decide) (fun T19 h19 k_bv bv eb19 X19 e19 E19 V_bv => ?_)
      have g_bv : h0.size ≤ bv := Nat.le_trans hsz (Nat.le_of_eq eb19.symm)
      have ne_bu_bv : bu ≠ bv := Nat.ne_of_lt (Nat.lt_of_lt_of_eq V_bu.lt eb19.symm)
      replace V_bu := V_bu.ext E19
      replace hsz := Nat.le_trans hsz E19.1
      replace V_bv : Arv Z h19 bv k_bv .double (2 : Int32) [(.double (0 : UInt64)), (.double (0 : UInt64))] (.double (0 : UInt64)) := V_bv.pad (pad_rep [] (.double (0 : UInt64)) 2)
      refine go_astore (q := 100) (l' := #[.val (.int shape), .val (.int a_), .val (.int b_), .val (.int c_), .val (.long d_), .second, .val (.long e_), .second, .val (.int (2 : Int32)), .val (.int (0 : Int32)), .val (.int u0), .val (.int u1), .val (.int u2), .val (.int v0), .val (.int v1), .val (.int v2), .val (.int w_), .val (.ref bu), .val (.ref bv), .unset, .unset]) X19 hx (hb hby at_98) rfl rfl rfl ?_
      refine go_lconst (q := 101) (v := (0 : Int64)) X19 hx (hb hby at_100) rfl rfl ?_
      refine go_lstore (q := 103) (l' := #[.val (.int shape), .val (.int a_), .val (.int b_), .val (.int c_), .val (.long d_), .second, .val (.long e_), .second, .val (.int (2 : Int32)), .val (.int (0 : Int32)), .val (.int u0), .val (.int u1), .val (.int u2), .val (.int v0), .val (.int v1), .val (.int v2), .val (.int w_), .val (.ref bu), .val (.ref bv), .val (.long (0 : Int64)), .second]) X19 hx (hb hby at_101) rfl rfl ?_
      refine go_iload (q := 105) X19 hx (hb hby at_103) rfl rfl ?_
      refine go_if_le (q := 108) (q' := 134) X19 hx (hb hby at_105) rfl (by decide) rfl (fun hc105 => ?_) (fun hc105 => ?_)
      · exact absurd (by decide) hc105
      · refine go_aload (q := 110) X19 hx (hb hby at_108) rfl rfl rfl ?_
        refine go_iconst (q := 111) (v := (0 : Int32)) X19 hx (hb hby at_110) rfl rfl ?_
        refine go_iload (q := 113) X19 hx (hb hby at_111) rfl rfl ?_
        refine go_i2dB (q := 114) X19 hx (hb hby at_113) rfl (db_i2d' (A := 8388608) hu0) (fun zu0 hzu0 => ?_)
        refine go_dastore (q := 115) X19 hx hZ e19 V_bu ⟨by decide, by decide⟩ 0 rfl (Nat.le_of_ble_eq_true rfl) N7 g_bu (hb hby at_114) rfl (fun T20 h20 l20 X20 N20 e20 W20 V20 => ?_)
        replace V_bv := V_bv.other W20 (Ne.symm ne_bu_bv)
        replace hsz := Nat.le_trans hsz (Nat.le_of_eq W20.size.symm)
        replace V_bu : Arv Z h20 bu k_bu .double (2 : Int32) [(.double zu0), (.double (0 : UInt64))] (.double (0 : UInt64)) := V20
        refine go_aload (q := 117) X20 hx (hb hby at_115) rfl rfl rfl ?_
        refine go_iconst (q := 118) (v := (0 : Int32)) X20 hx (hb hby at_117) rfl rfl ?_
        refine go_iload (q := 120) X20 hx (hb hby at_118) rfl rfl ?_
        refine go_i2dB (q := 121) X20 hx (hb hby at_120) rfl (db_i2d' (A := 8388608) hv0) (fun zv0 hzv0 => ?_)
        refine go_dastore (q := 122) X20 hx hZ e20 V_bv ⟨by decide, by decide⟩ 0 rfl (Nat.le_of_ble_eq_true rfl) N20 g_bv (hb hby at_121) rfl (fun T21 h21 l21 X21 N21 e21 W21 V21 => ?_)
        replace V_bu := V_bu.other W21 ne_bu_bv
        replace hsz := Nat.le_trans hsz (Nat.le_of_eq W21.size.symm)
        replace V_bv : Arv Z h21 bv k_bv .double (2 : Int32) [(.double zv0), (.double (0 : UInt64))] (.double (0 : UInt64)) := V21
        refine go_lload (q := 124) X21 hx (hb hby at_122) rfl rfl ?_
        refine go_iload (q := 126) X21 hx (hb hby at_124) rfl rfl ?_
        refine go_i2l (q := 127) (v := (u0.toInt64)) X21 hx (hb hby at_126) rfl rfl ?_
        refine go_iload (q := 129) X21 hx (hb hby at_127) rfl rfl ?_
        refine go_i2l (q := 130) (v := (v0.toInt64)) X21 hx (hb hby at_129) rfl rfl ?_
        refine go_lmul (q := 131) (v := ((u0.toInt64) * (v0.toInt64))) X21 hx (hb hby at_130) rfl rfl ?_
        refine go_ladd (q := 132) (v := ((0 : Int64) + ((u0.toInt64) * (v0.toInt64)))) X21 hx (hb hby at_131) rfl rfl ?_
        refine go_lstore (q := 134) (l' := #[.val (.int shape), .val (.int a_), .val (.int b_), .val (.int c_), .val (.long d_), .second, .val (.long e_), .second, .val (.int (2 : Int32)), .val (.int (0 : Int32)), .val (.int u0), .val (.int u1), .val (.int u2), .val (.int v0), .val (.int v1), .val (.int v2), .val (.int w_), .val (.ref bu), .val (.ref bv), .val (.long ((0 : Int64) + ((u0.toInt64) * (v0.toInt64)))), .second]) X21 hx (hb hby at_132) rfl rfl ?_
        suffices Hs1 : ∀ s1 : Int64, s1 = ((0 : Int64) + ((u0.toInt64) * (v0.toInt64))) → Go p e below s (fun v h L => v = some (.int (1 : Int32)) ∧ Fr h0.size L) room_1.cells room_1.slots T21 (mkF m 134 #[.val (.int shape), .val (.int a_), .val (.int b_), .val (.int c_), .val (.long d_), .second, .val (.long e_), .second, .val (.int (2 : Int32)), .val (.int (0 : Int32)), .val (.int u0), .val (.int u1), .val (.int u2), .val (.int v0), .val (.int v1), .val (.int v2), .val (.int w_), .val (.ref bu), .val (.ref bv), .val (.long s1), .second] []) from Hs1 _ rfl
        intro s1 es1
        have hs1 := own_acc hs0 hu0 hv0 (by decide)
        rw [← es1] at hs1
        refine go_iload (q := 136) X21 hx (hb hby at_134) rfl rfl ?_
        refine go_iconst (q := 137) (v := (1 : Int32)) X21 hx (hb hby at_136) rfl rfl ?_
        refine go_icmp_le (q := 140) (q' := 166) X21 hx (hb hby at_137) rfl (by decide) rfl (fun hc137 => ?_) (fun hc137 => ?_)
        · exact absurd (by decide) hc137
        · refine go_aload (q := 142) X21 hx (hb hby at_140) rfl rfl rfl ?_
          refine go_iconst (q := 143) (v := (1 : Int32)) X21 hx (hb hby at_142) rfl rfl ?_
          refine go_iload (q := 145) X21 hx (hb hby at_143) rfl rfl ?_
          refine go_i2dB (q := 146) X21 hx (hb hby at_145) rfl (db_i2d' (A := 8388608) hu1) (fun zu1 hzu1 => ?_)
          refine go_dastore (q := 147) X21 hx hZ e21 V_bu ⟨by decide, by decide⟩ 1 rfl (Nat.le_of_ble_eq_true rfl) N21 g_bu (hb hby at_146) rfl (fun T22 h22 l22 X22 N22 e22 W22 V22 => ?_)
          replace V_bv := V_bv.other W22 (Ne.symm ne_bu_bv)
          replace hsz := Nat.le_trans hsz (Nat.le_of_eq W22.size.symm)
          replace V_bu : Arv Z h22 bu k_bu .double (2 : Int32) [(.double zu0), (.double zu1)] (.double (0 : UInt64)) := V22
          refine go_aload (q := 149) X22 hx (hb hby at_147) rfl rfl rfl ?_
          refine go_iconst (q := 150) (v := (1 : Int32)) X22 hx (hb hby at_149) rfl rfl ?_
          refine go_iload (q := 152) X22 hx (hb hby at_150) rfl rfl ?_
          refine go_i2dB (q := 153) X22 hx (hb hby at_152) rfl (db_i2d' (A := 8388608) hv1) (fun zv1 hzv1 => ?_)
          refine go_dastore (q := 154) X22 hx hZ e22 V_bv ⟨by decide, by decide⟩ 1 rfl (Nat.le_of_ble_eq_true rfl) N22 g_bv (hb hby at_153) rfl (fun T23 h23 l23 X23 N23 e23 W23 V23 => ?_)
          replace V_bu := V_bu.other W23 ne_bu_bv
          replace hsz := Nat.le_trans hsz (Nat.le_of_eq W23.size.symm)
          replace V_bv : Arv Z h23 bv k_bv .double (2 : Int32) [(.double zv0), (.double zv1)] (.double (0 : UInt64)) := V23
          refine go_lload (q := 156) X23 hx (hb hby at_154) rfl rfl ?_
          refine go_iload (q := 158) X23 hx (hb hby at_156) rfl rfl ?_
          refine go_i2l (q := 159) (v := (u1.toInt64)) X23 hx (hb hby at_158) rfl rfl ?_
          refine go_iload (q := 161) X23 hx (hb hby at_159) rfl rfl ?_
          refine go_i2l (q := 162) (v := (v1.toInt64)) X23 hx (hb hby at_161) rfl rfl ?_
          refine go_lmul (q := 163) (v := ((u1.toInt64) * (v1.toInt64))) X23 hx (hb hby at_162) rfl rfl ?_
          refine go_ladd (q := 164) (v := (s1 + ((u1.toInt64) * (v1.toInt64)))) X23 hx (hb hby at_163) rfl rfl ?_
          refine go_lstore (q := 166) (l' := #[.val (.int shape), .val (.int a_), .val (.int b_), .val (.int c_), .val (.long d_), .second, .val (.long e_), .second, .val (.int (2 : Int32)), .val (.int (0 : Int32)), .val (.int u0), .val (.int u1), .val (.int u2), .val (.int v0), .val (.int v1), .val (.int v2), .val (.int w_), .val (.ref bu), .val (.ref bv), .val (.long (s1 + ((u1.toInt64) * (v1.toInt64)))), .second]) X23 hx (hb hby at_164) rfl rfl ?_
          suffices Hs2 : ∀ s2 : Int64, s2 = (s1 + ((u1.toInt64) * (v1.toInt64))) → Go p e below s (fun v h L => v = some (.int (1 : Int32)) ∧ Fr h0.size L) room_1.cells room_1.slots T23 (mkF m 166 #[.val (.int shape), .val (.int a_), .val (.int b_), .val (.int c_), .val (.long d_), .second, .val (.long e_), .second, .val (.int (2 : Int32)), .val (.int (0 : Int32)), .val (.int u0), .val (.int u1), .val (.int u2), .val (.int v0), .val (.int v1), .val (.int v2), .val (.int w_), .val (.ref bu), .val (.ref bv), .val (.long s2), .second] []) from Hs2 _ rfl
          intro s2 es2
          have hs2 := own_acc hs1 hu1 hv1 (by decide)
          rw [← es2] at hs2
          refine go_iload (q := 168) X23 hx (hb hby at_166) rfl rfl ?_
          refine go_iconst (q := 169) (v := (2 : Int32)) X23 hx (hb hby at_168) rfl rfl ?_
          refine go_icmp_le (q := 172) (q' := 198) X23 hx (hb hby at_169) rfl (by decide) rfl (fun hc169 => ?_) (fun hc169 => ?_)
          · refine go_iload (q := 200) X23 hx (hb hby at_198) rfl rfl ?_
            refine go_if_eq (q := 203) (q' := 211) X23 hx (hb hby at_200) rfl (by decide) rfl (fun hc200 => ?_) (fun hc200 => ?_)
            · refine go_aload (q := 213) X23 hx (hb hby at_211) rfl rfl rfl ?_
              refine go_aload (q := 215) X23 hx (hb hby at_213) rfl rfl rfl ?_
              refine go_callS (q := 218) (W := 0) X23 hx hZ hown e23 (hw _ (List.mem_of_getElem? (i := 5) rfl)) (hw _ (List.mem_of_getElem? (i := 6) rfl)) (hw _ (List.mem_of_getElem? (i := 7) rfl)) (hw _ (List.mem_of_getElem? (i := 8) rfl)) (by decide) [(.ref bu), (.ref bv)] [] (rm2_2 l Z a0 hw [] bu bv k_bu k_bv _ _ _ _ zu0 zu1 zv0 zv1 _ _ _ _ h23 V_bu V_bv (by decide) hzu0 hzv0 (by decide) hzu1 hzv1) (by rw [hml]; rfl) rfl (lenOf pd_1 rfl) (Nat.le_of_eq rfl) (by decide) (by decide) (hb hby at_215) rfl (by decide) (by decide) ?_
              rintro T24 L24 v24 X24 ⟨Np24, ⟨r_, rfl, hr_⟩, e24⟩
              have N24 := Fr.app N23 (Np24 _)
              show Go p e below s (fun v h L => v = some (.int (1 : Int32)) ∧ Fr h0.size L) room_1.cells room_1.slots T24 (mkF m 218 #[.val (.int shape), .val (.int a_), .val (.int b_), .val (.int c_), .val (.long d_), .second, .val (.long e_), .second, .val (.int (2 : Int32)), .val (.int (0 : Int32)), .val (.int u0), .val (.int u1), .val (.int u2), .val (.int v0), .val (.int v1), .val (.int v2), .val (.int w_), .val (.ref bu), .val (.ref bv), .val (.long s2), .second] [(.double r_)])
              refine go_lload (q := 220) X24 hx (hb hby at_218) rfl rfl ?_
              refine go_l2dB (q := 221) X24 hx (hb hby at_220) rfl (db_l2d (A := 140737488355328) (by rw [hs2.1]; exact hs2.2) (by decide)) (fun z25 hz25 => ?_)
              refine go_dcmp (q := 222) X24 hx (hb hby at_221) rfl rfl ?_
              refine go_dif_ne (q := 225) (q' := 229) X24 hx (hb hby at_222) rfl (by decide) rfl hr_ hz25 (fun hc222 => ?_) (fun hc222 => ?_)
              · exact absurd hs2.1.symm hc222
              · refine go_iconst (q := 226) (v := (1 : Int32)) X24 hx (hb hby at_225) rfl rfl ?_
                refine go_goto (q := 230) X24 hx (hb hby at_226) (by decide) rfl ?_
                exact go_retN X24 hx (by simp) hret hlk (hb hby at_230) (by decide) (by decide) ⟨rfl, N24⟩
            · exact absurd rfl hc200
          · exact absurd hc169 (by decide)
    · exact absurd rfl hc84
  · refine go_iload (q := 78) X7 hx (hb hby at_76) rfl rfl ?_
    refine go_newP (q := 80) X7 hx hZ (hw _ (List.mem_of_getElem? (i := 4) rfl)) e7 (hb hby at_78) rfl (by decide) 3 (by decide) (by decide) (by decide) (by decide) (fun T26 h26 k_bu bu eb26 X26 e26 E26 V_bu => ?_)
    have g_bu : h0.size ≤ bu := Nat.le_trans hsz (Nat.le_of_eq eb26.symm)
    replace hsz := Nat.le_trans hsz E26.1
    replace V_bu : Arv Z h26 bu k_bu .double (3 : Int32) [(.double (0 : UInt64)), (.double (0 : UInt64)), (.double (0 : UInt64))] (.double (0 : UInt64)) := V_bu.pad (pad_rep [] (.double (0 : UInt64)) 3)
    refine go_astore (q := 82) (l' := #[.val (.int shape), .val (.int a_), .val (.int b_), .val (.int c_), .val (.long d_), .second, .val (.long e_), .second, .val (.int (3 : Int32)), .val (.int (0 : Int32)), .val (.int u0), .val (.int u1), .val (.int u2), .val (.int v0), .val (.int v1), .val (.int v2), .val (.int w_), .val (.ref bu), .unset, .unset, .unset]) X26 hx (hb hby at_80) rfl rfl rfl ?_
    refine go_iload (q := 84) X26 hx (hb hby at_82) rfl rfl ?_
    refine go_if_eq (q := 87) (q' := 94) X26 hx (hb hby at_84) rfl (by decide) rfl (fun hc84 => ?_) (fun hc84 => ?_)
    · refine go_iload (q := 96) X26 hx (hb hby at_94) rfl rfl ?_
      refine go_newP (q := 98) X26 hx hZ (hw _ (List.mem_of_getElem? (i := 4) rfl)) e26 (hb hby at_96) rfl (by decide) 3 (by decide) (by decide) (by decide) (by decide) (fun T27 h27 k_bv bv eb27 X27 e27 E27 V_bv => ?_)
      have g_bv : h0.size ≤ bv := Nat.le_trans hsz (Nat.le_of_eq eb27.symm)
      have ne_bu_bv : bu ≠ bv := Nat.ne_of_lt (Nat.lt_of_lt_of_eq V_bu.lt eb27.symm)
      replace V_bu := V_bu.ext E27
      replace hsz := Nat.le_trans hsz E27.1
      replace V_bv : Arv Z h27 bv k_bv .double (3 : Int32) [(.double (0 : UInt64)), (.double (0 : UInt64)), (.double (0 : UInt64))] (.double (0 : UInt64)) := V_bv.pad (pad_rep [] (.double (0 : UInt64)) 3)
      refine go_astore (q := 100) (l' := #[.val (.int shape), .val (.int a_), .val (.int b_), .val (.int c_), .val (.long d_), .second, .val (.long e_), .second, .val (.int (3 : Int32)), .val (.int (0 : Int32)), .val (.int u0), .val (.int u1), .val (.int u2), .val (.int v0), .val (.int v1), .val (.int v2), .val (.int w_), .val (.ref bu), .val (.ref bv), .unset, .unset]) X27 hx (hb hby at_98) rfl rfl rfl ?_
      refine go_lconst (q := 101) (v := (0 : Int64)) X27 hx (hb hby at_100) rfl rfl ?_
      refine go_lstore (q := 103) (l' := #[.val (.int shape), .val (.int a_), .val (.int b_), .val (.int c_), .val (.long d_), .second, .val (.long e_), .second, .val (.int (3 : Int32)), .val (.int (0 : Int32)), .val (.int u0), .val (.int u1), .val (.int u2), .val (.int v0), .val (.int v1), .val (.int v2), .val (.int w_), .val (.ref bu), .val (.ref bv), .val (.long (0 : Int64)), .second]) X27 hx (hb hby at_101) rfl rfl ?_
      refine go_iload (q := 105) X27 hx (hb hby at_103) rfl rfl ?_
      refine go_if_le (q := 108) (q' := 134) X27 hx (hb hby at_105) rfl (by decide) rfl (fun hc105 => ?_) (fun hc105 => ?_)
      · exact absurd (by decide) hc105
      · refine go_aload (q := 110) X27 hx (hb hby at_108) rfl rfl rfl ?_
        refine go_iconst (q := 111) (v := (0 : Int32)) X27 hx (hb hby at_110) rfl rfl ?_
        refine go_iload (q := 113) X27 hx (hb hby at_111) rfl rfl ?_
        refine go_i2dB (q := 114) X27 hx (hb hby at_113) rfl (db_i2d' (A := 8388608) hu0) (fun zu0 hzu0 => ?_)
        refine go_dastore (q := 115) X27 hx hZ e27 V_bu ⟨by decide, by decide⟩ 0 rfl (Nat.le_of_ble_eq_true rfl) N7 g_bu (hb hby at_114) rfl (fun T28 h28 l28 X28 N28 e28 W28 V28 => ?_)
        replace V_bv := V_bv.other W28 (Ne.symm ne_bu_bv)
        replace hsz := Nat.le_trans hsz (Nat.le_of_eq W28.size.symm)
        replace V_bu : Arv Z h28 bu k_bu .double (3 : Int32) [(.double zu0), (.double (0 : UInt64)), (.double (0 : UInt64))] (.double (0 : UInt64)) := V28
        refine go_aload (q := 117) X28 hx (hb hby at_115) rfl rfl rfl ?_
        refine go_iconst (q := 118) (v := (0 : Int32)) X28 hx (hb hby at_117) rfl rfl ?_
        refine go_iload (q := 120) X28 hx (hb hby at_118) rfl rfl ?_
        refine go_i2dB (q := 121) X28 hx (hb hby at_120) rfl (db_i2d' (A := 8388608) hv0) (fun zv0 hzv0 => ?_)
        refine go_dastore (q := 122) X28 hx hZ e28 V_bv ⟨by decide, by decide⟩ 0 rfl (Nat.le_of_ble_eq_true rfl) N28 g_bv (hb hby at_121) rfl (fun T29 h29 l29 X29 N29 e29 W29 V29 => ?_)
        replace V_bu := V_bu.other W29 ne_bu_bv
        replace hsz := Nat.le_trans hsz (Nat.le_of_eq W29.size.symm)
        replace V_bv : Arv Z h29 bv k_bv .double (3 : Int32) [(.double zv0), (.double (0 : UInt64)), (.double (0 : UInt64))] (.double (0 : UInt64)) := V29
        refine go_lload (q := 124) X29 hx (hb hby at_122) rfl rfl ?_
        refine go_iload (q := 126) X29 hx (hb hby at_124) rfl rfl ?_
        refine go_i2l (q := 127) (v := (u0.toInt64)) X29 hx (hb hby at_126) rfl rfl ?_
        refine go_iload (q := 129) X29 hx (hb hby at_127) rfl rfl ?_
        refine go_i2l (q := 130) (v := (v0.toInt64)) X29 hx (hb hby at_129) rfl rfl ?_
        refine go_lmul (q := 131) (v := ((u0.toInt64) * (v0.toInt64))) X29 hx (hb hby at_130) rfl rfl ?_
        refine go_ladd (q := 132) (v := ((0 : Int64) + ((u0.toInt64) * (v0.toInt64)))) X29 hx (hb hby at_131) rfl rfl ?_
        refine go_lstore (q := 134) (l' := #[.val (.int shape), .val (.int a_), .val (.int b_), .val (.int c_), .val (.long d_), .second, .val (.long e_), .second, .val (.int (3 : Int32)), .val (.int (0 : Int32)), .val (.int u0), .val (.int u1), .val (.int u2), .val (.int v0), .val (.int v1), .val (.int v2), .val (.int w_), .val (.ref bu), .val (.ref bv), .val (.long ((0 : Int64) + ((u0.toInt64) * (v0.toInt64)))), .second]) X29 hx (hb hby at_132) rfl rfl ?_
        suffices Hs1 : ∀ s1 : Int64, s1 = ((0 : Int64) + ((u0.toInt64) * (v0.toInt64))) → Go p e below s (fun v h L => v = some (.int (1 : Int32)) ∧ Fr h0.size L) room_1.cells room_1.slots T29 (mkF m 134 #[.val (.int shape), .val (.int a_), .val (.int b_), .val (.int c_), .val (.long d_), .second, .val (.long e_), .second, .val (.int (3 : Int32)), .val (.int (0 : Int32)), .val (.int u0), .val (.int u1), .val (.int u2), .val (.int v0), .val (.int v1), .val (.int v2), .val (.int w_), .val (.ref bu), .val (.ref bv), .val (.long s1), .second] []) from Hs1 _ rfl
        intro s1 es1
        have hs1 := own_acc hs0 hu0 hv0 (by decide)
        rw [← es1] at hs1
        refine go_iload (q := 136) X29 hx (hb hby at_134) rfl rfl ?_
        refine go_iconst (q := 137) (v := (1 : Int32)) X29 hx (hb hby at_136) rfl rfl ?_
        refine go_icmp_le (q := 140) (q' := 166) X29 hx (hb hby at_137) rfl (by decide) rfl (fun hc137 => ?_) (fun hc137 => ?_)
        · exact absurd (by decide) hc137
        · refine go_aload (q := 142) X29 hx (hb hby at_140) rfl rfl rfl ?_
          refine go_iconst (q := 143) (v := (1 : Int32)) X29 hx (hb hby at_142) rfl rfl ?_
          refine go_iload (q := 145) X29 hx (hb hby at_143) rfl rfl ?_
          refine go_i2dB (q := 146) X29 hx (hb hby at_145) rfl (db_i2d' (A := 8388608) hu1) (fun zu1 hzu1 => ?_)
          refine go_dastore (q := 147) X29 hx hZ e29 V_bu ⟨by decide, by decide⟩ 1 rfl (Nat.le_of_ble_eq_true rfl) N29 g_bu (hb hby at_146) rfl (fun T30 h30 l30 X30 N30 e30 W30 V30 => ?_)
          replace V_bv := V_bv.other W30 (Ne.symm ne_bu_bv)
          replace hsz := Nat.le_trans hsz (Nat.le_of_eq W30.size.symm)
          replace V_bu : Arv Z h30 bu k_bu .double (3 : Int32) [(.double zu0), (.double zu1), (.double (0 : UInt64))] (.double (0 : UInt64)) := V30
          refine go_aload (q := 149) X30 hx (hb hby at_147) rfl rfl rfl ?_
          refine go_iconst (q := 150) (v := (1 : Int32)) X30 hx (hb hby at_149) rfl rfl ?_
          refine go_iload (q := 152) X30 hx (hb hby at_150) rfl rfl ?_
          refine go_i2dB (q := 153) X30 hx (hb hby at_152) rfl (db_i2d' (A := 8388608) hv1) (fun zv1 hzv1 => ?_)
          refine go_dastore (q := 154) X30 hx hZ e30 V_bv ⟨by decide, by decide⟩ 1 rfl (Nat.le_of_ble_eq_true rfl) N30 g_bv (hb hby at_153) rfl (fun T31 h31 l31 X31 N31 e31 W31 V31 => ?_)
          replace V_bu := V_bu.other W31 ne_bu_bv
          replace hsz := Nat.le_trans hsz (Nat.le_of_eq W31.size.symm)
          replace V_bv : Arv Z h31 bv k_bv .double (3 : Int32) [(.double zv0), (.double zv1), (.double (0 : UInt64))] (.double (0 : UInt64)) := V31
          refine go_lload (q := 156) X31 hx (hb hby at_154) rfl rfl ?_
          refine go_iload (q := 158) X31 hx (hb hby at_156) rfl rfl ?_
          refine go_i2l (q := 159) (v := (u1.toInt64)) X31 hx (hb hby at_158) rfl rfl ?_
          refine go_iload (q := 161) X31 hx (hb hby at_159) rfl rfl ?_
          refine go_i2l (q := 162) (v := (v1.toInt64)) X31 hx (hb hby at_161) rfl rfl ?_
          refine go_lmul (q := 163) (v := ((u1.toInt64) * (v1.toInt64))) X31 hx (hb hby at_162) rfl rfl ?_
          refine go_ladd (q := 164) (v := (s1 + ((u1.toInt64) * (v1.toInt64)))) X31 hx (hb hby at_163) rfl rfl ?_
          refine go_lstore (q := 166) (l' := #[.val (.int shape), .val (.int a_), .val (.int b_), .val (.int c_), .val (.long d_), .second, .val (.long e_), .second, .val (.int (3 : Int32)), .val (.int (0 : Int32)), .val (.int u0), .val (.int u1), .val (.int u2), .val (.int v0), .val (.int v1), .val (.int v2), .val (.int w_), .val (.ref bu), .val (.ref bv), .val (.long (s1 + ((u1.toInt64) * (v1.toInt64)))), .second]) X31 hx (hb hby at_164) rfl rfl ?_
          suffices Hs2 : ∀ s2 : Int64, s2 = (s1 + ((u1.toInt64) * (v1.toInt64))) → Go p e below s (fun v h L => v = some (.int (1 : Int32)) ∧ Fr h0.size L) room_1.cells room_1.slots T31 (mkF m 166 #[.val (.int shape), .val (.int a_), .val (.int b_), .val (.int c_), .val (.long d_), .second, .val (.long e_), .second, .val (.int (3 : Int32)), .val (.int (0 : Int32)), .val (.int u0), .val (.int u1), .val (.int u2), .val (.int v0), .val (.int v1), .val (.int v2), .val (.int w_), .val (.ref bu), .val (.ref bv), .val (.long s2), .second] []) from Hs2 _ rfl
          intro s2 es2
          have hs2 := own_acc hs1 hu1 hv1 (by decide)
          rw [← es2] at hs2
          refine go_iload (q := 168) X31 hx (hb hby at_166) rfl rfl ?_
          refine go_iconst (q := 169) (v := (2 : Int32)) X31 hx (hb hby at_168) rfl rfl ?_
          refine go_icmp_le (q := 172) (q' := 198) X31 hx (hb hby at_169) rfl (by decide) rfl (fun hc169 => ?_) (fun hc169 => ?_)
          · exact absurd (by decide) hc169
          · refine go_aload (q := 174) X31 hx (hb hby at_172) rfl rfl rfl ?_
            refine go_iconst (q := 175) (v := (2 : Int32)) X31 hx (hb hby at_174) rfl rfl ?_
            refine go_iload (q := 177) X31 hx (hb hby at_175) rfl rfl ?_
            refine go_i2dB (q := 178) X31 hx (hb hby at_177) rfl (db_i2d' (A := 8388608) hu2) (fun zu2 hzu2 => ?_)
            refine go_dastore (q := 179) X31 hx hZ e31 V_bu ⟨by decide, by decide⟩ 2 rfl (Nat.le_of_ble_eq_true rfl) N31 g_bu (hb hby at_178) rfl (fun T32 h32 l32 X32 N32 e32 W32 V32 => ?_)
            replace V_bv := V_bv.other W32 (Ne.symm ne_bu_bv)
            replace hsz := Nat.le_trans hsz (Nat.le_of_eq W32.size.symm)
            replace V_bu : Arv Z h32 bu k_bu .double (3 : Int32) [(.double zu0), (.double zu1), (.double zu2)] (.double (0 : UInt64)) := V32
            refine go_aload (q := 181) X32 hx (hb hby at_179) rfl rfl rfl ?_
            refine go_iconst (q := 182) (v := (2 : Int32)) X32 hx (hb hby at_181) rfl rfl ?_
            refine go_iload (q := 184) X32 hx (hb hby at_182) rfl rfl ?_
            refine go_i2dB (q := 185) X32 hx (hb hby at_184) rfl (db_i2d' (A := 8388608) hv2) (fun zv2 hzv2 => ?_)
            refine go_dastore (q := 186) X32 hx hZ e32 V_bv ⟨by decide, by decide⟩ 2 rfl (Nat.le_of_ble_eq_true rfl) N32 g_bv (hb hby at_185) rfl (fun T33 h33 l33 X33 N33 e33 W33 V33 => ?_)
            replace V_bu := V_bu.other W33 ne_bu_bv
            replace hsz := Nat.le_trans hsz (Nat.le_of_eq W33.size.symm)
            replace V_bv : Arv Z h33 bv k_bv .double (3 : Int32) [(.double zv0), (.double zv1), (.double zv2)] (.double (0 : UInt64)) := V33
            refine go_lload (q := 188) X33 hx (hb hby at_186) rfl rfl ?_
            refine go_iload (q := 190) X33 hx (hb hby at_188) rfl rfl ?_
            refine go_i2l (q := 191) (v := (u2.toInt64)) X33 hx (hb hby at_190) rfl rfl ?_
            refine go_iload (q := 193) X33 hx (hb hby at_191) rfl rfl ?_
            refine go_i2l (q := 194) (v := (v2.toInt64)) X33 hx (hb hby at_193) rfl rfl ?_
            refine go_lmul (q := 195) (v := ((u2.toInt64) * (v2.toInt64))) X33 hx (hb hby at_194) rfl rfl ?_
            refine go_ladd (q := 196) (v := (s2 + ((u2.toInt64) * (v2.toInt64)))) X33 hx (hb hby at_195) rfl rfl ?_
            refine go_lstore (q := 198) (l' := #[.val (.int shape), .val (.int a_), .val (.int b_), .val (.int c_), .val (.long d_), .second, .val (.long e_), .second, .val (.int (3 : Int32)), .val (.int (0 : Int32)), .val (.int u0), .val (.int u1), .val (.int u2), .val (.int v0), .val (.int v1), .val (.int v2), .val (.int w_), .val (.ref bu), .val (.ref bv), .val (.long (s2 + ((u2.toInt64) * (v2.toInt64)))), .second]) X33 hx (hb hby at_196) rfl rfl ?_
            suffices Hs3 : ∀ s3 : Int64, s3 = (s2 + ((u2.toInt64) * (v2.toInt64))) → Go p e below s (fun v h L => v = some (.int (1 : Int32)) ∧ Fr h0.size L) room_1.cells room_1.slots T33 (mkF m 198 #[.val (.int shape), .val (.int a_), .val (.int b_), .val (.int c_), .val (.long d_), .second, .val (.long e_), .second, .val (.int (3 : Int32)), .val (.int (0 : Int32)), .val (.int u0), .val (.int u1), .val (.int u2), .val (.int v0), .val (.int v1), .val (.int v2), .val (.int w_), .val (.ref bu), .val (.ref bv), .val (.long s3), .second] []) from Hs3 _ rfl
            intro s3 es3
            have hs3 := own_acc hs2 hu2 hv2 (by decide)
            rw [← es3] at hs3
            refine go_iload (q := 200) X33 hx (hb hby at_198) rfl rfl ?_
            refine go_if_eq (q := 203) (q' := 211) X33 hx (hb hby at_200) rfl (by decide) rfl (fun hc200 => ?_) (fun hc200 => ?_)
            · refine go_aload (q := 213) X33 hx (hb hby at_211) rfl rfl rfl ?_
              refine go_aload (q := 215) X33 hx (hb hby at_213) rfl rfl rfl ?_
              refine go_callS (q := 218) (W := 0) X33 hx hZ hown e33 (hw _ (List.mem_of_getElem? (i := 5) rfl)) (hw _ (List.mem_of_getElem? (i := 6) rfl)) (hw _ (List.mem_of_getElem? (i := 7) rfl)) (hw _ (List.mem_of_getElem? (i := 8) rfl)) (by decide) [(.ref bu), (.ref bv)] [] (rm2_3 l Z a0 hw [] bu bv k_bu k_bv _ _ _ _ zu0 zu1 zu2 zv0 zv1 zv2 _ _ _ _ _ _ h33 V_bu V_bv (by decide) hzu0 hzv0 (by decide) hzu1 hzv1 (by decide) hzu2 hzv2) (by rw [hml]; rfl) rfl (lenOf pd_1 rfl) (Nat.le_of_eq rfl) (by decide) (by decide) (hb hby at_215) rfl (by decide) (by decide) ?_
              rintro T34 L34 v34 X34 ⟨Np34, ⟨r_, rfl, hr_⟩, e34⟩
              have N34 := Fr.app N33 (Np34 _)
              show Go p e below s (fun v h L => v = some (.int (1 : Int32)) ∧ Fr h0.size L) room_1.cells room_1.slots T34 (mkF m 218 #[.val (.int shape), .val (.int a_), .val (.int b_), .val (.int c_), .val (.long d_), .second, .val (.long e_), .second, .val (.int (3 : Int32)), .val (.int (0 : Int32)), .val (.int u0), .val (.int u1), .val (.int u2), .val (.int v0), .val (.int v1), .val (.int v2), .val (.int w_), .val (.ref bu), .val (.ref bv), .val (.long s3), .second] [(.double r_)])
              refine go_lload (q := 220) X34 hx (hb hby at_218) rfl rfl ?_
              refine go_l2dB (q := 221) X34 hx (hb hby at_220) rfl (db_l2d (A := 211106232532992) (by rw [hs3.1]; exact hs3.2) (by decide)) (fun z35 hz35 => ?_)
              refine go_dcmp (q := 222) X34 hx (hb hby at_221) rfl rfl ?_
              refine go_dif_ne (q := 225) (q' := 229) X34 hx (hb hby at_222) rfl (by decide) rfl hr_ hz35 (fun hc222 => ?_) (fun hc222 => ?_)
              · exact absurd hs3.1.symm hc222
              · refine go_iconst (q := 226) (v := (1 : Int32)) X34 hx (hb hby at_225) rfl rfl ?_
                refine go_goto (q := 230) X34 hx (hb hby at_226) (by decide) rfl ?_
                exact go_retN X34 hx (by simp) hret hlk (hb hby at_230) (by decide) (by decide) ⟨rfl, N34⟩
            · exact absurd rfl hc200
    · exact absurd rfl hc84
  · refine go_iload (q := 78) X7 hx (hb hby at_76) rfl rfl ?_
    refine go_newP (q := 80) X7 hx hZ (hw _ (List.mem_of_getElem? (i := 4) rfl)) e7 (hb hby at_78) rfl (by decide) 0 (by decide) (by decide) (by decide) (by decide) (fun T36 h36 k_bu bu eb36 X36 e36 E36 V_bu => ?_)
    have g_bu : h0.size ≤ bu := Nat.le_trans hsz (Nat.le_of_eq eb36.symm)
    replace hsz := Nat.le_trans hsz E36.1
    replace V_bu : Arv Z h36 bu k_bu .double (0 : Int32) [] (.double (0 : UInt64)) := V_bu.pad (pad_rep [] (.double (0 : UInt64)) 0)
    refine go_astore (q := 82) (l' := #[.val (.int shape), .val (.int a_), .val (.int b_), .val (.int c_), .val (.long d_), .second, .val (.long e_), .second, .val (.int (0 : Int32)), .val (.int (1 : Int32)), .val (.int u0), .val (.int u1), .val (.int u2), .val (.int v0), .val (.int v1), .val (.int v2), .val (.int w_), .val (.ref bu), .unset, .unset, .unset]) X36 hx (hb hby at_80) rfl rfl rfl ?_
    refine go_iload (q := 84) X36 hx (hb hby at_82) rfl rfl ?_
    refine go_if_eq (q := 87) (q' := 94) X36 hx (hb hby at_84) rfl (by decide) rfl (fun hc84 => ?_) (fun hc84 => ?_)
    · exact absurd hc84 (by decide)
    · refine go_iload (q := 89) X36 hx (hb hby at_87) rfl rfl ?_
      refine go_iconst (q := 90) (v := (1 : Int32)) X36 hx (hb hby at_89) rfl rfl ?_
      refine go_iadd (q := 91) (v := (1 : Int32)) X36 hx (hb hby at_90) rfl rfl ?_
      refine go_goto (q := 96) X36 hx (hb hby at_91) (by decide) rfl ?_
      refine go_newP (q := 98) X36 hx hZ (hw _ (List.mem_of_getElem? (i := 4) rfl)) e36 (hb hby at_96) rfl (by decide) 1 (by decide) (by decide) (by decide) (by decide) (fun T37 h37 k_bv bv eb37 X37 e37 E37 V_bv => ?_)
      have g_bv : h0.size ≤ bv := Nat.le_trans hsz (Nat.le_of_eq eb37.symm)
      have ne_bu_bv : bu ≠ bv := Nat.ne_of_lt (Nat.lt_of_lt_of_eq V_bu.lt eb37.symm)
      replace V_bu := V_bu.ext E37
      replace hsz := Nat.le_trans hsz E37.1
      replace V_bv : Arv Z h37 bv k_bv .double (1 : Int32) [(.double (0 : UInt64))] (.double (0 : UInt64)) := V_bv.pad (pad_rep [] (.double (0 : UInt64)) 1)
      refine go_astore (q := 100) (l' := #[.val (.int shape), .val (.int a_), .val (.int b_), .val (.int c_), .val (.long d_), .second, .val (.long e_), .second, .val (.int (0 : Int32)), .val (.int (1 : Int32)), .val (.int u0), .val (.int u1), .val (.int u2), .val (.int v0), .val (.int v1), .val (.int v2), .val (.int w_), .val (.ref bu), .val (.ref bv), .unset, .unset]) X37 hx (hb hby at_98) rfl rfl rfl ?_
      refine go_lconst (q := 101) (v := (0 : Int64)) X37 hx (hb hby at_100) rfl rfl ?_
      refine go_lstore (q := 103) (l' := #[.val (.int shape), .val (.int a_), .val (.int b_), .val (.int c_), .val (.long d_), .second, .val (.long e_), .second, .val (.int (0 : Int32)), .val (.int (1 : Int32)), .val (.int u0), .val (.int u1), .val (.int u2), .val (.int v0), .val (.int v1), .val (.int v2), .val (.int w_), .val (.ref bu), .val (.ref bv), .val (.long (0 : Int64)), .second]) X37 hx (hb hby at_101) rfl rfl ?_
      refine go_iload (q := 105) X37 hx (hb hby at_103) rfl rfl ?_
      refine go_if_le (q := 108) (q' := 134) X37 hx (hb hby at_105) rfl (by decide) rfl (fun hc105 => ?_) (fun hc105 => ?_)
      · refine go_iload (q := 136) X37 hx (hb hby at_134) rfl rfl ?_
        refine go_iconst (q := 137) (v := (1 : Int32)) X37 hx (hb hby at_136) rfl rfl ?_
        refine go_icmp_le (q := 140) (q' := 166) X37 hx (hb hby at_137) rfl (by decide) rfl (fun hc137 => ?_) (fun hc137 => ?_)
        · refine go_iload (q := 168) X37 hx (hb hby at_166) rfl rfl ?_
          refine go_iconst (q := 169) (v := (2 : Int32)) X37 hx (hb hby at_168) rfl rfl ?_
          refine go_icmp_le (q := 172) (q' := 198) X37 hx (hb hby at_169) rfl (by decide) rfl (fun hc169 => ?_) (fun hc169 => ?_)
          · refine go_iload (q := 200) X37 hx (hb hby at_198) rfl rfl ?_
            refine go_if_eq (q := 203) (q' := 211) X37 hx (hb hby at_200) rfl (by decide) rfl (fun hc200 => ?_) (fun hc200 => ?_)
            · exact absurd hc200 (by decide)
            · refine go_aload (q := 205) X37 hx (hb hby at_203) rfl rfl rfl ?_
              refine go_iload (q := 207) X37 hx (hb hby at_205) rfl rfl ?_
              refine go_iload (q := 209) X37 hx (hb hby at_207) rfl rfl ?_
              refine go_i2dB (q := 210) X37 hx (hb hby at_209) rfl (db_i2d' (A := 8388608) hw_) (fun zw hzw => ?_)
              refine go_dastore (q := 211) X37 hx hZ e37 V_bv ⟨by decide, by decide⟩ 0 rfl (Nat.le_of_ble_eq_true rfl) N7 g_bv (hb hby at_210) rfl (fun T38 h38 l38 X38 N38 e38 W38 V38 => ?_)
              replace V_bu := V_bu.other W38 ne_bu_bv
              replace hsz := Nat.le_trans hsz (Nat.le_of_eq W38.size.symm)
              replace V_bv : Arv Z h38 bv k_bv .double (1 : Int32) [(.double zw)] (.double (0 : UInt64)) := V38
              refine go_aload (q := 213) X38 hx (hb hby at_211) rfl rfl rfl ?_
              refine go_aload (q := 215) X38 hx (hb hby at_213) rfl rfl rfl ?_
              refine go_callS (q := 218) (W := 0) X38 hx hZ hown e38 (hw _ (List.mem_of_getElem? (i := 5) rfl)) (hw _ (List.mem_of_getElem? (i := 6) rfl)) (hw _ (List.mem_of_getElem? (i := 7) rfl)) (hw _ (List.mem_of_getElem? (i := 8) rfl)) (by decide) [(.ref bu), (.ref bv)] [] (rm2_0 l Z a0 hw [] bu bv k_bu k_bv _ _ _ _    h38 V_bu V_bv) (by rw [hml]; rfl) rfl (lenOf pd_1 rfl) (Nat.le_of_eq rfl) (by decide) (by decide) (hb hby at_215) rfl (by decide) (by decide) ?_
              rintro T39 L39 v39 X39 ⟨Np39, ⟨r_, rfl, hr_⟩, e39⟩
              have N39 := Fr.app N38 (Np39 _)
              show Go p e below s (fun v h L => v = some (.int (1 : Int32)) ∧ Fr h0.size L) room_1.cells room_1.slots T39 (mkF m 218 #[.val (.int shape), .val (.int a_), .val (.int b_), .val (.int c_), .val (.long d_), .second, .val (.long e_), .second, .val (.int (0 : Int32)), .val (.int (1 : Int32)), .val (.int u0), .val (.int u1), .val (.int u2), .val (.int v0), .val (.int v1), .val (.int v2), .val (.int w_), .val (.ref bu), .val (.ref bv), .val (.long (0 : Int64)), .second] [(.double r_)])
              refine go_lload (q := 220) X39 hx (hb hby at_218) rfl rfl ?_
              refine go_l2dB (q := 221) X39 hx (hb hby at_220) rfl (db_l2d (A := 0) (by rw [hs0.1]; exact hs0.2) (by decide)) (fun z40 hz40 => ?_)
              refine go_dcmp (q := 222) X39 hx (hb hby at_221) rfl rfl ?_
              refine go_dif_ne (q := 225) (q' := 229) X39 hx (hb hby at_222) rfl (by decide) rfl hr_ hz40 (fun hc222 => ?_) (fun hc222 => ?_)
              · exact absurd hs0.1.symm hc222
              · refine go_iconst (q := 226) (v := (1 : Int32)) X39 hx (hb hby at_225) rfl rfl ?_
                refine go_goto (q := 230) X39 hx (hb hby at_226) (by decide) rfl ?_
                exact go_retN X39 hx (by simp) hret hlk (hb hby at_230) (by decide) (by decide) ⟨rfl, N39⟩
          · exact absurd hc169 (by decide)
        · exact absurd hc137 (by decide)
      · exact absurd hc105 (by decide)
  · refine go_iload (q := 78) X7 hx (hb hby at_76) rfl rfl ?_
    refine go_newP (q := 80) X7 hx hZ (hw _ (List.mem_of_getElem? (i := 4) rfl)) e7 (hb hby at_78) rfl (by decide) 1 (by decide) (by decide) (by decide) (by decide) (fun T41 h41 k_bu bu eb41 X41 e41 E41 V_bu => ?_)
    have g_bu : h0.size ≤ bu := Nat.le_trans hsz (Nat.le_of_eq eb41.symm)
    replace hsz := Nat.le_trans hsz E41.1
    replace V_bu : Arv Z h41 bu k_bu .double (1 : Int32) [(.double (0 : UInt64))] (.double (0 : UInt64)) := V_bu.pad (pad_rep [] (.double (0 : UInt64)) 1)
    refine go_astore (q := 82) (l' := #[.val (.int shape), .val (.int a_), .val (.int b_), .val (.int c_), .val (.long d_), .second, .val (.long e_), .second, .val (.int (1 : Int32)), .val (.int (1 : Int32)), .val (.int u0), .val (.int u1), .val (.int u2), .val (.int v0), .val (.int v1), .val (.int v2), .val (.int w_), .val (.ref bu), .unset, .unset, .unset]) X41 hx (hb hby at_80) rfl rfl rfl ?_
    refine go_iload (q := 84) X41 hx (hb hby at_82) rfl rfl ?_
    refine go_if_eq (q := 87) (q' := 94) X41 hx (hb hby at_84) rfl (by decide) rfl (fun hc84 => ?_) (fun hc84 => ?_)
    · exact absurd hc84 (by decide)
    · refine go_iload (q := 89) X41 hx (hb hby at_87) rfl rfl ?_
      refine go_iconst (q := 90) (v := (1 : Int32)) X41 hx (hb hby at_89) rfl rfl ?_
      refine go_iadd (q := 91) (v := (2 : Int32)) X41 hx (hb hby at_90) rfl rfl ?_
      refine go_goto (q := 96) X41 hx (hb hby at_91) (by decide) rfl ?_
      refine go_newP (q := 98) X41 hx hZ (hw _ (List.mem_of_getElem? (i := 4) rfl)) e41 (hb hby at_96) rfl (by decide) 2 (by decide) (by decide) (by decide) (by decide) (fun T42 h42 k_bv bv eb42 X42 e42 E42 V_bv => ?_)
      have g_bv : h0.size ≤ bv := Nat.le_trans hsz (Nat.le_of_eq eb42.symm)
      have ne_bu_bv : bu ≠ bv := Nat.ne_of_lt (Nat.lt_of_lt_of_eq V_bu.lt eb42.symm)
      replace V_bu := V_bu.ext E42
      replace hsz := Nat.le_trans hsz E42.1
      replace V_bv : Arv Z h42 bv k_bv .double (2 : Int32) [(.double (0 : UInt64)), (.double (0 : UInt64))] (.double (0 : UInt64)) := V_bv.pad (pad_rep [] (.double (0 : UInt64)) 2)
      refine go_astore (q := 100) (l' := #[.val (.int shape), .val (.int a_), .val (.int b_), .val (.int c_), .val (.long d_), .second, .val (.long e_), .second, .val (.int (1 : Int32)), .val (.int (1 : Int32)), .val (.int u0), .val (.int u1), .val (.int u2), .val (.int v0), .val (.int v1), .val (.int v2), .val (.int w_), .val (.ref bu), .val (.ref bv), .unset, .unset]) X42 hx (hb hby at_98) rfl rfl rfl ?_
      refine go_lconst (q := 101) (v := (0 : Int64)) X42 hx (hb hby at_100) rfl rfl ?_
      refine go_lstore (q := 103) (l' := #[.val (.int shape), .val (.int a_), .val (.int b_), .val (.int c_), .val (.long d_), .second, .val (.long e_), .second, .val (.int (1 : Int32)), .val (.int (1 : Int32)), .val (.int u0), .val (.int u1), .val (.int u2), .val (.int v0), .val (.int v1), .val (.int v2), .val (.int w_), .val (.ref bu), .val (.ref bv), .val (.long (0 : Int64)), .second]) X42 hx (hb hby at_101) rfl rfl ?_
      refine go_iload (q := 105) X42 hx (hb hby at_103) rfl rfl ?_
      refine go_if_le (q := 108) (q' := 134) X42 hx (hb hby at_105) rfl (by decide) rfl (fun hc105 => ?_) (fun hc105 => ?_)
      · exact absurd (by decide) hc105
      · refine go_aload (q := 110) X42 hx (hb hby at_108) rfl rfl rfl ?_
        refine go_iconst (q := 111) (v := (0 : Int32)) X42 hx (hb hby at_110) rfl rfl ?_
        refine go_iload (q := 113) X42 hx (hb hby at_111) rfl rfl ?_
        refine go_i2dB (q := 114) X42 hx (hb hby at_113) rfl (db_i2d' (A := 8388608) hu0) (fun zu0 hzu0 => ?_)
        refine go_dastore (q := 115) X42 hx hZ e42 V_bu ⟨by decide, by decide⟩ 0 rfl (Nat.le_of_ble_eq_true rfl) N7 g_bu (hb hby at_114) rfl (fun T43 h43 l43 X43 N43 e43 W43 V43 => ?_)
        replace V_bv := V_bv.other W43 (Ne.symm ne_bu_bv)
        replace hsz := Nat.le_trans hsz (Nat.le_of_eq W43.size.symm)
        replace V_bu : Arv Z h43 bu k_bu .double (1 : Int32) [(.double zu0)] (.double (0 : UInt64)) := V43
        refine go_aload (q := 117) X43 hx (hb hby at_115) rfl rfl rfl ?_
        refine go_iconst (q := 118) (v := (0 : Int32)) X43 hx (hb hby at_117) rfl rfl ?_
        refine go_iload (q := 120) X43 hx (hb hby at_118) rfl rfl ?_
        refine go_i2dB (q := 121) X43 hx (hb hby at_120) rfl (db_i2d' (A := 8388608) hv0) (fun zv0 hzv0 => ?_)
        refine go_dastore (q := 122) X43 hx hZ e43 V_bv ⟨by decide, by decide⟩ 0 rfl (Nat.le_of_ble_eq_true rfl) N43 g_bv (hb hby at_121) rfl (fun T44 h44 l44 X44 N44 e44 W44 V44 => ?_)
        replace V_bu := V_bu.other W44 ne_bu_bv
        replace hsz := Nat.le_trans hsz (Nat.le_of_eq W44.size.symm)
        replace V_bv : Arv Z h44 bv k_bv .double (2 : Int32) [(.double zv0), (.double (0 : UInt64))] (.double (0 : UInt64)) := V44
        refine go_lload (q := 124) X44 hx (hb hby at_122) rfl rfl ?_
        refine go_iload (q := 126) X44 hx (hb hby at_124) rfl rfl ?_
        refine go_i2l (q := 127) (v := (u0.toInt64)) X44 hx (hb hby at_126) rfl rfl ?_
        refine go_iload (q := 129) X44 hx (hb hby at_127) rfl rfl ?_
        refine go_i2l (q := 130) (v := (v0.toInt64)) X44 hx (hb hby at_129) rfl rfl ?_
        refine go_lmul (q := 131) (v := ((u0.toInt64) * (v0.toInt64))) X44 hx (hb hby at_130) rfl rfl ?_
        refine go_ladd (q := 132) (v := ((0 : Int64) + ((u0.toInt64) * (v0.toInt64)))) X44 hx (hb hby at_131) rfl rfl ?_
        refine go_lstore (q := 134) (l' := #[.val (.int shape), .val (.int a_), .val (.int b_), .val (.int c_), .val (.long d_), .second, .val (.long e_), .second, .val (.int (1 : Int32)), .val (.int (1 : Int32)), .val (.int u0), .val (.int u1), .val (.int u2), .val (.int v0), .val (.int v1), .val (.int v2), .val (.int w_), .val (.ref bu), .val (.ref bv), .val (.long ((0 : Int64) + ((u0.toInt64) * (v0.toInt64)))), .second]) X44 hx (hb hby at_132) rfl rfl ?_
        suffices Hs1 : ∀ s1 : Int64, s1 = ((0 : Int64) + ((u0.toInt64) * (v0.toInt64))) → Go p e below s (fun v h L => v = some (.int (1 : Int32)) ∧ Fr h0.size L) room_1.cells room_1.slots T44 (mkF m 134 #[.val (.int shape), .val (.int a_), .val (.int b_), .val (.int c_), .val (.long d_), .second, .val (.long e_), .second, .val (.int (1 : Int32)), .val (.int (1 : Int32)), .val (.int u0), .val (.int u1), .val (.int u2), .val (.int v0), .val (.int v1), .val (.int v2), .val (.int w_), .val (.ref bu), .val (.ref bv), .val (.long s1), .second] []) from Hs1 _ rfl
        intro s1 es1
        have hs1 := own_acc hs0 hu0 hv0 (by decide)
        rw [← es1] at hs1
        refine go_iload (q := 136) X44 hx (hb hby at_134) rfl rfl ?_
        refine go_iconst (q := 137) (v := (1 : Int32)) X44 hx (hb hby at_136) rfl rfl ?_
        refine go_icmp_le (q := 140) (q' := 166) X44 hx (hb hby at_137) rfl (by decide) rfl (fun hc137 => ?_) (fun hc137 => ?_)
        · refine go_iload (q := 168) X44 hx (hb hby at_166) rfl rfl ?_
          refine go_iconst (q := 169) (v := (2 : Int32)) X44 hx (hb hby at_168) rfl rfl ?_
          refine go_icmp_le (q := 172) (q' := 198) X44 hx (hb hby at_169) rfl (by decide) rfl (fun hc169 => ?_) (fun hc169 => ?_)
          · refine go_iload (q := 200) X44 hx (hb hby at_198) rfl rfl ?_
            refine go_if_eq (q := 203) (q' := 211) X44 hx (hb hby at_200) rfl (by decide) rfl (fun hc200 => ?_) (fun hc200 => ?_)
            · exact absurd hc200 (by decide)
            · refine go_aload (q := 205) X44 hx (hb hby at_203) rfl rfl rfl ?_
              refine go_iload (q := 207) X44 hx (hb hby at_205) rfl rfl ?_
              refine go_iload (q := 209) X44 hx (hb hby at_207) rfl rfl ?_
              refine go_i2dB (q := 210) X44 hx (hb hby at_209) rfl (db_i2d' (A := 8388608) hw_) (fun zw hzw => ?_)
              refine go_dastore (q := 211) X44 hx hZ e44 V_bv ⟨by decide, by decide⟩ 1 rfl (Nat.le_of_ble_eq_true rfl) N44 g_bv (hb hby at_210) rfl (fun T45 h45 l45 X45 N45 e45 W45 V45 => ?_)
              replace V_bu := V_bu.other W45 ne_bu_bv
              replace hsz := Nat.le_trans hsz (Nat.le_of_eq W45.size.symm)
              replace V_bv : Arv Z h45 bv k_bv .double (2 : Int32) [(.double zv0), (.double zw)] (.double (0 : UInt64)) := V45
              refine go_aload (q := 213) X45 hx (hb hby at_211) rfl rfl rfl ?_
              refine go_aload (q := 215) X45 hx (hb hby at_213) rfl rfl rfl ?_
              refine go_callS (q := 218) (W := 0) X45 hx hZ hown e45 (hw _ (List.mem_of_getElem? (i := 5) rfl)) (hw _ (List.mem_of_getElem? (i := 6) rfl)) (hw _ (List.mem_of_getElem? (i := 7) rfl)) (hw _ (List.mem_of_getElem? (i := 8) rfl)) (by decide) [(.ref bu), (.ref bv)] [] (rm2_1 l Z a0 hw [] bu bv k_bu k_bv _ _ _ _ zu0 zv0 _ _ h45 V_bu V_bv (by decide) hzu0 hzv0) (by rw [hml]; rfl) rfl (lenOf pd_1 rfl) (Nat.le_of_eq rfl) (by decide) (by decide) (hb hby at_215) rfl (by decide) (by decide) ?_
              rintro T46 L46 v46 X46 ⟨Np46, ⟨r_, rfl, hr_⟩, e46⟩
              have N46 := Fr.app N45 (Np46 _)
              show Go p e below s (fun v h L => v = some (.int (1 : Int32)) ∧ Fr h0.size L) room_1.cells room_1.slots T46 (mkF m 218 #[.val (.int shape), .val (.int a_), .val (.int b_), .val (.int c_), .val (.long d_), .second, .val (.long e_), .second, .val (.int (1 : Int32)), .val (.int (1 : Int32)), .val (.int u0), .val (.int u1), .val (.int u2), .val (.int v0), .val (.int v1), .val (.int v2), .val (.int w_), .val (.ref bu), .val (.ref bv), .val (.long s1), .second] [(.double r_)])
              refine go_lload (q := 220) X46 hx (hb hby at_218) rfl rfl ?_
              refine go_l2dB (q := 221) X46 hx (hb hby at_220) rfl (db_l2d (A := 70368744177664) (by rw [hs1.1]; exact hs1.2) (by decide)) (fun z47 hz47 => ?_)
              refine go_dcmp (q := 222) X46 hx (hb hby at_221) rfl rfl ?_
              refine go_dif_ne (q := 225) (q' := 229) X46 hx (hb hby at_222) rfl (by decide) rfl hr_ hz47 (fun hc222 => ?_) (fun hc222 => ?_)
              · exact absurd hs1.1.symm hc222
              · refine go_iconst (q := 226) (v := (1 : Int32)) X46 hx (hb hby at_225) rfl rfl ?_
                refine go_goto (q := 230) X46 hx (hb hby at_226) (by decide) rfl ?_
                exact go_retN X46 hx (by simp) hret hlk (hb hby at_230) (by decide) (by decide) ⟨rfl, N46⟩
          · exact absurd hc169 (by decide)
        · exact absurd hc137 (by decide)
  · refine go_iload (q := 78) X7 hx (hb hby at_76) rfl rfl ?_
    refine go_newP (q := 80) X7 hx hZ (hw _ (List.mem_of_getElem? (i := 4) rfl)) e7 (hb hby at_78) rfl (by decide) 2 (by decide) (by decide) (by decide) (by decide) (fun T48 h48 k_bu bu eb48 X48 e48 E48 V_bu => ?_)
    have g_bu : h0.size ≤ bu := Nat.le_trans hsz (Nat.le_of_eq eb48.symm)
    replace hsz := Nat.le_trans hsz E48.1
    replace V_bu : Arv Z h48 bu k_bu .double (2 : Int32) [(.double (0 : UInt64)), (.double (0 : UInt64))] (.double (0 : UInt64)) := V_bu.pad (pad_rep [] (.double (0 : UInt64)) 2)
    refine go_astore (q := 82) (l' := #[.val (.int shape), .val (.int a_), .val (.int b_), .val (.int c_), .val (.long d_), .second, .val (.long e_), .second, .val (.int (2 : Int32)), .val (.int (1 : Int32)), .val (.int u0), .val (.int u1), .val (.int u2), .val (.int v0), .val (.int v1), .val (.int v2), .val (.int w_), .val (.ref bu), .unset, .unset, .unset]) X48 hx (hb hby at_80) rfl rfl rfl ?_
    refine go_iload (q := 84) X48 hx (hb hby at_82) rfl rfl ?_
    refine go_if_eq (q := 87) (q' := 94) X48 hx (hb hby at_84) rfl (by decide) rfl (fun hc84 => ?_) (fun hc84 => ?_)
    · exact absurd hc84 (by decide)
    · refine go_iload (q := 89) X48 hx (hb hby at_87) rfl rfl ?_
      refine go_iconst (q := 90) (v := (1 : Int32)) X48 hx (hb hby at_89) rfl rfl ?_
      refine go_iadd (q := 91) (v := (3 : Int32)) X48 hx (hb hby at_90) rfl rfl ?_
      refine go_goto (q := 96) X48 hx (hb hby at_91) (by decide) rfl ?_
      refine go_newP (q := 98) X48 hx hZ (hw _ (List.mem_of_getElem? (i := 4) rfl)) e48 (hb hby at_96) rfl (by decide) 3 (by decide) (by decide) (by decide) (by decide) (fun T49 h49 k_bv bv eb49 X49 e49 E49 V_bv => ?_)
      have g_bv : h0.size ≤ bv := Nat.le_trans hsz (Nat.le_of_eq eb49.symm)
      have ne_bu_bv : bu ≠ bv := Nat.ne_of_lt (Nat.lt_of_lt_of_eq V_bu.lt eb49.symm)
      replace V_bu := V_bu.ext E49
      replace hsz := Nat.le_trans hsz E49.1
      replace V_bv : Arv Z h49 bv k_bv .double (3 : Int32) [(.double (0 : UInt64)), (.double (0 : UInt64)), (.double (0 : UInt64))] (.double (0 : UInt64)) := V_bv.pad (pad_rep [] (.double (0 : UInt64)) 3)
      refine go_astore (q := 100) (l' := #[.val (.int shape), .val (.int a_), .val (.int b_), .val (.int c_), .val (.long d_), .second, .val (.long e_), .second, .val (.int (2 : Int32)), .val (.int (1 : Int32)), .val (.int u0), .val (.int u1), .val (.int u2), .val (.int v0), .val (.int v1), .val (.int v2), .val (.int w_), .val (.ref bu), .val (.ref bv), .unset, .unset]) X49 hx (hb hby at_98) rfl rfl rfl ?_
      refine go_lconst (q := 101) (v := (0 : Int64)) X49 hx (hb hby at_100) rfl rfl ?_
      refine go_lstore (q := 103) (l' := #[.val (.int shape), .val (.int a_), .val (.int b_), .val (.int c_), .val (.long d_), .second, .val (.long e_), .second, .val (.int (2 : Int32)), .val (.int (1 : Int32)), .val (.int u0), .val (.int u1), .val (.int u2), .val (.int v0), .val (.int v1), .val (.int v2), .val (.int w_), .val (.ref bu), .val (.ref bv), .val (.long (0 : Int64)), .second]) X49 hx (hb hby at_101) rfl rfl ?_
      refine go_iload (q := 105) X49 hx (hb hby at_103) rfl rfl ?_
      refine go_if_le (q := 108) (q' := 134) X49 hx (hb hby at_105) rfl (by decide) rfl (fun hc105 => ?_) (fun hc105 => ?_)
      · exact absurd (by decide) hc105
      · refine go_aload (q := 110) X49 hx (hb hby at_108) rfl rfl rfl ?_
        refine go_iconst (q := 111) (v := (0 : Int32)) X49 hx (hb hby at_110) rfl rfl ?_
        refine go_iload (q := 113) X49 hx (hb hby at_111) rfl rfl ?_
        refine go_i2dB (q := 114) X49 hx (hb hby at_113) rfl (db_i2d' (A := 8388608) hu0) (fun zu0 hzu0 => ?_)
        refine go_dastore (q := 115) X49 hx hZ e49 V_bu ⟨by decide, by decide⟩ 0 rfl (Nat.le_of_ble_eq_true rfl) N7 g_bu (hb hby at_114) rfl (fun T50 h50 l50 X50 N50 e50 W50 V50 => ?_)
        replace V_bv := V_bv.other W50 (Ne.symm ne_bu_bv)
        replace hsz := Nat.le_trans hsz (Nat.le_of_eq W50.size.symm)
        replace V_bu : Arv Z h50 bu k_bu .double (2 : Int32) [(.double zu0), (.double (0 : UInt64))] (.double (0 : UInt64)) := V50
        refine go_aload (q := 117) X50 hx (hb hby at_115) rfl rfl rfl ?_
        refine go_iconst (q := 118) (v := (0 : Int32)) X50 hx (hb hby at_117) rfl rfl ?_
        refine go_iload (q := 120) X50 hx (hb hby at_118) rfl rfl ?_
        refine go_i2dB (q := 121) X50 hx (hb hby at_120) rfl (db_i2d' (A := 8388608) hv0) (fun zv0 hzv0 => ?_)
        refine go_dastore (q := 122) X50 hx hZ e50 V_bv ⟨by decide, by decide⟩ 0 rfl (Nat.le_of_ble_eq_true rfl) N50 g_bv (hb hby at_121) rfl (fun T51 h51 l51 X51 N51 e51 W51 V51 => ?_)
        replace V_bu := V_bu.other W51 ne_bu_bv
        replace hsz := Nat.le_trans hsz (Nat.le_of_eq W51.size.symm)
        replace V_bv : Arv Z h51 bv k_bv .double (3 : Int32) [(.double zv0), (.double (0 : UInt64)), (.double (0 : UInt64))] (.double (0 : UInt64)) := V51
        refine go_lload (q := 124) X51 hx (hb hby at_122) rfl rfl ?_
        refine go_iload (q := 126) X51 hx (hb hby at_124) rfl rfl ?_
        refine go_i2l (q := 127) (v := (u0.toInt64)) X51 hx (hb hby at_126) rfl rfl ?_
        refine go_iload (q := 129) X51 hx (hb hby at_127) rfl rfl ?_
        refine go_i2l (q := 130) (v := (v0.toInt64)) X51 hx (hb hby at_129) rfl rfl ?_
        refine go_lmul (q := 131) (v := ((u0.toInt64) * (v0.toInt64))) X51 hx (hb hby at_130) rfl rfl ?_
        refine go_ladd (q := 132) (v := ((0 : Int64) + ((u0.toInt64) * (v0.toInt64)))) X51 hx (hb hby at_131) rfl rfl ?_
        refine go_lstore (q := 134) (l' := #[.val (.int shape), .val (.int a_), .val (.int b_), .val (.int c_), .val (.long d_), .second, .val (.long e_), .second, .val (.int (2 : Int32)), .val (.int (1 : Int32)), .val (.int u0), .val (.int u1), .val (.int u2), .val (.int v0), .val (.int v1), .val (.int v2), .val (.int w_), .val (.ref bu), .val (.ref bv), .val (.long ((0 : Int64) + ((u0.toInt64) * (v0.toInt64)))), .second]) X51 hx (hb hby at_132) rfl rfl ?_
        suffices Hs1 : ∀ s1 : Int64, s1 = ((0 : Int64) + ((u0.toInt64) * (v0.toInt64))) → Go p e below s (fun v h L => v = some (.int (1 : Int32)) ∧ Fr h0.size L) room_1.cells room_1.slots T51 (mkF m 134 #[.val (.int shape), .val (.int a_), .val (.int b_), .val (.int c_), .val (.long d_), .second, .val (.long e_), .second, .val (.int (2 : Int32)), .val (.int (1 : Int32)), .val (.int u0), .val (.int u1), .val (.int u2), .val (.int v0), .val (.int v1), .val (.int v2), .val (.int w_), .val (.ref bu), .val (.ref bv), .val (.long s1), .second] []) from Hs1 _ rfl
        intro s1 es1
        have hs1 := own_acc hs0 hu0 hv0 (by decide)
        rw [← es1] at hs1
        refine go_iload (q := 136) X51 hx (hb hby at_134) rfl rfl ?_
        refine go_iconst (q := 137) (v := (1 : Int32)) X51 hx (hb hby at_136) rfl rfl ?_
        refine go_icmp_le (q := 140) (q' := 166) X51 hx (hb hby at_137) rfl (by decide) rfl (fun hc137 => ?_) (fun hc137 => ?_)
        · exact absurd (by decide) hc137
        · refine go_aload (q := 142) X51 hx (hb hby at_140) rfl rfl rfl ?_
          refine go_iconst (q := 143) (v := (1 : Int32)) X51 hx (hb hby at_142) rfl rfl ?_
          refine go_iload (q := 145) X51 hx (hb hby at_143) rfl rfl ?_
          refine go_i2dB (q := 146) X51 hx (hb hby at_145) rfl (db_i2d' (A := 8388608) hu1) (fun zu1 hzu1 => ?_)
          refine go_dastore (q := 147) X51 hx hZ e51 V_bu ⟨by decide, by decide⟩ 1 rfl (Nat.le_of_ble_eq_true rfl) N51 g_bu (hb hby at_146) rfl (fun T52 h52 l52 X52 N52 e52 W52 V52 => ?_)
          replace V_bv := V_bv.other W52 (Ne.symm ne_bu_bv)
          replace hsz := Nat.le_trans hsz (Nat.le_of_eq W52.size.symm)
          replace V_bu : Arv Z h52 bu k_bu .double (2 : Int32) [(.double zu0), (.double zu1)] (.double (0 : UInt64)) := V52
          refine go_aload (q := 149) X52 hx (hb hby at_147) rfl rfl rfl ?_
          refine go_iconst (q := 150) (v := (1 : Int32)) X52 hx (hb hby at_149) rfl rfl ?_
          refine go_iload (q := 152) X52 hx (hb hby at_150) rfl rfl ?_
          refine go_i2dB (q := 153) X52 hx (hb hby at_152) rfl (db_i2d' (A := 8388608) hv1) (fun zv1 hzv1 => ?_)
          refine go_dastore (q := 154) X52 hx hZ e52 V_bv ⟨by decide, by decide⟩ 1 rfl (Nat.le_of_ble_eq_true rfl) N52 g_bv (hb hby at_153) rfl (fun T53 h53 l53 X53 N53 e53 W53 V53 => ?_)
          replace V_bu := V_bu.other W53 ne_bu_bv
          replace hsz := Nat.le_trans hsz (Nat.le_of_eq W53.size.symm)
          replace V_bv : Arv Z h53 bv k_bv .double (3 : Int32) [(.double zv0), (.double zv1), (.double (0 : UInt64))] (.double (0 : UInt64)) := V53
          refine go_lload (q := 156) X53 hx (hb hby at_154) rfl rfl ?_
          refine go_iload (q := 158) X53 hx (hb hby at_156) rfl rfl ?_
          refine go_i2l (q := 159) (v := (u1.toInt64)) X53 hx (hb hby at_158) rfl rfl ?_
          refine go_iload (q := 161) X53 hx (hb hby at_159) rfl rfl ?_
          refine go_i2l (q := 162) (v := (v1.toInt64)) X53 hx (hb hby at_161) rfl rfl ?_
          refine go_lmul (q := 163) (v := ((u1.toInt64) * (v1.toInt64))) X53 hx (hb hby at_162) rfl rfl ?_
          refine go_ladd (q := 164) (v := (s1 + ((u1.toInt64) * (v1.toInt64)))) X53 hx (hb hby at_163) rfl rfl ?_
          refine go_lstore (q := 166) (l' := #[.val (.int shape), .val (.int a_), .val (.int b_), .val (.int c_), .val (.long d_), .second, .val (.long e_), .second, .val (.int (2 : Int32)), .val (.int (1 : Int32)), .val (.int u0), .val (.int u1), .val (.int u2), .val (.int v0), .val (.int v1), .val (.int v2), .val (.int w_), .val (.ref bu), .val (.ref bv), .val (.long (s1 + ((u1.toInt64) * (v1.toInt64)))), .second]) X53 hx (hb hby at_164) rfl rfl ?_
          suffices Hs2 : ∀ s2 : Int64, s2 = (s1 + ((u1.toInt64) * (v1.toInt64))) → Go p e below s (fun v h L => v = some (.int (1 : Int32)) ∧ Fr h0.size L) room_1.cells room_1.slots T53 (mkF m 166 #[.val (.int shape), .val (.int a_), .val (.int b_), .val (.int c_), .val (.long d_), .second, .val (.long e_), .second, .val (.int (2 : Int32)), .val (.int (1 : Int32)), .val (.int u0), .val (.int u1), .val (.int u2), .val (.int v0), .val (.int v1), .val (.int v2), .val (.int w_), .val (.ref bu), .val (.ref bv), .val (.long s2), .second] []) from Hs2 _ rfl
          intro s2 es2
          have hs2 := own_acc hs1 hu1 hv1 (by decide)
          rw [← es2] at hs2
          refine go_iload (q := 168) X53 hx (hb hby at_166) rfl rfl ?_
          refine go_iconst (q := 169) (v := (2 : Int32)) X53 hx (hb hby at_168) rfl rfl ?_
          refine go_icmp_le (q := 172) (q' := 198) X53 hx (hb hby at_169) rfl (by decide) rfl (fun hc169 => ?_) (fun hc169 => ?_)
          · refine go_iload (q := 200) X53 hx (hb hby at_198) rfl rfl ?_
            refine go_if_eq (q := 203) (q' := 211) X53 hx (hb hby at_200) rfl (by decide) rfl (fun hc200 => ?_) (fun hc200 => ?_)
            · exact absurd hc200 (by decide)
            · refine go_aload (q := 205) X53 hx (hb hby at_203) rfl rfl rfl ?_
              refine go_iload (q := 207) X53 hx (hb hby at_205) rfl rfl ?_
              refine go_iload (q := 209) X53 hx (hb hby at_207) rfl rfl ?_
              refine go_i2dB (q := 210) X53 hx (hb hby at_209) rfl (db_i2d' (A := 8388608) hw_) (fun zw hzw => ?_)
              refine go_dastore (q := 211) X53 hx hZ e53 V_bv ⟨by decide, by decide⟩ 2 rfl (Nat.le_of_ble_eq_true rfl) N53 g_bv (hb hby at_210) rfl (fun T54 h54 l54 X54 N54 e54 W54 V54 => ?_)
              replace V_bu := V_bu.other W54 ne_bu_bv
              replace hsz := Nat.le_trans hsz (Nat.le_of_eq W54.size.symm)
              replace V_bv : Arv Z h54 bv k_bv .double (3 : Int32) [(.double zv0), (.double zv1), (.double zw)] (.double (0 : UInt64)) := V54
              refine go_aload (q := 213) X54 hx (hb hby at_211) rfl rfl rfl ?_
              refine go_aload (q := 215) X54 hx (hb hby at_213) rfl rfl rfl ?_
              refine go_callS (q := 218) (W := 0) X54 hx hZ hown e54 (hw _ (List.mem_of_getElem? (i := 5) rfl)) (hw _ (List.mem_of_getElem? (i := 6) rfl)) (hw _ (List.mem_of_getElem? (i := 7) rfl)) (hw _ (List.mem_of_getElem? (i := 8) rfl)) (by decide) [(.ref bu), (.ref bv)] [] (rm2_2 l Z a0 hw [] bu bv k_bu k_bv _ _ _ _ zu0 zu1 zv0 zv1 _ _ _ _ h54 V_bu V_bv (by decide) hzu0 hzv0 (by decide) hzu1 hzv1) (by rw [hml]; rfl) rfl (lenOf pd_1 rfl) (Nat.le_of_eq rfl) (by decide) (by decide) (hb hby at_215) rfl (by decide) (by decide) ?_
              rintro T55 L55 v55 X55 ⟨Np55, ⟨r_, rfl, hr_⟩, e55⟩
              have N55 := Fr.app N54 (Np55 _)
              show Go p e below s (fun v h L => v = some (.int (1 : Int32)) ∧ Fr h0.size L) room_1.cells room_1.slots T55 (mkF m 218 #[.val (.int shape), .val (.int a_), .val (.int b_), .val (.int c_), .val (.long d_), .second, .val (.long e_), .second, .val (.int (2 : Int32)), .val (.int (1 : Int32)), .val (.int u0), .val (.int u1), .val (.int u2), .val (.int v0), .val (.int v1), .val (.int v2), .val (.int w_), .val (.ref bu), .val (.ref bv), .val (.long s2), .second] [(.double r_)])
              refine go_lload (q := 220) X55 hx (hb hby at_218) rfl rfl ?_
              refine go_l2dB (q := 221) X55 hx (hb hby at_220) rfl (db_l2d (A := 140737488355328) (by rw [hs2.1]; exact hs2.2) (by decide)) (fun z56 hz56 => ?_)
              refine go_dcmp (q := 222) X55 hx (hb hby at_221) rfl rfl ?_
              refine go_dif_ne (q := 225) (q' := 229) X55 hx (hb hby at_222) rfl (by decide) rfl hr_ hz56 (fun hc222 => ?_) (fun hc222 => ?_)
              · exact absurd hs2.1.symm hc222
              · refine go_iconst (q := 226) (v := (1 : Int32)) X55 hx (hb hby at_225) rfl rfl ?_
                refine go_goto (q := 230) X55 hx (hb hby at_226) (by decide) rfl ?_
                exact go_retN X55 hx (by simp) hret hlk (hb hby at_230) (by decide) (by decide) ⟨rfl, N55⟩
          · exact absurd hc169 (by decide)
  · refine go_iload (q := 78) X7 hx (hb hby at_76) rfl rfl ?_
    refine go_newP (q := 80) X7 hx hZ (hw _ (List.mem_of_getElem? (i := 4) rfl)) e7 (hb hby at_78) rfl (by decide) 3 (by decide) (by decide) (by decide) (by decide) (fun T57 h57 k_bu bu eb57 X57 e57 E57 V_bu => ?_)
    have g_bu : h0.size ≤ bu := Nat.le_trans hsz (Nat.le_of_eq eb57.symm)
    replace hsz := Nat.le_trans hsz E57.1
    replace V_bu : Arv Z h57 bu k_bu .double (3 : Int32) [(.double (0 : UInt64)), (.double (0 : UInt64)), (.double (0 : UInt64))] (.double (0 : UInt64)) := V_bu.pad (pad_rep [] (.double (0 : UInt64)) 3)
    refine go_astore (q := 82) (l' := #[.val (.int shape), .val (.int a_), .val (.int b_), .val (.int c_), .val (.long d_), .second, .val (.long e_), .second, .val (.int (3 : Int32)), .val (.int (1 : Int32)), .val (.int u0), .val (.int u1), .val (.int u2), .val (.int v0), .val (.int v1), .val (.int v2), .val (.int w_), .val (.ref bu), .unset, .unset, .unset]) X57 hx (hb hby at_80) rfl rfl rfl ?_
    refine go_iload (q := 84) X57 hx (hb hby at_82) rfl rfl ?_
    refine go_if_eq (q := 87) (q' := 94) X57 hx (hb hby at_84) rfl (by decide) rfl (fun hc84 => ?_) (fun hc84 => ?_)
    · exact absurd hc84 (by decide)
    · refine go_iload (q := 89) X57 hx (hb hby at_87) rfl rfl ?_
      refine go_iconst (q := 90) (v := (1 : Int32)) X57 hx (hb hby at_89) rfl rfl ?_
      refine go_iadd (q := 91) (v := (4 : Int32)) X57 hx (hb hby at_90) rfl rfl ?_
      refine go_goto (q := 96) X57 hx (hb hby at_91) (by decide) rfl ?_
      refine go_newP (q := 98) X57 hx hZ (hw _ (List.mem_of_getElem? (i := 4) rfl)) e57 (hb hby at_96) rfl (by decide) 4 (by decide) (by decide) (by decide) (by decide) (fun T58 h58 k_bv bv eb58 X58 e58 E58 V_bv => ?_)
      have g_bv : h0.size ≤ bv := Nat.le_trans hsz (Nat.le_of_eq eb58.symm)
      have ne_bu_bv : bu ≠ bv := Nat.ne_of_lt (Nat.lt_of_lt_of_eq V_bu.lt eb58.symm)
      replace V_bu := V_bu.ext E58
      replace hsz := Nat.le_trans hsz E58.1
      replace V_bv : Arv Z h58 bv k_bv .double (4 : Int32) [(.double (0 : UInt64)), (.double (0 : UInt64)), (.double (0 : UInt64)), (.double (0 : UInt64))] (.double (0 : UInt64)) := V_bv.pad (pad_rep [] (.double (0 : UInt64)) 4)
      refine go_astore (q := 100) (l' := #[.val (.int shape), .val (.int a_), .val (.int b_), .val (.int c_), .val (.long d_), .second, .val (.long e_), .second, .val (.int (3 : Int32)), .val (.int (1 : Int32)), .val (.int u0), .val (.int u1), .val (.int u2), .val (.int v0), .val (.int v1), .val (.int v2), .val (.int w_), .val (.ref bu), .val (.ref bv), .unset, .unset]) X58 hx (hb hby at_98) rfl rfl rfl ?_
      refine go_lconst (q := 101) (v := (0 : Int64)) X58 hx (hb hby at_100) rfl rfl ?_
      refine go_lstore (q := 103) (l' := #[.val (.int shape), .val (.int a_), .val (.int b_), .val (.int c_), .val (.long d_), .second, .val (.long e_), .second, .val (.int (3 : Int32)), .val (.int (1 : Int32)), .val (.int u0), .val (.int u1), .val (.int u2), .val (.int v0), .val (.int v1), .val (.int v2), .val (.int w_), .val (.ref bu), .val (.ref bv), .val (.long (0 : Int64)), .second]) X58 hx (hb hby at_101) rfl rfl ?_
      refine go_iload (q := 105) X58 hx (hb hby at_103) rfl rfl ?_
      refine go_if_le (q := 108) (q' := 134) X58 hx (hb hby at_105) rfl (by decide) rfl (fun hc105 => ?_) (fun hc105 => ?_)
      · exact absurd (by decide) hc105
      · refine go_aload (q := 110) X58 hx (hb hby at_108) rfl rfl rfl ?_
        refine go_iconst (q := 111) (v := (0 : Int32)) X58 hx (hb hby at_110) rfl rfl ?_
        refine go_iload (q := 113) X58 hx (hb hby at_111) rfl rfl ?_
        refine go_i2dB (q := 114) X58 hx (hb hby at_113) rfl (db_i2d' (A := 8388608) hu0) (fun zu0 hzu0 => ?_)
        refine go_dastore (q := 115) X58 hx hZ e58 V_bu ⟨by decide, by decide⟩ 0 rfl (Nat.le_of_ble_eq_true rfl) N7 g_bu (hb hby at_114) rfl (fun T59 h59 l59 X59 N59 e59 W59 V59 => ?_)
        replace V_bv := V_bv.other W59 (Ne.symm ne_bu_bv)
        replace hsz := Nat.le_trans hsz (Nat.le_of_eq W59.size.symm)
        replace V_bu : Arv Z h59 bu k_bu .double (3 : Int32) [(.double zu0), (.double (0 : UInt64)), (.double (0 : UInt64))] (.double (0 : UInt64)) := V59
        refine go_aload (q := 117) X59 hx (hb hby at_115) rfl rfl rfl ?_
        refine go_iconst (q := 118) (v := (0 : Int32)) X59 hx (hb hby at_117) rfl rfl ?_
        refine go_iload (q := 120) X59 hx (hb hby at_118) rfl rfl ?_
        refine go_i2dB (q := 121) X59 hx (hb hby at_120) rfl (db_i2d' (A := 8388608) hv0) (fun zv0 hzv0 => ?_)
        refine go_dastore (q := 122) X59 hx hZ e59 V_bv ⟨by decide, by decide⟩ 0 rfl (Nat.le_of_ble_eq_true rfl) N59 g_bv (hb hby at_121) rfl (fun T60 h60 l60 X60 N60 e60 W60 V60 => ?_)
        replace V_bu := V_bu.other W60 ne_bu_bv
        replace hsz := Nat.le_trans hsz (Nat.le_of_eq W60.size.symm)
        replace V_bv : Arv Z h60 bv k_bv .double (4 : Int32) [(.double zv0), (.double (0 : UInt64)), (.double (0 : UInt64)), (.double (0 : UInt64))] (.double (0 : UInt64)) := V60
        refine go_lload (q := 124) X60 hx (hb hby at_122) rfl rfl ?_
        refine go_iload (q := 126) X60 hx (hb hby at_124) rfl rfl ?_
        refine go_i2l (q := 127) (v := (u0.toInt64)) X60 hx (hb hby at_126) rfl rfl ?_
        refine go_iload (q := 129) X60 hx (hb hby at_127) rfl rfl ?_
        refine go_i2l (q := 130) (v := (v0.toInt64)) X60 hx (hb hby at_129) rfl rfl ?_
        refine go_lmul (q := 131) (v := ((u0.toInt64) * (v0.toInt64))) X60 hx (hb hby at_130) rfl rfl ?_
        refine go_ladd (q := 132) (v := ((0 : Int64) + ((u0.toInt64) * (v0.toInt64)))) X60 hx (hb hby at_131) rfl rfl ?_
        refine go_lstore (q := 134) (l' := #[.val (.int shape), .val (.int a_), .val (.int b_), .val (.int c_), .val (.long d_), .second, .val (.long e_), .second, .val (.int (3 : Int32)), .val (.int (1 : Int32)), .val (.int u0), .val (.int u1), .val (.int u2), .val (.int v0), .val (.int v1), .val (.int v2), .val (.int w_), .val (.ref bu), .val (.ref bv), .val (.long ((0 : Int64) + ((u0.toInt64) * (v0.toInt64)))), .second]) X60 hx (hb hby at_132) rfl rfl ?_
        suffices Hs1 : ∀ s1 : Int64, s1 = ((0 : Int64) + ((u0.toInt64) * (v0.toInt64))) → Go p e below s (fun v h L => v = some (.int (1 : Int32)) ∧ Fr h0.size L) room_1.cells room_1.slots T60 (mkF m 134 #[.val (.int shape), .val (.int a_), .val (.int b_), .val (.int c_), .val (.long d_), .second, .val (.long e_), .second, .val (.int (3 : Int32)), .val (.int (1 : Int32)), .val (.int u0), .val (.int u1), .val (.int u2), .val (.int v0), .val (.int v1), .val (.int v2), .val (.int w_), .val (.ref bu), .val (.ref bv), .val (.long s1), .second] []) from Hs1 _ rfl
        intro s1 es1
        have hs1 := own_acc hs0 hu0 hv0 (by decide)
        rw [← es1] at hs1
        refine go_iload (q := 136) X60 hx (hb hby at_134) rfl rfl ?_
        refine go_iconst (q := 137) (v := (1 : Int32)) X60 hx (hb hby at_136) rfl rfl ?_
        refine go_icmp_le (q := 140) (q' := 166) X60 hx (hb hby at_137) rfl (by decide) rfl (fun hc137 => ?_) (fun hc137 => ?_)
        · exact absurd (by decide) hc137
        · refine go_aload (q := 142) X60 hx (hb hby at_140) rfl rfl rfl ?_
          refine go_iconst (q := 143) (v := (1 : Int32)) X60 hx (hb hby at_142) rfl rfl ?_
          refine go_iload (q := 145) X60 hx (hb hby at_143) rfl rfl ?_
          refine go_i2dB (q := 146) X60 hx (hb hby at_145) rfl (db_i2d' (A := 8388608) hu1) (fun zu1 hzu1 => ?_)
          refine go_dastore (q := 147) X60 hx hZ e60 V_bu ⟨by decide, by decide⟩ 1 rfl (Nat.le_of_ble_eq_true rfl) N60 g_bu (hb hby at_146) rfl (fun T61 h61 l61 X61 N61 e61 W61 V61 => ?_)
          replace V_bv := V_bv.other W61 (Ne.symm ne_bu_bv)
          replace hsz := Nat.le_trans hsz (Nat.le_of_eq W61.size.symm)
          replace V_bu : Arv Z h61 bu k_bu .double (3 : Int32) [(.double zu0), (.double zu1), (.double (0 : UInt64))] (.double (0 : UInt64)) := V61
          refine go_aload (q := 149) X61 hx (hb hby at_147) rfl rfl rfl ?_
          refine go_iconst (q := 150) (v := (1 : Int32)) X61 hx (hb hby at_149) rfl rfl ?_
          refine go_iload (q := 152) X61 hx (hb hby at_150) rfl rfl ?_
          refine go_i2dB (q := 153) X61 hx (hb hby at_152) rfl (db_i2d' (A := 8388608) hv1) (fun zv1 hzv1 => ?_)
          refine go_dastore (q := 154) X61 hx hZ e61 V_bv ⟨by decide, by decide⟩ 1 rfl (Nat.le_of_ble_eq_true rfl) N61 g_bv (hb hby at_153) rfl (fun T62 h62 l62 X62 N62 e62 W62 V62 => ?_)
          replace V_bu := V_bu.other W62 ne_bu_bv
          replace hsz := Nat.le_trans hsz (Nat.le_of_eq W62.size.symm)
          replace V_bv : Arv Z h62 bv k_bv .double (4 : Int32) [(.double zv0), (.double zv1), (.double (0 : UInt64)), (.double (0 : UInt64))] (.double (0 : UInt64)) := V62
          refine go_lload (q := 156) X62 hx (hb hby at_154) rfl rfl ?_
          refine go_iload (q := 158) X62 hx (hb hby at_156) rfl rfl ?_
          refine go_i2l (q := 159) (v := (u1.toInt64)) X62 hx (hb hby at_158) rfl rfl ?_
          refine go_iload (q := 161) X62 hx (hb hby at_159) rfl rfl ?_
          refine go_i2l (q := 162) (v := (v1.toInt64)) X62 hx (hb hby at_161) rfl rfl ?_
          refine go_lmul (q := 163) (v := ((u1.toInt64) * (v1.toInt64))) X62 hx (hb hby at_162) rfl rfl ?_
          refine go_ladd (q := 164) (v := (s1 + ((u1.toInt64) * (v1.toInt64)))) X62 hx (hb hby at_163) rfl rfl ?_
          refine go_lstore (q := 166) (l' := #[.val (.int shape), .val (.int a_), .val (.int b_), .val (.int c_), .val (.long d_), .second, .val (.long e_), .second, .val (.int (3 : Int32)), .val (.int (1 : Int32)), .val (.int u0), .val (.int u1), .val (.int u2), .val (.int v0), .val (.int v1), .val (.int v2), .val (.int w_), .val (.ref bu), .val (.ref bv), .val (.long (s1 + ((u1.toInt64) * (v1.toInt64)))), .second]) X62 hx (hb hby at_164) rfl rfl ?_
          suffices Hs2 : ∀ s2 : Int64, s2 = (s1 + ((u1.toInt64) * (v1.toInt64))) → Go p e below s (fun v h L => v = some (.int (1 : Int32)) ∧ Fr h0.size L) room_1.cells room_1.slots T62 (mkF m 166 #[.val (.int shape), .val (.int a_), .val (.int b_), .val (.int c_), .val (.long d_), .second, .val (.long e_), .second, .val (.int (3 : Int32)), .val (.int (1 : Int32)), .val (.int u0), .val (.int u1), .val (.int u2), .val (.int v0), .val (.int v1), .val (.int v2), .val (.int w_), .val (.ref bu), .val (.ref bv), .val (.long s2), .second] []) from Hs2 _ rfl
          intro s2 es2
          have hs2 := own_acc hs1 hu1 hv1 (by decide)
          rw [← es2] at hs2
          refine go_iload (q := 168) X62 hx (hb hby at_166) rfl rfl ?_
          refine go_iconst (q := 169) (v := (2 : Int32)) X62 hx (hb hby at_168) rfl rfl ?_
          refine go_icmp_le (q := 172) (q' := 198) X62 hx (hb hby at_169) rfl (by decide) rfl (fun hc169 => ?_) (fun hc169 => ?_)
          · exact absurd (by decide) hc169
          · refine go_aload (q := 174) X62 hx (hb hby at_172) rfl rfl rfl ?_
            refine go_iconst (q := 175) (v := (2 : Int32)) X62 hx (hb hby at_174) rfl rfl ?_
            refine go_iload (q := 177) X62 hx (hb hby at_175) rfl rfl ?_
            refine go_i2dB (q := 178) X62 hx (hb hby at_177) rfl (db_i2d' (A := 8388608) hu2) (fun zu2 hzu2 => ?_)
            refine go_dastore (q := 179) X62 hx hZ e62 V_bu ⟨by decide, by decide⟩ 2 rfl (Nat.le_of_ble_eq_true rfl) N62 g_bu (hb hby at_178) rfl (fun T63 h63 l63 X63 N63 e63 W63 V63 => ?_)
            replace V_bv := V_bv.other W63 (Ne.symm ne_bu_bv)
            replace hsz := Nat.le_trans hsz (Nat.le_of_eq W63.size.symm)
            replace V_bu : Arv Z h63 bu k_bu .double (3 : Int32) [(.double zu0), (.double zu1), (.double zu2)] (.double (0 : UInt64)) := V63
            refine go_aload (q := 181) X63 hx (hb hby at_179) rfl rfl rfl ?_
            refine go_iconst (q := 182) (v := (2 : Int32)) X63 hx (hb hby at_181) rfl rfl ?_
            refine go_iload (q := 184) X63 hx (hb hby at_182) rfl rfl ?_
            refine go_i2dB (q := 185) X63 hx (hb hby at_184) rfl (db_i2d' (A := 8388608) hv2) (fun zv2 hzv2 => ?_)
            refine go_dastore (q := 186) X63 hx hZ e63 V_bv ⟨by decide, by decide⟩ 2 rfl (Nat.le_of_ble_eq_true rfl) N63 g_bv (hb hby at_185) rfl (fun T64 h64 l64 X64 N64 e64 W64 V64 => ?_)
            replace V_bu := V_bu.other W64 ne_bu_bv
            replace hsz := Nat.le_trans hsz (Nat.le_of_eq W64.size.symm)
            replace V_bv : Arv Z h64 bv k_bv .double (4 : Int32) [(.double zv0), (.double zv1), (.double zv2), (.double (0 : UInt64))] (.double (0 : UInt64)) := V64
            refine go_lload (q := 188) X64 hx (hb hby at_186) rfl rfl ?_
            refine go_iload (q := 190) X64 hx (hb hby at_188) rfl rfl ?_
            refine go_i2l (q := 191) (v := (u2.toInt64)) X64 hx (hb hby at_190) rfl rfl ?_
            refine go_iload (q := 193) X64 hx (hb hby at_191) rfl rfl ?_
            refine go_i2l (q := 194) (v := (v2.toInt64)) X64 hx (hb hby at_193) rfl rfl ?_
            refine go_lmul (q := 195) (v := ((u2.toInt64) * (v2.toInt64))) X64 hx (hb hby at_194) rfl rfl ?_
            refine go_ladd (q := 196) (v := (s2 + ((u2.toInt64) * (v2.toInt64)))) X64 hx (hb hby at_195) rfl rfl ?_
            refine go_lstore (q := 198) (l' := #[.val (.int shape), .val (.int a_), .val (.int b_), .val (.int c_), .val (.long d_), .second, .val (.long e_), .second, .val (.int (3 : Int32)), .val (.int (1 : Int32)), .val (.int u0), .val (.int u1), .val (.int u2), .val (.int v0), .val (.int v1), .val (.int v2), .val (.int w_), .val (.ref bu), .val (.ref bv), .val (.long (s2 + ((u2.toInt64) * (v2.toInt64)))), .second]) X64 hx (hb hby at_196) rfl rfl ?_
            suffices Hs3 : ∀ s3 : Int64, s3 = (s2 + ((u2.toInt64) * (v2.toInt64))) → Go p e below s (fun v h L => v = some (.int (1 : Int32)) ∧ Fr h0.size L) room_1.cells room_1.slots T64 (mkF m 198 #[.val (.int shape), .val (.int a_), .val (.int b_), .val (.int c_), .val (.long d_), .second, .val (.long e_), .second, .val (.int (3 : Int32)), .val (.int (1 : Int32)), .val (.int u0), .val (.int u1), .val (.int u2), .val (.int v0), .val (.int v1), .val (.int v2), .val (.int w_), .val (.ref bu), .val (.ref bv), .val (.long s3), .second] []) from Hs3 _ rfl
            intro s3 es3
            have hs3 := own_acc hs2 hu2 hv2 (by decide)
            rw [← es3] at hs3
            refine go_iload (q := 200) X64 hx (hb hby at_198) rfl rfl ?_
            refine go_if_eq (q := 203) (q' := 211) X64 hx (hb hby at_200) rfl (by decide) rfl (fun hc200 => ?_) (fun hc200 => ?_)
            · exact absurd hc200 (by decide)
            · refine go_aload (q := 205) X64 hx (hb hby at_203) rfl rfl rfl ?_
              refine go_iload (q := 207) X64 hx (hb hby at_205) rfl rfl ?_
              refine go_iload (q := 209) X64 hx (hb hby at_207) rfl rfl ?_
              refine go_i2dB (q := 210) X64 hx (hb hby at_209) rfl (db_i2d' (A := 8388608) hw_) (fun zw hzw => ?_)
              refine go_dastore (q := 211) X64 hx hZ e64 V_bv ⟨by decide, by decide⟩ 3 rfl (Nat.le_of_ble_eq_true rfl) N64 g_bv (hb hby at_210) rfl (fun T65 h65 l65 X65 N65 e65 W65 V65 => ?_)
              replace V_bu := V_bu.other W65 ne_bu_bv
              replace hsz := Nat.le_trans hsz (Nat.le_of_eq W65.size.symm)
              replace V_bv : Arv Z h65 bv k_bv .double (4 : Int32) [(.double zv0), (.double zv1), (.double zv2), (.double zw)] (.double (0 : UInt64)) := V65
              refine go_aload (q := 213) X65 hx (hb hby at_211) rfl rfl rfl ?_
              refine go_aload (q := 215) X65 hx (hb hby at_213) rfl rfl rfl ?_
              refine go_callS (q := 218) (W := 0) X65 hx hZ hown e65 (hw _ (List.mem_of_getElem? (i := 5) rfl)) (hw _ (List.mem_of_getElem? (i := 6) rfl)) (hw _ (List.mem_of_getElem? (i := 7) rfl)) (hw _ (List.mem_of_getElem? (i := 8) rfl)) (by decide) [(.ref bu), (.ref bv)] [] (rm2_3 l Z a0 hw [] bu bv k_bu k_bv _ _ _ _ zu0 zu1 zu2 zv0 zv1 zv2 _ _ _ _ _ _ h65 V_bu V_bv (by decide) hzu0 hzv0 (by decide) hzu1 hzv1 (by decide) hzu2 hzv2) (by rw [hml]; rfl) rfl (lenOf pd_1 rfl) (Nat.le_of_eq rfl) (by decide) (by decide) (hb hby at_215) rfl (by decide) (by decide) ?_
              rintro T66 L66 v66 X66 ⟨Np66, ⟨r_, rfl, hr_⟩, e66⟩
              have N66 := Fr.app N65 (Np66 _)
              show Go p e below s (fun v h L => v = some (.int (1 : Int32)) ∧ Fr h0.size L) room_1.cells room_1.slots T66 (mkF m 218 #[.val (.int shape), .val (.int a_), .val (.int b_), .val (.int c_), .val (.long d_), .second, .val (.long e_), .second, .val (.int (3 : Int32)), .val (.int (1 : Int32)), .val (.int u0), .val (.int u1), .val (.int u2), .val (.int v0), .val (.int v1), .val (.int v2), .val (.int w_), .val (.ref bu), .val (.ref bv), .val (.long s3), .second] [(.double r_)])
              refine go_lload (q := 220) X66 hx (hb hby at_218) rfl rfl ?_
              refine go_l2dB (q := 221) X66 hx (hb hby at_220) rfl (db_l2d (A := 211106232532992) (by rw [hs3.1]; exact hs3.2) (by decide)) (fun z67 hz67 => ?_)
              refine go_dcmp (q := 222) X66 hx (hb hby at_221) rfl rfl ?_
              refine go_dif_ne (q := 225) (q' := 229) X66 hx (hb hby at_222) rfl (by decide) rfl hr_ hz67 (fun hc222 => ?_) (fun hc222 => ?_)
              · exact absurd hs3.1.symm hc222
              · refine go_iconst (q := 226) (v := (1 : Int32)) X66 hx (hb hby at_225) rfl rfl ?_
                refine go_goto (q := 230) X66 hx (hb hby at_226) (by decide) rfl ?_
                exact go_retN X66 hx (by simp) hret hlk (hb hby at_230) (by decide) (by decide) ⟨rfl, N66⟩
set_option maxRecDepth 65536 in
set_option maxHeartbeats 40000000 in
theorem comes_1 {Post : Tables → Env → Array Value → State → Outcome → State → Prop} (hpost : ∀ tb e args s v u, (limb_1_1.after args s (.returned v) u = true ∧ limb_1_2.after args s (.returned v) u = true ∧ True) → FrameEnd s (.returned v) u (Jvm.fieldLocs frame_1_writes args s ++ Jvm.arrayLocs frame_1_arrays args s ++ Jvm.staticLocs frame_1_statics s) 16 128 → Post tb e args s (.returned v) u) :
    ArmFor flags0 classFile x code maxLocals ret World_1 tables_1 room_1 Calls_1 rest_1 Pre_1 Post := by
  intro l hfl _ _ p e ha hc hk s m args below hf hA hF happ hP
  obtain ⟨hcalls, hrest, hpre⟩ := hP
  obtain ⟨-, -, -, hnamed, -, -, -, hat⟩ := (Spec.applies_iff hf).mp happ
  obtain ⟨hg, hn⟩ := and_e (Cond.before_iff.mp (show (Jvm.Cond.and given_1 narrow_1).before args s = true from hpre))
  obtain ⟨hcnt, hg0⟩ := and_e hg
  obtain ⟨ha0, hg1⟩ := and_e hg0
  obtain ⟨ha1, hg2⟩ := and_e hg1
  obtain ⟨ha2, hg3⟩ := and_e hg2
  obtain ⟨ha3, hg4⟩ := and_e hg3
  obtain ⟨ha4, hg5⟩ := and_e hg4
  have ha5 := hg5
  obtain ⟨w0, w1, w2, w3, w4, w5, rfl⟩ : ∃ w0 w1 w2 w3 w4 w5 : Value, args = #[w0, w1, w2, w3, w4, w5] := by
    have hs : args.size = 6 := by simpa [Cond.value, given_1] using hcnt
    obtain ⟨L⟩ := args
    match L, hs with
    | [w0, w1, w2, w3, w4, w5], _ => exact ⟨w0, w1, w2, w3, w4, w5, rfl⟩
  have hw := fun d (hd : d ∈ tables_1) => atoms_spec (ws := Jvm.Cond.code x code maxLocals ret :: tables_1) hat d (List.mem_cons_of_mem _ hd)
  obtain ⟨i0, ei0⟩ := is_v ha0
  obtain rfl : w0 = (.int i0) := Option.some.inj ei0
  obtain ⟨i1, ei1⟩ := is_v ha1
  obtain rfl : w1 = (.int i1) := Option.some.inj ei1
  obtain ⟨i2, ei2⟩ := is_v ha2
  obtain rfl : w2 = (.int i2) := Option.some.inj ei2
  obtain ⟨i3, ei3⟩ := is_v ha3
  obtain rfl : w3 = (.int i3) := Option.some.inj ei3
  obtain ⟨i4, ei4⟩ := isL_v ha4
  obtain rfl : w4 = (.long i4) := Option.some.inj ei4
  obtain ⟨i5, ei5⟩ := isL_v ha5
  obtain rfl : w5 = (.long i5) := Option.some.inj ei5
  obtain ⟨n, o, h1, h2, h3, _, L, rfl, ⟨rfl, N⟩, hq⟩ := rm0 l s _ hw tables_1 i0 i1 i2 i3 i4 i5  s.heap  p e ha hc hk s m _ below hf ((Spec.applies_iff_loose hf).mp happ).1 ⟨rfl, State.Warmed39.refl s, rfl⟩ trivial
  refine ⟨n, _, h1, h2, h3, hpost _ _ _ _ _ _ ⟨Cond.after_iff.mpr rfl, Cond.after_iff.mpr (eq_i res_at (Term.int_eval (1)) rfl), trivial⟩ ⟨hq.1, hq.2.1, (hq.2.2.sift fun y hy => Or.inr (N y hy)).mono (by decide) (by decide)⟩⟩
theorem main_1_1 : Claimed_1_1 := comes_1 fun _ _ _ _ _ _ h hF => ⟨h.1, hF⟩
theorem main_1_2 : Claimed_1_2 := comes_1 fun _ _ _ _ _ _ h hF => ⟨h.2.1, hF⟩

end Jvm.Pilot.@@N@@
namespace Jvm.Pilot.@@N@@
open Jvm Jvm.ClassFile Sem Op Lib Jvm.Free Jvm.Stand Jvm.Pilot.@@N@@.Jvm.D
/-! MADE BY PROGRAM (witnessworld.py) out of the Statement's table words and the real class files: 11 classes; the members and pool entries that the words name. The judged class is class 1, her method 1. -/
namespace start1
open Jvm.ClassFile
def u (s : String) : CpInfo := .utf8 (stringToUtf16 s)
/-- a pool by its gaps: so many unusable entries, then the entry; so many at the end -/
def gap : Nat → List CpInfo → List CpInfo
  | 0, r => r
  | n + 1, r => .unusable :: gap n r
def poolList (es : List (Nat × CpInfo)) (last : Nat) : List CpInfo := es.foldr (fun e r => gap e.1 (e.2 :: r)) (gap last [])
def pool (es : List (Nat × CpInfo)) (last : Nat) : Array CpInfo := ⟨poolList es last⟩
def fileOf (pool : Array CpInfo) (this : Nat) (attrs : Array Attribute := #[]) (ms : Array MethodInfo := #[]) (fl : Nat := 33) (sup : Nat := 0) (ifs : Array Nat := #[]) (fds : Array FieldInfo := #[]) : ClassFile where
  minorVersion := 0
  majorVersion := 65
  constantPool := pool
  accessFlags := fl
  thisClass := this
  superClass := sup
  interfaces := ifs
  fields := fds
  methods := ms
  attributes := attrs
def plain (name : String) (sup : Option ClassId) : Class where
  name := name
  kind := .ordinary
  loader := none
  accessFlags := 33
  super := sup
  interfaces := #[]
  cf := none
  fields := #[]
  methods := #[]
  instanceTypes := #[]
  staticTypes := #[]
  resolved := #[]
  callSites := []
  init := .initialized
  statics := none
  mirror := none

def pool0 : Array CpInfo := pool [(5, u "<init>"), (0, u "()V"), (1, .class_ 10), (1, u "java/lang/Object")] 113

def k0m0 : Method := { name := "<init>", desc := "()V", sig := { parameters := [], returnType := none }, accessFlags := 1, code := none }
/-- java/lang/Object -/
def k0 : Class := { plain "java/lang/Object" none with
  accessFlags := 33
  interfaces := #[]
  cf := some (fileOf pool0 8 #[] #[{ accessFlags := 1, nameIndex := 5, descriptorIndex := 6, attributes := #[] }] 33 0 #[] #[])
  fields := #[]
  methods := #[k0m0]
  instanceTypes := #[]
  staticTypes := #[]
  resolved := Array.replicate 124 none
  statics := none }

def pool1 : Array CpInfo := pool [(2, .class_ 4), (1, u "java/lang/Object"), (0, u "<init>"), (0, u "()V"), (0, .methodref 8 9), (0, .class_ 10), (0, .nameAndType 11 12), (0, u "com/example/orbweave/orbweave/sphere/SphereMinimiserDotPinLaw"), (0, u "small"), (0, u "(I)I"), (0, .methodref 14 15), (0, .class_ 16), (0, .nameAndType 17 18), (0, u "com/example/orbweave/orbweave/sphere/SphereMinimiser"), (0, u "dot"), (0, u "([D[D)D"), (2, u "law"), (0, u "(IIIIJJ)Z")] 5

def k1m0 : Method := { name := "<init>", desc := "()V", sig := { parameters := [], returnType := none }, accessFlags := 1, code := none }
def k1c1 : Code := { maxStack := 6, maxLocals := 21, code := code, exceptionTable := #[], attributes := #[] }
def k1m1 : Method := { name := "law", desc := "(IIIIJJ)Z", sig := { parameters := [.int, .int, .int, .int, .long, .long], returnType := some .boolean }, accessFlags := 9, code := some k1c1 }
def k1c2 : Code := { maxStack := 2, maxLocals := 1, code := method_3_code, exceptionTable := #[], attributes := #[] }
def k1m2 : Method := { name := "small", desc := "(I)I", sig := { parameters := [.int], returnType := some .int }, accessFlags := 10, code := some k1c2 }
/-- com/example/orbweave/orbweave/sphere/SphereMinimiserDotPinLaw -/
def k1 : Class := { plain "com/example/orbweave/orbweave/sphere/SphereMinimiserDotPinLaw" (some 0) with
  accessFlags := 49
  interfaces := #[]
  cf := some (fileOf pool1 8 #[] #[{ accessFlags := 1, nameIndex := 5, descriptorIndex := 6, attributes := #[] }, { accessFlags := 9, nameIndex := 21, descriptorIndex := 22, attributes := #[] }, { accessFlags := 10, nameIndex := 11, descriptorIndex := 12, attributes := #[] }] 49 2 #[] #[])
  fields := #[]
  methods := #[k1m0, k1m1, k1m2]
  instanceTypes := #[]
  staticTypes := #[]
  resolved := Array.replicate 28 none
  statics := none }

def pool2 : Array CpInfo := pool [(2, .class_ 4), (1, u "java/lang/Object"), (0, u "<init>"), (0, u "()V"), (1, .class_ 10), (1, u "com/example/orbweave/orbweave/sphere/SphereMinimiser"), (5, .class_ 18), (1, u "com/example/orbweave/orbweave/sphere/SphereMinimiser$Function"), (12, u "dot"), (0, u "([D[D)D"), (46, u "MEMORY"), (0, u "I"), (2, u "ARMIJO"), (0, u "D"), (0, u "HALVINGS")] 11

def k2m0 : Method := { name := "<init>", desc := "()V", sig := { parameters := [], returnType := none }, accessFlags := 2, code := none }
def k2c1 : Code := { maxStack := 6, maxLocals := 5, code := prog_61_method_7_code, exceptionTable := #[], attributes := #[] }
def k2m1 : Method := { name := "dot", desc := "([D[D)D", sig := { parameters := [(.array .double), (.array .double)], returnType := some .double }, accessFlags := 8, code := some k2c1 }
/-- com/example/orbweave/orbweave/sphere/SphereMinimiser -/
def k2 : Class := { plain "com/example/orbweave/orbweave/sphere/SphereMinimiser" (some 0) with
  accessFlags := 48
  interfaces := #[]
  cf := some (fileOf pool2 8 #[.nestMembers #[16]] #[{ accessFlags := 2, nameIndex := 5, descriptorIndex := 6, attributes := #[] }, { accessFlags := 8, nameIndex := 31, descriptorIndex := 32, attributes := #[] }] 48 2 #[] #[{ accessFlags := 26, nameIndex := 79, descriptorIndex := 80, attributes := #[] }, { accessFlags := 26, nameIndex := 83, descriptorIndex := 84, attributes := #[] }, { accessFlags := 26, nameIndex := 85, descriptorIndex := 80, attributes := #[] }])
  fields := #[{ name := "MEMORY", type := .int, accessFlags := 26, slot := 0, constantValue := 0 }, { name := "ARMIJO", type := .double, accessFlags := 26, slot := 1, constantValue := 0 }, { name := "HALVINGS", type := .int, accessFlags := 26, slot := 2, constantValue := 0 }]
  methods := #[k2m0, k2m1]
  instanceTypes := #[]
  staticTypes := #[.int, .double, .int]
  resolved := Array.replicate 97 none
  statics := none }

def pool3 : Array CpInfo := pool [(1, u "java/lang/Cloneable"), (0, .class_ 1), (0, u "java/lang/Object"), (0, .class_ 3)] 3

/-- java/lang/Cloneable -/
def k3 : Class := { plain "java/lang/Cloneable" (some 0) with
  accessFlags := 1537
  interfaces := #[]
  cf := some (fileOf pool3 2 #[] #[] 1537 4 #[] #[])
  fields := #[]
  methods := #[]
  instanceTypes := #[]
  staticTypes := #[]
  resolved := Array.replicate 8 none
  statics := none }

def pool4 : Array CpInfo := pool [(1, u "java/io/Serializable"), (0, .class_ 1), (0, u "java/lang/Object"), (0, .class_ 3)] 3

/-- java/io/Serializable -/
def k4 : Class := { plain "java/io/Serializable" (some 0) with
  accessFlags := 1537
  interfaces := #[]
  cf := some (fileOf pool4 2 #[] #[] 1537 4 #[] #[])
  fields := #[]
  methods := #[]
  instanceTypes := #[]
  staticTypes := #[]
  resolved := Array.replicate 8 none
  statics := none }

/-- the primitive byte -/
def k5 : Class := { plain "byte" none with kind := .primitive 'B', accessFlags := 0x411 }
/-- [B -/
def k6 : Class := { plain "[B" (some 0) with kind := .array 5 .byte, interfaces := #[3, 4], accessFlags := 1041 }

/-- the primitive double -/
def k7 : Class := { plain "double" none with kind := .primitive 'D', accessFlags := 0x411 }
/-- [D -/
def k8 : Class := { plain "[D" (some 0) with kind := .array 7 .double, interfaces := #[3, 4], accessFlags := 1041 }

/-- the primitive int -/
def k9 : Class := { plain "int" none with kind := .primitive 'I', accessFlags := 0x411 }
/-- [I -/
def k10 : Class := { plain "[I" (some 0) with kind := .array 9 .int, interfaces := #[3, 4], accessFlags := 1041 }

def heap : Heap := #[]
def classes : Array Class := #[k0, k1, k2, k3, k4, k5, k6, k7, k8, k9, k10]
def interned : List (Array UInt16 × Addr) := []
def slotsUsed : Nat := 0
def theMethod : MethodId := ⟨1, 1⟩
def args0 : Array Value := #[.int 7, .int 5, .int 6, .int 7, .long 9, .long 2]
def aboutOver (below : List Frame) : State where
  vm := { classes := classes, interned := interned.toArray }
  heap := heap
  slotsUsed := slotsUsed
  threads := #[{ frames := .invoking theMethod args0 :: below }]
def below0 : List Frame := [.native { method := ⟨0, 0⟩, args := #[] }]
def about1 : State := aboutOver below0
def p0 : Program := .bare "" "" ""
def e0 : Env := launch0.env 0 0 0
theorem w_frames : about1.frames = Frame.invoking theMethod args0 :: below0 := rfl
set_option maxRecDepth 65536 in
theorem w_args : argsFit about1.vm theMethod args0 = true := by decide +kernel
set_option maxRecDepth 65536 in
theorem w_heap : heapFits about1 = true := by decide +kernel
set_option maxRecDepth 65536 in
theorem w_runnable : about1.curStatus? = some .runnable := by decide +kernel
set_option maxRecDepth 65536 in
theorem w_alone : about1.alone = true := by decide +kernel
set_option maxRecDepth 65536 in
theorem w_named : about1.methodNamed? x = some theMethod := by decide +kernel
set_option maxRecDepth 65536 in
theorem w_hears : about1.hears theMethod below0 = true := by decide +kernel
set_option maxRecDepth 65536 in
theorem w_ripe : about1.ripe theMethod args0 below0 = true := by decide +kernel
theorem w_running : about1.status = .running := rfl
set_option maxRecDepth 65536 in
theorem w_room : about1.hasRoom e0.platform room_1 = true :=
  launch0.hasRoom_least _ room_1 (by decide +kernel) (by decide +kernel) (by decide +kernel) (by decide +kernel) (by decide +kernel) (by decide +kernel)
theorem allAtoms_all (ts : List Jvm.Cond) (a : Array Jvm.Value) (st : Jvm.State) : (allAtoms ts).before a st = ts.all (fun c => c.before a st) := by
  induction ts with
  | nil => rfl
  | cons c t ih =>
    show (Jvm.Cond.and c (allAtoms t)).before a st = _
    rw [Jvm.Cond.before_and, ih, List.all_cons]
def words1 : List Jvm.Cond := Jvm.Cond.code x code maxLocals ret :: tables_1
/-- a 'code' word, met by the world's own term for the bytes: nothing is compared byte by byte -/
theorem code_word {y : MethodName} {bytes : ByteArray} {mx : Nat} {rt : Option FieldType} {a : Array Value} {s : State} {m : MethodId} {meth : Method} {c : Code} (h1 : s.methodNamed? y = some m) (h2 : s.vm.method? m = some meth) (h3 : meth.code = some c) (h4 : c.code = bytes)
    (h5 : (c.maxLocals == mx && c.exceptionTable.isEmpty && decide (c.maxStack ≤ mostOperands) && decide (meth.sig.returnType = rt) && !meth.locks && decide (parseMethodDescriptor y.desc = some meth.sig)) = true) : (Jvm.Cond.code y bytes mx rt).before a s = true := by
  simp only [Bool.and_eq_true, beq_iff_eq, Bool.not_eq_true', decide_eq_true_eq] at h5
  obtain ⟨⟨⟨⟨⟨g1, g2⟩, g3⟩, g4⟩, g5⟩, g6⟩ := h5
  simp [Cond.before, Cond.holds, Cond.value, h1, h2, h3, h4, g1, g2, g3, g4, g5, g6]
def isCode : Jvm.Cond → Bool
  | .code _ _ _ _ => true
  | _ => false
theorem all_split {L : List Jvm.Cond} {P : Jvm.Cond → Bool} (h1 : L.all (fun c => isCode c || P c) = true) (h2 : ∀ c ∈ L.filter isCode, P c = true) : L.all P = true := by
  refine List.all_eq_true.mpr fun c hc => ?_
  have h := List.all_eq_true.mp h1 c hc
  rcases Bool.eq_false_or_eq_true (isCode c) with hi | hi
  · exact h2 c (List.mem_filter.mpr ⟨hc, hi⟩)
  · simpa [hi] using h
set_option maxRecDepth 65536 in
theorem w_c0 : (Jvm.Cond.code x code maxLocals ret).before args0 about1 = true := code_word (m := ⟨1, 1⟩) (meth := k1m1) (c := k1c1) (by decide +kernel) rfl rfl rfl (by decide +kernel)
set_option maxRecDepth 65536 in
theorem w_c1 : (Jvm.Cond.code ({ cls := "com/example/orbweave/orbweave/sphere/SphereMinimiserDotPinLaw", name := "small", desc := "(I)I" } : Jvm.MethodName) method_3_code (1 : Nat) (Option.some Jvm.ClassFile.FieldType.int)).before args0 about1 = true := code_word (m := ⟨1, 2⟩) (meth := k1m2) (c := k1c2) (by decide +kernel) rfl rfl rfl (by decide +kernel)
set_option maxRecDepth 65536 in
theorem w_c2 : (Jvm.Cond.code ({ cls := "com/example/orbweave/orbweave/sphere/SphereMinimiser", name := "dot", desc := "([D[D)D" } : Jvm.MethodName) prog_61_method_7_code (5 : Nat) (Option.some Jvm.ClassFile.FieldType.double)).before args0 about1 = true := code_word (m := ⟨2, 1⟩) (meth := k2m1) (c := k2c1) (by decide +kernel) rfl rfl rfl (by decide +kernel)
def codes1 : List Jvm.Cond := [Jvm.Cond.code x code maxLocals ret, Jvm.Cond.code ({ cls := "com/example/orbweave/orbweave/sphere/SphereMinimiserDotPinLaw", name := "small", desc := "(I)I" } : Jvm.MethodName) method_3_code (1 : Nat) (Option.some Jvm.ClassFile.FieldType.int), Jvm.Cond.code ({ cls := "com/example/orbweave/orbweave/sphere/SphereMinimiser", name := "dot", desc := "([D[D)D" } : Jvm.MethodName) prog_61_method_7_code (5 : Nat) (Option.some Jvm.ClassFile.FieldType.double)]
set_option maxRecDepth 65536 in
theorem codes_eq : words1.filter isCode = codes1 := rfl
theorem w_codes : ∀ c ∈ words1.filter isCode, c.before args0 about1 = true := by
  rw [codes_eq]
  intro c hc
  simp only [codes1, List.mem_cons, List.not_mem_nil, or_false] at hc
  rcases hc with rfl | rfl | rfl
  · exact w_c0
  · exact w_c1
  · exact w_c2
set_option maxRecDepth 65536 in
theorem w_t1 : words1.all (fun c => isCode c || c.before args0 about1) = true := by decide +kernel
theorem w_tables : (allAtoms (Jvm.Cond.code x code maxLocals ret :: tables_1)).before args0 about1 = true := by
  rw [allAtoms_all]
  show words1.all (fun c => c.before args0 about1) = true
  refine all_split ?_ w_codes
  rw [w_t1]
set_option maxRecDepth 65536 in
theorem w_case : (Jvm.Cond.and given_1 narrow_1).before args0 about1 = true := by decide +kernel
theorem w_applies : (headSpec (Jvm.Cond.code x code maxLocals ret :: tables_1) room_1).applies x e0.platform about1 = true :=
  (Spec.applies_iff w_frames).mpr ⟨w_running, w_runnable, w_alone, w_named, w_hears, w_ripe, w_room, w_tables⟩
theorem atStart : AtStart classFile x code maxLocals ret World_1 tables_1 room_1 Calls_1 rest_1 Pre_1 launch0 p0 e0 about1 theMethod args0 below0 :=
  ⟨lists_1, trivial, launch0.admits_env _ _ _, launch0.least_env, fairChoices_fair.cas, fairChoices_fair.clock, w_frames, w_args, w_heap, w_applies, trivial, trivial, w_case⟩
end start1
theorem witness_1 : WitnessClaimed_1 := ⟨start1.p0, start1.e0, start1.about1, start1.theMethod, start1.args0, start1.below0, start1.atStart⟩
end Jvm.Pilot.@@N@@
