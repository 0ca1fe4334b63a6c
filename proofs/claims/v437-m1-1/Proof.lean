import JvmDerived
import JvmDerived.Pilot.@@N@@Statement
import JvmDerived.Pilot.@@N@@Code
set_option linter.unusedVariables false
set_option linter.unusedSimpArgs false
namespace Jvm.Pilot.@@N@@
open Jvm Jvm.ClassFile Sem Op Lib Jvm.Free Jvm.Stand Jvm.LawKit Jvm.RoadKit Bundle Jvm.Pilot.@@N@@.Jvm.D

section OwnWalk
variable {p : Program} {l : Launch} {e : Env} {R : Room} {s : State} {m : MethodId} {args : Array Value} {below : List Frame} {meth : Method} {c : Code} {T : State} {locs : List Loc} {cells slots : Nat} {Z : State} {h : Heap} {Q : Option Value → Heap → List Loc → Prop} {ce sl : Nat} {pc q q' : Nat} {ls : Array Slot} {st : List Value} {a0 : Array Value}
/-- the rest of a body's run, from the frame g on -/
def Go (p : Program) (e : Env) (below : List Frame) (s : State) (Q : Option Value → Heap → List Loc → Prop) (ce sl : Nat) (T : State) (g : JFrame) : Prop :=
  ∃ s₂ o, Steps p.tables e below (T.setTop g) s₂ ∧ s₂.status = .running ∧ Ended s₂ below o ∧ ∃ v L, o = .returned v ∧ Q v s₂.heap L ∧ FrameEnd s o s₂ L ce sl
theorem Go.to {T' : State} {g g' : JFrame} (k : Go p e below s Q ce sl T' g') (f : ∀ t, Steps p.tables e below (T'.setTop g') t → Steps p.tables e below (T.setTop g) t) : Go p e below s Q ce sl T g := by
  obtain ⟨s2, o, h1, r⟩ := k
  exact ⟨s2, o, f _ h1, r⟩
theorem Go.cast {g g' : JFrame} (w : g = g') (k : Go p e below s Q ce sl T g') : Go p e below s Q ce sl T g := w ▸ k
/-- a body's contract: from these arguments, over this heap, it returns with Q -/
abbrev Con (l : Launch) (y : MethodName) (bytes : ByteArray) (maxL : Nat) (ret : Option FieldType) (ws : List Jvm.Cond) (rm : Room) (Z : State) (as' : Array Value) (h : Heap) (Q : Option Value → Heap → List Loc → Prop) : Prop :=
  MetFree l y (head1 (Jvm.Cond.code y bytes maxL ret :: ws) rm) (fun a U => a = as' ∧ Z.Warmed39 U.vm ∧ U.heap = h) (fun _ _ _ _ _ => True) (fun _ U o U' => ∃ v L, o = .returned v ∧ Q v U'.heap L ∧ FrameEnd U o U' L rm.cells rm.slots)
theorem con_of {y : MethodName} {bytes : ByteArray} {maxL : Nat} {ret : Option FieldType} {ws : List Jvm.Cond} {rm : Room} {as' : Array Value} (hpl : plainFor y = true)
    (body : ∀ (p : Program) (e : Env) (s : State) (m : MethodId) (below : List Frame) (meth : Method) (c : Code) (s₁ : State), Stand p l e rm s m as' below meth c s₁ [] 0 0 → p.tables.exec = Jvm.exec → c.code = bytes → c.maxLocals = maxL → meth.sig.returnType = ret → meth.locks = false → s.vm.findClass y.cls = some m.cls → meth.name = y.name → Z.Warmed39 s.vm → s₁.heap = h → Go p e below s Q rm.cells rm.slots s₁ (entryFrame m as' maxL)) :
    Con l y bytes maxL ret ws rm Z as' h Q := by
  refine MetFree.of_bodySF hpl hisR ?_
  intro p e s m args below meth c s₁ Bd hml0 hP hK
  obtain ⟨rfl, hZ, hh⟩ := hP
  exact body p e s m below meth c s₁ (Stand.of_body Bd) Bd.exec Bd.bytes hml0 Bd.returns Bd.notSynchronized (findClass_of_methodNamed Bd.named) (name_of_methodNamed Bd.named Bd.method).1 hZ (by rw [← hh, Bd.state]; rfl)
theorem go_iload (X : Stand p l e R s m args below meth c T locs cells slots) (hx : p.tables.exec = Jvm.exec) {k : Nat} {v : Int32} (hd : decode c.code pc = .ok (.iload k, 2)) (hp : pc + 2 = q) (hl : ls[k]? = some (.val (.int v))) (K : Go p e below s Q ce sl T (mkF m q ls (.int v :: st))) : Go p e below s Q ce sl T (mkF m pc ls st) := by
  subst hp
  exact K.to fun _ r => XS.iload X.here hx rfl hd hl r
theorem go_iloadN (X : Stand p l e R s m args below meth c T locs cells slots) (hx : p.tables.exec = Jvm.exec) {k : Fin 4} {v : Int32} (hd : decode c.code pc = .ok (.iload_n k, 1)) (hp : pc + 1 = q) (hl : ls[k.val]? = some (.val (.int v))) (K : Go p e below s Q ce sl T (mkF m q ls (.int v :: st))) : Go p e below s Q ce sl T (mkF m pc ls st) := by
  subst hp
  exact K.to fun _ r => XS.iloadN X.here hx rfl hd hl r
theorem go_istore (X : Stand p l e R s m args below meth c T locs cells slots) (hx : p.tables.exec = Jvm.exec) {k : Nat} {v : Int32} {l' : Array Slot} (hd : decode c.code pc = .ok (.istore k, 2)) (hp : pc + 2 = q) (hl : storeLocals ls k (.int v) = some l') (K : Go p e below s Q ce sl T (mkF m q l' st)) : Go p e below s Q ce sl T (mkF m pc ls (.int v :: st)) := by
  subst hp
  exact K.to fun _ r => XS.istore X.here hx rfl hd rfl hl r
theorem go_istoreN (X : Stand p l e R s m args below meth c T locs cells slots) (hx : p.tables.exec = Jvm.exec) {k : Fin 4} {v : Int32} {l' : Array Slot} (hd : decode c.code pc = .ok (.istore_n k, 1)) (hp : pc + 1 = q) (hl : storeLocals ls k.val (.int v) = some l') (K : Go p e below s Q ce sl T (mkF m q l' st)) : Go p e below s Q ce sl T (mkF m pc ls (.int v :: st)) := by
  subst hp
  exact K.to fun _ r => XS.istoreN X.here hx rfl hd rfl hl r
theorem go_lload (X : Stand p l e R s m args below meth c T locs cells slots) (hx : p.tables.exec = Jvm.exec) {k : Nat} {v : Int64} (hd : decode c.code pc = .ok (.lload k, 2)) (hp : pc + 2 = q) (hl : ls[k]? = some (.val (.long v))) (K : Go p e below s Q ce sl T (mkF m q ls (.long v :: st))) : Go p e below s Q ce sl T (mkF m pc ls st) := by
  subst hp
  exact K.to fun _ r => XS.lload X.here hx rfl hd hl r
theorem go_lloadN (X : Stand p l e R s m args below meth c T locs cells slots) (hx : p.tables.exec = Jvm.exec) {k : Fin 4} {v : Int64} (hd : decode c.code pc = .ok (.lload_n k, 1)) (hp : pc + 1 = q) (hl : ls[k.val]? = some (.val (.long v))) (K : Go p e below s Q ce sl T (mkF m q ls (.long v :: st))) : Go p e below s Q ce sl T (mkF m pc ls st) := by
  subst hp
  exact K.to fun _ r => XS.lloadN X.here hx rfl hd hl r
theorem go_lstore (X : Stand p l e R s m args below meth c T locs cells slots) (hx : p.tables.exec = Jvm.exec) {k : Nat} {v : Int64} {l' : Array Slot} (hd : decode c.code pc = .ok (.lstore k, 2)) (hp : pc + 2 = q) (hl : storeLocals ls k (.long v) = some l') (K : Go p e below s Q ce sl T (mkF m q l' st)) : Go p e below s Q ce sl T (mkF m pc ls (.long v :: st)) := by
  subst hp
  exact K.to fun _ r => XS.lstore X.here hx rfl hd rfl hl r
theorem go_lstoreN (X : Stand p l e R s m args below meth c T locs cells slots) (hx : p.tables.exec = Jvm.exec) {k : Fin 4} {v : Int64} {l' : Array Slot} (hd : decode c.code pc = .ok (.lstore_n k, 1)) (hp : pc + 1 = q) (hl : storeLocals ls k.val (.long v) = some l') (K : Go p e below s Q ce sl T (mkF m q l' st)) : Go p e below s Q ce sl T (mkF m pc ls (.long v :: st)) := by
  subst hp
  exact K.to fun _ r => XS.lstoreN X.here hx rfl hd rfl hl r
theorem go_dload (X : Stand p l e R s m args below meth c T locs cells slots) (hx : p.tables.exec = Jvm.exec) {k : Nat} {v : UInt64} (hd : decode c.code pc = .ok (.dload k, 2)) (hp : pc + 2 = q) (hl : ls[k]? = some (.val (.double v))) (K : Go p e below s Q ce sl T (mkF m q ls (.double v :: st))) : Go p e below s Q ce sl T (mkF m pc ls st) := by
  subst hp
  exact K.to fun _ r => XS.dload X.here hx rfl hd hl r
theorem go_dloadN (X : Stand p l e R s m args below meth c T locs cells slots) (hx : p.tables.exec = Jvm.exec) {k : Fin 4} {v : UInt64} (hd : decode c.code pc = .ok (.dload_n k, 1)) (hp : pc + 1 = q) (hl : ls[k.val]? = some (.val (.double v))) (K : Go p e below s Q ce sl T (mkF m q ls (.double v :: st))) : Go p e below s Q ce sl T (mkF m pc ls st) := by
  subst hp
  exact K.to fun _ r => XS.dloadN X.here hx rfl hd hl r
theorem go_dstore (X : Stand p l e R s m args below meth c T locs cells slots) (hx : p.tables.exec = Jvm.exec) {k : Nat} {v : UInt64} {l' : Array Slot} (hd : decode c.code pc = .ok (.dstore k, 2)) (hp : pc + 2 = q) (hl : storeLocals ls k (.double v) = some l') (K : Go p e below s Q ce sl T (mkF m q l' st)) : Go p e below s Q ce sl T (mkF m pc ls (.double v :: st)) := by
  subst hp
  exact K.to fun _ r => XS.dstore X.here hx rfl hd rfl hl r
theorem go_dstoreN (X : Stand p l e R s m args below meth c T locs cells slots) (hx : p.tables.exec = Jvm.exec) {k : Fin 4} {v : UInt64} {l' : Array Slot} (hd : decode c.code pc = .ok (.dstore_n k, 1)) (hp : pc + 1 = q) (hl : storeLocals ls k.val (.double v) = some l') (K : Go p e below s Q ce sl T (mkF m q l' st)) : Go p e below s Q ce sl T (mkF m pc ls (.double v :: st)) := by
  subst hp
  exact K.to fun _ r => XS.dstoreN X.here hx rfl hd rfl hl r
theorem go_fload (X : Stand p l e R s m args below meth c T locs cells slots) (hx : p.tables.exec = Jvm.exec) {k : Nat} {v : UInt32} (hd : decode c.code pc = .ok (.fload k, 2)) (hp : pc + 2 = q) (hl : ls[k]? = some (.val (.float v))) (K : Go p e below s Q ce sl T (mkF m q ls (.float v :: st))) : Go p e below s Q ce sl T (mkF m pc ls st) := by
  subst hp
  exact K.to fun _ r => XS.fload X.here hx rfl hd hl r
theorem go_floadN (X : Stand p l e R s m args below meth c T locs cells slots) (hx : p.tables.exec = Jvm.exec) {k : Fin 4} {v : UInt32} (hd : decode c.code pc = .ok (.fload_n k, 1)) (hp : pc + 1 = q) (hl : ls[k.val]? = some (.val (.float v))) (K : Go p e below s Q ce sl T (mkF m q ls (.float v :: st))) : Go p e below s Q ce sl T (mkF m pc ls st) := by
  subst hp
  exact K.to fun _ r => XS.floadN X.here hx rfl hd hl r
theorem go_fstore (X : Stand p l e R s m args below meth c T locs cells slots) (hx : p.tables.exec = Jvm.exec) {k : Nat} {v : UInt32} {l' : Array Slot} (hd : decode c.code pc = .ok (.fstore k, 2)) (hp : pc + 2 = q) (hl : storeLocals ls k (.float v) = some l') (K : Go p e below s Q ce sl T (mkF m q l' st)) : Go p e below s Q ce sl T (mkF m pc ls (.float v :: st)) := by
  subst hp
  exact K.to fun _ r => XS.fstore X.here hx rfl hd rfl hl r
theorem go_fstoreN (X : Stand p l e R s m args below meth c T locs cells slots) (hx : p.tables.exec = Jvm.exec) {k : Fin 4} {v : UInt32} {l' : Array Slot} (hd : decode c.code pc = .ok (.fstore_n k, 1)) (hp : pc + 1 = q) (hl : storeLocals ls k.val (.float v) = some l') (K : Go p e below s Q ce sl T (mkF m q l' st)) : Go p e below s Q ce sl T (mkF m pc ls (.float v :: st)) := by
  subst hp
  exact K.to fun _ r => XS.fstoreN X.here hx rfl hd rfl hl r
theorem go_aload (X : Stand p l e R s m args below meth c T locs cells slots) (hx : p.tables.exec = Jvm.exec) {k : Nat} {v : Value} (hd : decode c.code pc = .ok (.aload k, 2)) (hp : pc + 2 = q) (hl : ls[k]? = some (.val v)) (hv : v.isRef = true) (K : Go p e below s Q ce sl T (mkF m q ls (v :: st))) : Go p e below s Q ce sl T (mkF m pc ls st) := by
  subst hp
  exact K.to fun _ r => XS.aload X.here hx rfl hd hl hv r
theorem go_aloadN (X : Stand p l e R s m args below meth c T locs cells slots) (hx : p.tables.exec = Jvm.exec) {k : Fin 4} {v : Value} (hd : decode c.code pc = .ok (.aload_n k, 1)) (hp : pc + 1 = q) (hl : ls[k.val]? = some (.val v)) (hv : v.isRef = true) (K : Go p e below s Q ce sl T (mkF m q ls (v :: st))) : Go p e below s Q ce sl T (mkF m pc ls st) := by
  subst hp
  exact K.to fun _ r => XS.aloadN X.here hx rfl hd hl hv r
theorem go_astore (X : Stand p l e R s m args below meth c T locs cells slots) (hx : p.tables.exec = Jvm.exec) {k : Nat} {v : Value} {l' : Array Slot} (hd : decode c.code pc = .ok (.astore k, 2)) (hp : pc + 2 = q) (hv : v.isRef = true) (hl : storeLocals ls k v = some l') (K : Go p e below s Q ce sl T (mkF m q l' st)) : Go p e below s Q ce sl T (mkF m pc ls (v :: st)) := by
  subst hp
  exact K.to fun _ r => XS.astore X.here hx rfl hd rfl hv hl r
theorem go_astoreN (X : Stand p l e R s m args below meth c T locs cells slots) (hx : p.tables.exec = Jvm.exec) {k : Fin 4} {v : Value} {l' : Array Slot} (hd : decode c.code pc = .ok (.astore_n k, 1)) (hp : pc + 1 = q) (hv : v.isRef = true) (hl : storeLocals ls k.val v = some l') (K : Go p e below s Q ce sl T (mkF m q l' st)) : Go p e below s Q ce sl T (mkF m pc ls (v :: st)) := by
  subst hp
  exact K.to fun _ r => XS.astoreN X.here hx rfl hd rfl hv hl r
theorem go_iconst (X : Stand p l e R s m args below meth c T locs cells slots) (hx : p.tables.exec = Jvm.exec) {i : Int} {v : Int32} (hd : decode c.code pc = .ok (.iconst i, 1)) (hp : pc + 1 = q) (hv : Int32.ofInt i = v) (K : Go p e below s Q ce sl T (mkF m q ls (.int v :: st))) : Go p e below s Q ce sl T (mkF m pc ls st) := by
  subst hp
  exact K.to fun _ r => XS.iconst X.here hx rfl hd (hv ▸ r)
theorem go_bipush (X : Stand p l e R s m args below meth c T locs cells slots) (hx : p.tables.exec = Jvm.exec) {i : Int} {v : Int32} (hd : decode c.code pc = .ok (.bipush i, 2)) (hp : pc + 2 = q) (hv : (Int8.ofInt i).toInt32 = v) (K : Go p e below s Q ce sl T (mkF m q ls (.int v :: st))) : Go p e below s Q ce sl T (mkF m pc ls st) := by
  subst hp
  exact K.to fun _ r => XS.bipush X.here hx rfl hd (hv ▸ r)
theorem go_sipush (X : Stand p l e R s m args below meth c T locs cells slots) (hx : p.tables.exec = Jvm.exec) {i : Int} {v : Int32} (hd : decode c.code pc = .ok (.sipush i, 3)) (hp : pc + 3 = q) (hv : (Int16.ofInt i).toInt32 = v) (K : Go p e below s Q ce sl T (mkF m q ls (.int v :: st))) : Go p e below s Q ce sl T (mkF m pc ls st) := by
  subst hp
  exact K.to fun _ r => XS.sipush X.here hx rfl hd (hv ▸ r)
theorem go_lconst (X : Stand p l e R s m args below meth c T locs cells slots) (hx : p.tables.exec = Jvm.exec) {k : Fin 2} {v : Int64} (hd : decode c.code pc = .ok (.lconst k, 1)) (hp : pc + 1 = q) (hv : Int64.ofNat k = v) (K : Go p e below s Q ce sl T (mkF m q ls (.long v :: st))) : Go p e below s Q ce sl T (mkF m pc ls st) := by
  subst hp
  exact K.to fun _ r => XS.lconst X.here hx rfl hd (hv ▸ r)
theorem go_aconstNull (X : Stand p l e R s m args below meth c T locs cells slots) (hx : p.tables.exec = Jvm.exec)  (hd : decode c.code pc = .ok (.aconst_null, 1)) (hp : pc + 1 = q)  (K : Go p e below s Q ce sl T (mkF m q ls (.null :: st))) : Go p e below s Q ce sl T (mkF m pc ls st) := by
  subst hp
  exact K.to fun _ r => XS.aconstNull X.here hx rfl hd r
theorem go_dconst0 (X : Stand p l e R s m args below meth c T locs cells slots) (hx : p.tables.exec = Jvm.exec) {v : UInt64} (hd : decode c.code pc = .ok (.dconst 0, 1)) (hp : pc + 1 = q) (hv : FP.dconst0 = v) (K : Go p e below s Q ce sl T (mkF m q ls (.double v :: st))) : Go p e below s Q ce sl T (mkF m pc ls st) := by
  subst hp
  exact K.to fun _ r => XS.dconst0 X.here hx rfl hd hv r
theorem go_dconst1 (X : Stand p l e R s m args below meth c T locs cells slots) (hx : p.tables.exec = Jvm.exec) {v : UInt64} (hd : decode c.code pc = .ok (.dconst 1, 1)) (hp : pc + 1 = q) (hv : FP.dconst1 = v) (K : Go p e below s Q ce sl T (mkF m q ls (.double v :: st))) : Go p e below s Q ce sl T (mkF m pc ls st) := by
  subst hp
  exact K.to fun _ r => XS.dconst1 X.here hx rfl hd hv r
theorem go_iadd (X : Stand p l e R s m args below meth c T locs cells slots) (hx : p.tables.exec = Jvm.exec) {x y v : Int32} (hd : decode c.code pc = .ok (.iadd, 1)) (hp : pc + 1 = q) (hv : x + y = v) (K : Go p e below s Q ce sl T (mkF m q ls (.int v :: st))) : Go p e below s Q ce sl T (mkF m pc ls (.int y :: .int x :: st)) := by
  subst hp
  exact K.to fun _ r => XS.iadd X.here hx rfl hd rfl (hv ▸ r)
theorem go_isub (X : Stand p l e R s m args below meth c T locs cells slots) (hx : p.tables.exec = Jvm.exec) {x y v : Int32} (hd : decode c.code pc = .ok (.isub, 1)) (hp : pc + 1 = q) (hv : x - y = v) (K : Go p e below s Q ce sl T (mkF m q ls (.int v :: st))) : Go p e below s Q ce sl T (mkF m pc ls (.int y :: .int x :: st)) := by
  subst hp
  exact K.to fun _ r => XS.isub X.here hx rfl hd rfl (hv ▸ r)
theorem go_imul (X : Stand p l e R s m args below meth c T locs cells slots) (hx : p.tables.exec = Jvm.exec) {x y v : Int32} (hd : decode c.code pc = .ok (.imul, 1)) (hp : pc + 1 = q) (hv : x * y = v) (K : Go p e below s Q ce sl T (mkF m q ls (.int v :: st))) : Go p e below s Q ce sl T (mkF m pc ls (.int y :: .int x :: st)) := by
  subst hp
  exact K.to fun _ r => XS.imul X.here hx rfl hd rfl (hv ▸ r)
theorem go_iand (X : Stand p l e R s m args below meth c T locs cells slots) (hx : p.tables.exec = Jvm.exec) {x y v : Int32} (hd : decode c.code pc = .ok (.iand, 1)) (hp : pc + 1 = q) (hv : x &&& y = v) (K : Go p e below s Q ce sl T (mkF m q ls (.int v :: st))) : Go p e below s Q ce sl T (mkF m pc ls (.int y :: .int x :: st)) := by
  subst hp
  exact K.to fun _ r => XS.iand X.here hx rfl hd rfl (hv ▸ r)
theorem go_ior (X : Stand p l e R s m args below meth c T locs cells slots) (hx : p.tables.exec = Jvm.exec) {x y v : Int32} (hd : decode c.code pc = .ok (.ior, 1)) (hp : pc + 1 = q) (hv : x ||| y = v) (K : Go p e below s Q ce sl T (mkF m q ls (.int v :: st))) : Go p e below s Q ce sl T (mkF m pc ls (.int y :: .int x :: st)) := by
  subst hp
  exact K.to fun _ r => XS.ior X.here hx rfl hd rfl (hv ▸ r)
theorem go_ixor (X : Stand p l e R s m args below meth c T locs cells slots) (hx : p.tables.exec = Jvm.exec) {x y v : Int32} (hd : decode c.code pc = .ok (.ixor, 1)) (hp : pc + 1 = q) (hv : x ^^^ y = v) (K : Go p e below s Q ce sl T (mkF m q ls (.int v :: st))) : Go p e below s Q ce sl T (mkF m pc ls (.int y :: .int x :: st)) := by
  subst hp
  exact K.to fun _ r => XS.ixor X.here hx rfl hd rfl (hv ▸ r)
theorem go_ineg (X : Stand p l e R s m args below meth c T locs cells slots) (hx : p.tables.exec = Jvm.exec) {x v : Int32} (hd : decode c.code pc = .ok (.ineg, 1)) (hp : pc + 1 = q) (hv : -x = v) (K : Go p e below s Q ce sl T (mkF m q ls (.int v :: st))) : Go p e below s Q ce sl T (mkF m pc ls (.int x :: st)) := by
  subst hp
  exact K.to fun _ r => XS.ineg X.here hx rfl hd rfl (hv ▸ r)
theorem go_idiv (X : Stand p l e R s m args below meth c T locs cells slots) (hx : p.tables.exec = Jvm.exec) {x y v : Int32} (hd : decode c.code pc = .ok (.idiv, 1)) (hp : pc + 1 = q) (hy : y ≠ 0) (hv : x / y = v) (K : Go p e below s Q ce sl T (mkF m q ls (.int v :: st))) : Go p e below s Q ce sl T (mkF m pc ls (.int y :: .int x :: st)) := by
  subst hp
  exact K.to fun _ r => XS.idiv X.here hx rfl hd rfl hy (hv ▸ r)
theorem go_ladd (X : Stand p l e R s m args below meth c T locs cells slots) (hx : p.tables.exec = Jvm.exec) {x y v : Int64} (hd : decode c.code pc = .ok (.ladd, 1)) (hp : pc + 1 = q) (hv : x + y = v) (K : Go p e below s Q ce sl T (mkF m q ls (.long v :: st))) : Go p e below s Q ce sl T (mkF m pc ls (.long y :: .long x :: st)) := by
  subst hp
  exact K.to fun _ r => XS.ladd X.here hx rfl hd rfl (hv ▸ r)
theorem go_lsub (X : Stand p l e R s m args below meth c T locs cells slots) (hx : p.tables.exec = Jvm.exec) {x y v : Int64} (hd : decode c.code pc = .ok (.lsub, 1)) (hp : pc + 1 = q) (hv : x - y = v) (K : Go p e below s Q ce sl T (mkF m q ls (.long v :: st))) : Go p e below s Q ce sl T (mkF m pc ls (.long y :: .long x :: st)) := by
  subst hp
  exact K.to fun _ r => XS.lsub X.here hx rfl hd rfl (hv ▸ r)
theorem go_lmul (X : Stand p l e R s m args below meth c T locs cells slots) (hx : p.tables.exec = Jvm.exec) {x y v : Int64} (hd : decode c.code pc = .ok (.lmul, 1)) (hp : pc + 1 = q) (hv : x * y = v) (K : Go p e below s Q ce sl T (mkF m q ls (.long v :: st))) : Go p e below s Q ce sl T (mkF m pc ls (.long y :: .long x :: st)) := by
  subst hp
  exact K.to fun _ r => XS.lmul X.here hx rfl hd rfl (hv ▸ r)
theorem go_land (X : Stand p l e R s m args below meth c T locs cells slots) (hx : p.tables.exec = Jvm.exec) {x y v : Int64} (hd : decode c.code pc = .ok (.land, 1)) (hp : pc + 1 = q) (hv : x &&& y = v) (K : Go p e below s Q ce sl T (mkF m q ls (.long v :: st))) : Go p e below s Q ce sl T (mkF m pc ls (.long y :: .long x :: st)) := by
  subst hp
  exact K.to fun _ r => XS.land X.here hx rfl hd rfl (hv ▸ r)
theorem go_lor (X : Stand p l e R s m args below meth c T locs cells slots) (hx : p.tables.exec = Jvm.exec) {x y v : Int64} (hd : decode c.code pc = .ok (.lor, 1)) (hp : pc + 1 = q) (hv : x ||| y = v) (K : Go p e below s Q ce sl T (mkF m q ls (.long v :: st))) : Go p e below s Q ce sl T (mkF m pc ls (.long y :: .long x :: st)) := by
  subst hp
  exact K.to fun _ r => XS.lor X.here hx rfl hd rfl (hv ▸ r)
theorem go_lxor (X : Stand p l e R s m args below meth c T locs cells slots) (hx : p.tables.exec = Jvm.exec) {x y v : Int64} (hd : decode c.code pc = .ok (.lxor, 1)) (hp : pc + 1 = q) (hv : x ^^^ y = v) (K : Go p e below s Q ce sl T (mkF m q ls (.long v :: st))) : Go p e below s Q ce sl T (mkF m pc ls (.long y :: .long x :: st)) := by
  subst hp
  exact K.to fun _ r => XS.lxor X.here hx rfl hd rfl (hv ▸ r)
theorem go_lneg (X : Stand p l e R s m args below meth c T locs cells slots) (hx : p.tables.exec = Jvm.exec) {x v : Int64} (hd : decode c.code pc = .ok (.lneg, 1)) (hp : pc + 1 = q) (hv : -x = v) (K : Go p e below s Q ce sl T (mkF m q ls (.long v :: st))) : Go p e below s Q ce sl T (mkF m pc ls (.long x :: st)) := by
  subst hp
  exact K.to fun _ r => XS.lneg X.here hx rfl hd rfl (hv ▸ r)
theorem go_ldiv (X : Stand p l e R s m args below meth c T locs cells slots) (hx : p.tables.exec = Jvm.exec) {x y v : Int64} (hd : decode c.code pc = .ok (.ldiv, 1)) (hp : pc + 1 = q) (hy : y ≠ 0) (hv : x / y = v) (K : Go p e below s Q ce sl T (mkF m q ls (.long v :: st))) : Go p e below s Q ce sl T (mkF m pc ls (.long y :: .long x :: st)) := by
  subst hp
  exact K.to fun _ r => XS.ldiv X.here hx rfl hd rfl hy (hv ▸ r)
theorem go_irem (X : Stand p l e R s m args below meth c T locs cells slots) (hx : p.tables.exec = Jvm.exec) {x y v : Int32} (hd : decode c.code pc = .ok (.irem, 1)) (hp : pc + 1 = q) (hy : y ≠ 0) (hv : x % y = v) (K : Go p e below s Q ce sl T (mkF m q ls (.int v :: st))) : Go p e below s Q ce sl T (mkF m pc ls (.int y :: .int x :: st)) := by
  subst hp
  exact K.to fun _ r => iremM X hx rfl hd rfl hy (hv ▸ r)
theorem go_lrem (X : Stand p l e R s m args below meth c T locs cells slots) (hx : p.tables.exec = Jvm.exec) {x y v : Int64} (hd : decode c.code pc = .ok (.lrem, 1)) (hp : pc + 1 = q) (hy : y ≠ 0) (hv : x % y = v) (K : Go p e below s Q ce sl T (mkF m q ls (.long v :: st))) : Go p e below s Q ce sl T (mkF m pc ls (.long y :: .long x :: st)) := by
  subst hp
  exact K.to fun _ r => XS.lrem X.here hx rfl hd rfl hy ((lrem_mod x y).symm ▸ hv ▸ r)
theorem go_ishl (X : Stand p l e R s m args below meth c T locs cells slots) (hx : p.tables.exec = Jvm.exec) {x v : Int32} {y : Int32} (hd : decode c.code pc = .ok (.ishl, 1)) (hp : pc + 1 = q) (hv : (x <<< (y &&& 31)) = v) (K : Go p e below s Q ce sl T (mkF m q ls (.int v :: st))) : Go p e below s Q ce sl T (mkF m pc ls (.int y :: .int x :: st)) := by
  subst hp
  exact K.to fun _ r => XS.ishl X.here hx rfl hd rfl (hv ▸ r)
theorem go_ishr (X : Stand p l e R s m args below meth c T locs cells slots) (hx : p.tables.exec = Jvm.exec) {x v : Int32} {y : Int32} (hd : decode c.code pc = .ok (.ishr, 1)) (hp : pc + 1 = q) (hv : (x >>> (y &&& 31)) = v) (K : Go p e below s Q ce sl T (mkF m q ls (.int v :: st))) : Go p e below s Q ce sl T (mkF m pc ls (.int y :: .int x :: st)) := by
  subst hp
  exact K.to fun _ r => XS.ishr X.here hx rfl hd rfl (hv ▸ r)
theorem go_iushr (X : Stand p l e R s m args below meth c T locs cells slots) (hx : p.tables.exec = Jvm.exec) {x v : Int32} {y : Int32} (hd : decode c.code pc = .ok (.iushr, 1)) (hp : pc + 1 = q) (hv : ((x.toUInt32 >>> (y &&& 31).toUInt32).toInt32) = v) (K : Go p e below s Q ce sl T (mkF m q ls (.int v :: st))) : Go p e below s Q ce sl T (mkF m pc ls (.int y :: .int x :: st)) := by
  subst hp
  exact K.to fun _ r => XS.iushr X.here hx rfl hd rfl (hv ▸ r)
theorem go_lshl (X : Stand p l e R s m args below meth c T locs cells slots) (hx : p.tables.exec = Jvm.exec) {x v : Int64} {y : Int32} (hd : decode c.code pc = .ok (.lshl, 1)) (hp : pc + 1 = q) (hv : (x <<< (y &&& 0x3f).toInt64) = v) (K : Go p e below s Q ce sl T (mkF m q ls (.long v :: st))) : Go p e below s Q ce sl T (mkF m pc ls (.int y :: .long x :: st)) := by
  subst hp
  exact K.to fun _ r => XS.lshl X.here hx rfl hd rfl (hv ▸ r)
theorem go_lshr (X : Stand p l e R s m args below meth c T locs cells slots) (hx : p.tables.exec = Jvm.exec) {x v : Int64} {y : Int32} (hd : decode c.code pc = .ok (.lshr, 1)) (hp : pc + 1 = q) (hv : (x >>> (y &&& 0x3f).toInt64) = v) (K : Go p e below s Q ce sl T (mkF m q ls (.long v :: st))) : Go p e below s Q ce sl T (mkF m pc ls (.int y :: .long x :: st)) := by
  subst hp
  exact K.to fun _ r => XS.lshr X.here hx rfl hd rfl (hv ▸ r)
theorem go_lushr (X : Stand p l e R s m args below meth c T locs cells slots) (hx : p.tables.exec = Jvm.exec) {x v : Int64} {y : Int32} (hd : decode c.code pc = .ok (.lushr, 1)) (hp : pc + 1 = q) (hv : ((x.toUInt64 >>> (y &&& 0x3f).toInt64.toUInt64).toInt64) = v) (K : Go p e below s Q ce sl T (mkF m q ls (.long v :: st))) : Go p e below s Q ce sl T (mkF m pc ls (.int y :: .long x :: st)) := by
  subst hp
  exact K.to fun _ r => XS.lushr X.here hx rfl hd rfl (hv ▸ r)
theorem go_i2l (X : Stand p l e R s m args below meth c T locs cells slots) (hx : p.tables.exec = Jvm.exec) {x : Int32} {v : Int64} (hd : decode c.code pc = .ok (.i2l, 1)) (hp : pc + 1 = q) (hv : x.toInt64 = v) (K : Go p e below s Q ce sl T (mkF m q ls (.long v :: st))) : Go p e below s Q ce sl T (mkF m pc ls (.int x :: st)) := by
  subst hp
  exact K.to fun _ r => XS.i2l X.here hx rfl hd rfl (hv ▸ r)
theorem go_l2i (X : Stand p l e R s m args below meth c T locs cells slots) (hx : p.tables.exec = Jvm.exec) {x : Int64} {v : Int32} (hd : decode c.code pc = .ok (.l2i, 1)) (hp : pc + 1 = q) (hv : x.toInt32 = v) (K : Go p e below s Q ce sl T (mkF m q ls (.int v :: st))) : Go p e below s Q ce sl T (mkF m pc ls (.long x :: st)) := by
  subst hp
  exact K.to fun _ r => XS.l2i X.here hx rfl hd rfl (hv ▸ r)
theorem go_i2b (X : Stand p l e R s m args below meth c T locs cells slots) (hx : p.tables.exec = Jvm.exec) {x : Int32} {v : Int32} (hd : decode c.code pc = .ok (.i2b, 1)) (hp : pc + 1 = q) (hv : x.toInt8.toInt32 = v) (K : Go p e below s Q ce sl T (mkF m q ls (.int v :: st))) : Go p e below s Q ce sl T (mkF m pc ls (.int x :: st)) := by
  subst hp
  exact K.to fun _ r => XS.i2b X.here hx rfl hd rfl (hv ▸ r)
theorem go_i2s (X : Stand p l e R s m args below meth c T locs cells slots) (hx : p.tables.exec = Jvm.exec) {x : Int32} {v : Int32} (hd : decode c.code pc = .ok (.i2s, 1)) (hp : pc + 1 = q) (hv : x.toInt16.toInt32 = v) (K : Go p e below s Q ce sl T (mkF m q ls (.int v :: st))) : Go p e below s Q ce sl T (mkF m pc ls (.int x :: st)) := by
  subst hp
  exact K.to fun _ r => XS.i2s X.here hx rfl hd rfl (hv ▸ r)
theorem go_i2c (X : Stand p l e R s m args below meth c T locs cells slots) (hx : p.tables.exec = Jvm.exec) {x : Int32} {v : Int32} (hd : decode c.code pc = .ok (.i2c, 1)) (hp : pc + 1 = q) (hv : x.toUInt32.toUInt16.toUInt32.toInt32 = v) (K : Go p e below s Q ce sl T (mkF m q ls (.int v :: st))) : Go p e below s Q ce sl T (mkF m pc ls (.int x :: st)) := by
  subst hp
  exact K.to fun _ r => XS.i2c X.here hx rfl hd rfl (hv ▸ r)
theorem go_lcmp (X : Stand p l e R s m args below meth c T locs cells slots) (hx : p.tables.exec = Jvm.exec) {x y : Int64} (hd : decode c.code pc = .ok (.lcmp, 1)) (hp : pc + 1 = q)  (K : Go p e below s Q ce sl T (mkF m q ls (.int (lcmpW x y) :: st))) : Go p e below s Q ce sl T (mkF m pc ls (.long y :: .long x :: st)) := by
  subst hp
  exact K.to fun _ r => XS.lcmp X.here hx rfl hd rfl r
theorem go_i2d (X : Stand p l e R s m args below meth c T locs cells slots) (hx : p.tables.exec = Jvm.exec) {x : Int32} {v : UInt64} (hd : decode c.code pc = .ok (.i2d, 1)) (hp : pc + 1 = q) (hv : FP.i2d x = v) (K : Go p e below s Q ce sl T (mkF m q ls (.double v :: st))) : Go p e below s Q ce sl T (mkF m pc ls (.int x :: st)) := by
  subst hp
  exact K.to fun _ r => XS.i2dS X.here hx rfl hd rfl hv r
theorem go_l2d (X : Stand p l e R s m args below meth c T locs cells slots) (hx : p.tables.exec = Jvm.exec) {x : Int64} {v : UInt64} (hd : decode c.code pc = .ok (.l2d, 1)) (hp : pc + 1 = q) (hv : FP.l2d x = v) (K : Go p e below s Q ce sl T (mkF m q ls (.double v :: st))) : Go p e below s Q ce sl T (mkF m pc ls (.long x :: st)) := by
  subst hp
  exact K.to fun _ r => XS.l2dS X.here hx rfl hd rfl hv r
theorem go_d2l (X : Stand p l e R s m args below meth c T locs cells slots) (hx : p.tables.exec = Jvm.exec) {x : UInt64} {v : Int64} (hd : decode c.code pc = .ok (.d2l, 1)) (hp : pc + 1 = q) (hv : FP.d2l x = v) (K : Go p e below s Q ce sl T (mkF m q ls (.long v :: st))) : Go p e below s Q ce sl T (mkF m pc ls (.double x :: st)) := by
  subst hp
  exact K.to fun _ r => XS.d2lS X.here hx rfl hd rfl hv r
theorem go_i2f (X : Stand p l e R s m args below meth c T locs cells slots) (hx : p.tables.exec = Jvm.exec) {x : Int32} {v : UInt32} (hd : decode c.code pc = .ok (.i2f, 1)) (hp : pc + 1 = q) (hv : FP.i2f x = v) (K : Go p e below s Q ce sl T (mkF m q ls (.float v :: st))) : Go p e below s Q ce sl T (mkF m pc ls (.int x :: st)) := by
  subst hp
  exact K.to fun _ r => XS.i2fS X.here hx rfl hd rfl hv r
theorem go_f2d (X : Stand p l e R s m args below meth c T locs cells slots) (hx : p.tables.exec = Jvm.exec) {x : UInt32} {v : UInt64} (hd : decode c.code pc = .ok (.f2d, 1)) (hp : pc + 1 = q) (hn : Jvm.Free.Fl.NoNaN64 (FP.f2d x)) (hv : FP.f2d x = v) (K : Go p e below s Q ce sl T (mkF m q ls (.double v :: st))) : Go p e below s Q ce sl T (mkF m pc ls (.float x :: st)) := by
  subst hp
  exact K.to fun _ r => XS.f2dS X.here hx rfl hd rfl hn hv r
theorem go_dcmp (X : Stand p l e R s m args below meth c T locs cells slots) (hx : p.tables.exec = Jvm.exec) {o : CmpOp} {x y : UInt64} {v : Int32} (hd : decode c.code pc = .ok (.dcmp o, 1)) (hp : pc + 1 = q) (hv : cmpValue (FP.dcmp x y) o = v) (K : Go p e below s Q ce sl T (mkF m q ls (.int v :: st))) : Go p e below s Q ce sl T (mkF m pc ls (.double y :: .double x :: st)) := by
  subst hp
  exact K.to fun _ r => XS.dcmpS X.here hx rfl hd rfl hv r
theorem go_dadd (X : Stand p l e R s m args below meth c T locs cells slots) (hx : p.tables.exec = Jvm.exec) {x y v : UInt64} (hd : decode c.code pc = .ok (.dadd, 1)) (hp : pc + 1 = q) (hn : Jvm.Free.Fl.NoNaN64 (FP.dadd x y)) (hv : FP.dadd x y = v) (K : Go p e below s Q ce sl T (mkF m q ls (.double v :: st))) : Go p e below s Q ce sl T (mkF m pc ls (.double y :: .double x :: st)) := by
  subst hp
  exact K.to fun _ r => XS.daddS X.here hx rfl hd rfl hn hv r
theorem go_dsub (X : Stand p l e R s m args below meth c T locs cells slots) (hx : p.tables.exec = Jvm.exec) {x y v : UInt64} (hd : decode c.code pc = .ok (.dsub, 1)) (hp : pc + 1 = q) (hn : Jvm.Free.Fl.NoNaN64 (FP.dsub x y)) (hv : FP.dsub x y = v) (K : Go p e below s Q ce sl T (mkF m q ls (.double v :: st))) : Go p e below s Q ce sl T (mkF m pc ls (.double y :: .double x :: st)) := by
  subst hp
  exact K.to fun _ r => XS.dsubS X.here hx rfl hd rfl hn hv r
theorem go_dmul (X : Stand p l e R s m args below meth c T locs cells slots) (hx : p.tables.exec = Jvm.exec) {x y v : UInt64} (hd : decode c.code pc = .ok (.dmul, 1)) (hp : pc + 1 = q) (hn : Jvm.Free.Fl.NoNaN64 (FP.dmul x y)) (hv : FP.dmul x y = v) (K : Go p e below s Q ce sl T (mkF m q ls (.double v :: st))) : Go p e below s Q ce sl T (mkF m pc ls (.double y :: .double x :: st)) := by
  subst hp
  exact K.to fun _ r => XS.dmulS X.here hx rfl hd rfl hn hv r
theorem go_ddiv (X : Stand p l e R s m args below meth c T locs cells slots) (hx : p.tables.exec = Jvm.exec) {x y v : UInt64} (hd : decode c.code pc = .ok (.ddiv, 1)) (hp : pc + 1 = q) (hn : Jvm.Free.Fl.NoNaN64 (FP.ddiv x y)) (hv : FP.ddiv x y = v) (K : Go p e below s Q ce sl T (mkF m q ls (.double v :: st))) : Go p e below s Q ce sl T (mkF m pc ls (.double y :: .double x :: st)) := by
  subst hp
  exact K.to fun _ r => XS.ddivS X.here hx rfl hd rfl hn hv r
theorem go_dup (X : Stand p l e R s m args below meth c T locs cells slots) (hx : p.tables.exec = Jvm.exec) {v : Value} (hd : decode c.code pc = .ok (.dup, 1)) (hp : pc + 1 = q) (hv : v.category = 1) (K : Go p e below s Q ce sl T (mkF m q ls (v :: v :: st))) : Go p e below s Q ce sl T (mkF m pc ls (v :: st)) := by
  subst hp
  exact K.to fun _ r => XS.dup X.here hx rfl hd rfl hv r
theorem go_pop (X : Stand p l e R s m args below meth c T locs cells slots) (hx : p.tables.exec = Jvm.exec) {v : Value} (hd : decode c.code pc = .ok (.pop, 1)) (hp : pc + 1 = q) (hv : v.category = 1) (K : Go p e below s Q ce sl T (mkF m q ls st)) : Go p e below s Q ce sl T (mkF m pc ls (v :: st)) := by
  subst hp
  exact K.to fun _ r => XS.pop X.here hx rfl hd rfl hv r
theorem go_iinc (X : Stand p l e R s m args below meth c T locs cells slots) (hx : p.tables.exec = Jvm.exec) {k : Nat} {i : Int} {v : Int32} {l' : Array Slot} (hd : decode c.code pc = .ok (.iinc k i, 3)) (hp : pc + 3 = q) (hl : ls[k]? = some (.val (.int v))) (hs : storeLocals ls k (.int (v + Int32.ofInt i)) = some l') (K : Go p e below s Q ce sl T (mkF m q l' st)) : Go p e below s Q ce sl T (mkF m pc ls st) := by
  subst hp
  exact K.to fun _ r => XS.iinc X.here hx rfl hd hl hs r
theorem go_goto (X : Stand p l e R s m args below meth c T locs cells slots) (hx : p.tables.exec = Jvm.exec) {o : Int} (hd : decode c.code pc = .ok (.goto o, 3)) (ho : 0 ≤ (pc : Int) + o) (hq : ((pc : Int) + o).toNat = q) (K : Go p e below s Q ce sl T (mkF m q ls st)) : Go p e below s Q ce sl T (mkF m pc ls st) :=
  K.to fun _ r => XS.goto X.here hx rfl (pc0 := pc) rfl hd ho hq r
theorem go_icmp_lt (X : Stand p l e R s m args below meth c T locs cells slots) (hx : p.tables.exec = Jvm.exec) {x y : Int32} {o : Int} (hd : decode c.code pc = .ok (.if_icmp .lt o, 3)) (hp : pc + 3 = q) (ho : 0 ≤ (pc : Int) + o) (hq : ((pc : Int) + o).toNat = q') (KY : x < y → Go p e below s Q ce sl T (mkF m q' ls st)) (KN : ¬ x < y → Go p e below s Q ce sl T (mkF m q ls st)) : Go p e below s Q ce sl T (mkF m pc ls (.int y :: .int x :: st)) := by
  subst hp
  by_cases hc : x < y
  · exact (KY hc).to fun _ r => XS.icmpYes X.here hx rfl (pc0 := pc) rfl hd rfl (tlt hc).1 ho hq r
  · exact (KN hc).to fun _ r => XS.icmpNo X.here hx rfl hd rfl (flt hc).1 r
theorem go_if_lt (X : Stand p l e R s m args below meth c T locs cells slots) (hx : p.tables.exec = Jvm.exec) {x : Int32} {o : Int} (hd : decode c.code pc = .ok (.ifCond .lt o, 3)) (hp : pc + 3 = q) (ho : 0 ≤ (pc : Int) + o) (hq : ((pc : Int) + o).toNat = q') (KY : x < (0 : Int32) → Go p e below s Q ce sl T (mkF m q' ls st)) (KN : ¬ x < (0 : Int32) → Go p e below s Q ce sl T (mkF m q ls st)) : Go p e below s Q ce sl T (mkF m pc ls (.int x :: st)) := by
  subst hp
  by_cases hc : x < (0 : Int32)
  · exact (KY hc).to fun _ r => XS.ifYes X.here hx rfl (pc0 := pc) rfl hd rfl ((if0 _ _).trans (tlt hc).1) ho hq r
  · exact (KN hc).to fun _ r => XS.ifNo X.here hx rfl hd rfl ((if0 _ _).trans (flt hc).1) r
theorem go_lif_lt (X : Stand p l e R s m args below meth c T locs cells slots) (hx : p.tables.exec = Jvm.exec) {a b : Int64} {o : Int} (hd : decode c.code pc = .ok (.ifCond .lt o, 3)) (hp : pc + 3 = q) (ho : 0 ≤ (pc : Int) + o) (hq : ((pc : Int) + o).toNat = q') (KY : a < b → Go p e below s Q ce sl T (mkF m q' ls st)) (KN : ¬ a < b → Go p e below s Q ce sl T (mkF m q ls st)) : Go p e below s Q ce sl T (mkF m pc ls (.int (lcmpW a b) :: st)) :=
  go_if_lt X hx hd hp ho hq (fun w => KY ((lw_lt _ _).mp w)) (fun w => KN (fun z => w ((lw_lt _ _).mpr z)))
theorem go_icmp_ge (X : Stand p l e R s m args below meth c T locs cells slots) (hx : p.tables.exec = Jvm.exec) {x y : Int32} {o : Int} (hd : decode c.code pc = .ok (.if_icmp .ge o, 3)) (hp : pc + 3 = q) (ho : 0 ≤ (pc : Int) + o) (hq : ((pc : Int) + o).toNat = q') (KY : ¬ x < y → Go p e below s Q ce sl T (mkF m q' ls st)) (KN : x < y → Go p e below s Q ce sl T (mkF m q ls st)) : Go p e below s Q ce sl T (mkF m pc ls (.int y :: .int x :: st)) := by
  subst hp
  by_cases hc : x < y
  · exact (KN hc).to fun _ r => XS.icmpNo X.here hx rfl hd rfl (tlt hc).2.1 r
  · exact (KY hc).to fun _ r => XS.icmpYes X.here hx rfl (pc0 := pc) rfl hd rfl (flt hc).2.1 ho hq r
theorem go_if_ge (X : Stand p l e R s m args below meth c T locs cells slots) (hx : p.tables.exec = Jvm.exec) {x : Int32} {o : Int} (hd : decode c.code pc = .ok (.ifCond .ge o, 3)) (hp : pc + 3 = q) (ho : 0 ≤ (pc : Int) + o) (hq : ((pc : Int) + o).toNat = q') (KY : ¬ x < (0 : Int32) → Go p e below s Q ce sl T (mkF m q' ls st)) (KN : x < (0 : Int32) → Go p e below s Q ce sl T (mkF m q ls st)) : Go p e below s Q ce sl T (mkF m pc ls (.int x :: st)) := by
  subst hp
  by_cases hc : x < (0 : Int32)
  · exact (KN hc).to fun _ r => XS.ifNo X.here hx rfl hd rfl ((if0 _ _).trans (tlt hc).2.1) r
  · exact (KY hc).to fun _ r => XS.ifYes X.here hx rfl (pc0 := pc) rfl hd rfl ((if0 _ _).trans (flt hc).2.1) ho hq r
theorem go_lif_ge (X : Stand p l e R s m args below meth c T locs cells slots) (hx : p.tables.exec = Jvm.exec) {a b : Int64} {o : Int} (hd : decode c.code pc = .ok (.ifCond .ge o, 3)) (hp : pc + 3 = q) (ho : 0 ≤ (pc : Int) + o) (hq : ((pc : Int) + o).toNat = q') (KY : ¬ a < b → Go p e below s Q ce sl T (mkF m q' ls st)) (KN : a < b → Go p e below s Q ce sl T (mkF m q ls st)) : Go p e below s Q ce sl T (mkF m pc ls (.int (lcmpW a b) :: st)) :=
  go_if_ge X hx hd hp ho hq (fun w => KY (fun z => w ((lw_lt _ _).mpr z))) (fun w => KN ((lw_lt _ _).mp w))
theorem go_icmp_gt (X : Stand p l e R s m args below meth c T locs cells slots) (hx : p.tables.exec = Jvm.exec) {x y : Int32} {o : Int} (hd : decode c.code pc = .ok (.if_icmp .gt o, 3)) (hp : pc + 3 = q) (ho : 0 ≤ (pc : Int) + o) (hq : ((pc : Int) + o).toNat = q') (KY : y < x → Go p e below s Q ce sl T (mkF m q' ls st)) (KN : ¬ y < x → Go p e below s Q ce sl T (mkF m q ls st)) : Go p e below s Q ce sl T (mkF m pc ls (.int y :: .int x :: st)) := by
  subst hp
  by_cases hc : y < x
  · exact (KY hc).to fun _ r => XS.icmpYes X.here hx rfl (pc0 := pc) rfl hd rfl (tlt hc).2.2.1 ho hq r
  · exact (KN hc).to fun _ r => XS.icmpNo X.here hx rfl hd rfl (flt hc).2.2.1 r
theorem go_if_gt (X : Stand p l e R s m args below meth c T locs cells slots) (hx : p.tables.exec = Jvm.exec) {x : Int32} {o : Int} (hd : decode c.code pc = .ok (.ifCond .gt o, 3)) (hp : pc + 3 = q) (ho : 0 ≤ (pc : Int) + o) (hq : ((pc : Int) + o).toNat = q') (KY : (0 : Int32) < x → Go p e below s Q ce sl T (mkF m q' ls st)) (KN : ¬ (0 : Int32) < x → Go p e below s Q ce sl T (mkF m q ls st)) : Go p e below s Q ce sl T (mkF m pc ls (.int x :: st)) := by
  subst hp
  by_cases hc : (0 : Int32) < x
  · exact (KY hc).to fun _ r => XS.ifYes X.here hx rfl (pc0 := pc) rfl hd rfl ((if0 _ _).trans (tlt hc).2.2.1) ho hq r
  · exact (KN hc).to fun _ r => XS.ifNo X.here hx rfl hd rfl ((if0 _ _).trans (flt hc).2.2.1) r
theorem go_lif_gt (X : Stand p l e R s m args below meth c T locs cells slots) (hx : p.tables.exec = Jvm.exec) {a b : Int64} {o : Int} (hd : decode c.code pc = .ok (.ifCond .gt o, 3)) (hp : pc + 3 = q) (ho : 0 ≤ (pc : Int) + o) (hq : ((pc : Int) + o).toNat = q') (KY : b < a → Go p e below s Q ce sl T (mkF m q' ls st)) (KN : ¬ b < a → Go p e below s Q ce sl T (mkF m q ls st)) : Go p e below s Q ce sl T (mkF m pc ls (.int (lcmpW a b) :: st)) :=
  go_if_gt X hx hd hp ho hq (fun w => KY ((lw_gt _ _).mp w)) (fun w => KN (fun z => w ((lw_gt _ _).mpr z)))
theorem go_icmp_le (X : Stand p l e R s m args below meth c T locs cells slots) (hx : p.tables.exec = Jvm.exec) {x y : Int32} {o : Int} (hd : decode c.code pc = .ok (.if_icmp .le o, 3)) (hp : pc + 3 = q) (ho : 0 ≤ (pc : Int) + o) (hq : ((pc : Int) + o).toNat = q') (KY : ¬ y < x → Go p e below s Q ce sl T (mkF m q' ls st)) (KN : y < x → Go p e below s Q ce sl T (mkF m q ls st)) : Go p e below s Q ce sl T (mkF m pc ls (.int y :: .int x :: st)) := by
  subst hp
  by_cases hc : y < x
  · exact (KN hc).to fun _ r => XS.icmpNo X.here hx rfl hd rfl (tlt hc).2.2.2 r
  · exact (KY hc).to fun _ r => XS.icmpYes X.here hx rfl (pc0 := pc) rfl hd rfl (flt hc).2.2.2 ho hq r
theorem go_if_le (X : Stand p l e R s m args below meth c T locs cells slots) (hx : p.tables.exec = Jvm.exec) {x : Int32} {o : Int} (hd : decode c.code pc = .ok (.ifCond .le o, 3)) (hp : pc + 3 = q) (ho : 0 ≤ (pc : Int) + o) (hq : ((pc : Int) + o).toNat = q') (KY : ¬ (0 : Int32) < x → Go p e below s Q ce sl T (mkF m q' ls st)) (KN : (0 : Int32) < x → Go p e below s Q ce sl T (mkF m q ls st)) : Go p e below s Q ce sl T (mkF m pc ls (.int x :: st)) := by
  subst hp
  by_cases hc : (0 : Int32) < x
  · exact (KN hc).to fun _ r => XS.ifNo X.here hx rfl hd rfl ((if0 _ _).trans (tlt hc).2.2.2) r
  · exact (KY hc).to fun _ r => XS.ifYes X.here hx rfl (pc0 := pc) rfl hd rfl ((if0 _ _).trans (flt hc).2.2.2) ho hq r
theorem go_lif_le (X : Stand p l e R s m args below meth c T locs cells slots) (hx : p.tables.exec = Jvm.exec) {a b : Int64} {o : Int} (hd : decode c.code pc = .ok (.ifCond .le o, 3)) (hp : pc + 3 = q) (ho : 0 ≤ (pc : Int) + o) (hq : ((pc : Int) + o).toNat = q') (KY : ¬ b < a → Go p e below s Q ce sl T (mkF m q' ls st)) (KN : b < a → Go p e below s Q ce sl T (mkF m q ls st)) : Go p e below s Q ce sl T (mkF m pc ls (.int (lcmpW a b) :: st)) :=
  go_if_le X hx hd hp ho hq (fun w => KY (fun z => w ((lw_gt _ _).mpr z))) (fun w => KN ((lw_gt _ _).mp w))
theorem go_icmp_eq (X : Stand p l e R s m args below meth c T locs cells slots) (hx : p.tables.exec = Jvm.exec) {x y : Int32} {o : Int} (hd : decode c.code pc = .ok (.if_icmp .eq o, 3)) (hp : pc + 3 = q) (ho : 0 ≤ (pc : Int) + o) (hq : ((pc : Int) + o).toNat = q') (KY : x = y → Go p e below s Q ce sl T (mkF m q' ls st)) (KN : ¬ x = y → Go p e below s Q ce sl T (mkF m q ls st)) : Go p e below s Q ce sl T (mkF m pc ls (.int y :: .int x :: st)) := by
  subst hp
  by_cases hc : x = y
  · exact (KY hc).to fun _ r => XS.icmpYes X.here hx rfl (pc0 := pc) rfl hd rfl (teq hc).1 ho hq r
  · exact (KN hc).to fun _ r => XS.icmpNo X.here hx rfl hd rfl (feq hc).1 r
theorem go_if_eq (X : Stand p l e R s m args below meth c T locs cells slots) (hx : p.tables.exec = Jvm.exec) {x : Int32} {o : Int} (hd : decode c.code pc = .ok (.ifCond .eq o, 3)) (hp : pc + 3 = q) (ho : 0 ≤ (pc : Int) + o) (hq : ((pc : Int) + o).toNat = q') (KY : x = (0 : Int32) → Go p e below s Q ce sl T (mkF m q' ls st)) (KN : ¬ x = (0 : Int32) → Go p e below s Q ce sl T (mkF m q ls st)) : Go p e below s Q ce sl T (mkF m pc ls (.int x :: st)) := by
  subst hp
  by_cases hc : x = (0 : Int32)
  · exact (KY hc).to fun _ r => XS.ifYes X.here hx rfl (pc0 := pc) rfl hd rfl ((if0 _ _).trans (teq hc).1) ho hq r
  · exact (KN hc).to fun _ r => XS.ifNo X.here hx rfl hd rfl ((if0 _ _).trans (feq hc).1) r
theorem go_lif_eq (X : Stand p l e R s m args below meth c T locs cells slots) (hx : p.tables.exec = Jvm.exec) {a b : Int64} {o : Int} (hd : decode c.code pc = .ok (.ifCond .eq o, 3)) (hp : pc + 3 = q) (ho : 0 ≤ (pc : Int) + o) (hq : ((pc : Int) + o).toNat = q') (KY : a = b → Go p e below s Q ce sl T (mkF m q' ls st)) (KN : ¬ a = b → Go p e below s Q ce sl T (mkF m q ls st)) : Go p e below s Q ce sl T (mkF m pc ls (.int (lcmpW a b) :: st)) :=
  go_if_eq X hx hd hp ho hq (fun w => KY ((lw_eq _ _).mp w)) (fun w => KN (fun z => w ((lw_eq _ _).mpr z)))
theorem go_icmp_ne (X : Stand p l e R s m args below meth c T locs cells slots) (hx : p.tables.exec = Jvm.exec) {x y : Int32} {o : Int} (hd : decode c.code pc = .ok (.if_icmp .ne o, 3)) (hp : pc + 3 = q) (ho : 0 ≤ (pc : Int) + o) (hq : ((pc : Int) + o).toNat = q') (KY : ¬ x = y → Go p e below s Q ce sl T (mkF m q' ls st)) (KN : x = y → Go p e below s Q ce sl T (mkF m q ls st)) : Go p e below s Q ce sl T (mkF m pc ls (.int y :: .int x :: st)) := by
  subst hp
  by_cases hc : x = y
  · exact (KN hc).to fun _ r => XS.icmpNo X.here hx rfl hd rfl (teq hc).2 r
  · exact (KY hc).to fun _ r => XS.icmpYes X.here hx rfl (pc0 := pc) rfl hd rfl (feq hc).2 ho hq r
theorem go_if_ne (X : Stand p l e R s m args below meth c T locs cells slots) (hx : p.tables.exec = Jvm.exec) {x : Int32} {o : Int} (hd : decode c.code pc = .ok (.ifCond .ne o, 3)) (hp : pc + 3 = q) (ho : 0 ≤ (pc : Int) + o) (hq : ((pc : Int) + o).toNat = q') (KY : ¬ x = (0 : Int32) → Go p e below s Q ce sl T (mkF m q' ls st)) (KN : x = (0 : Int32) → Go p e below s Q ce sl T (mkF m q ls st)) : Go p e below s Q ce sl T (mkF m pc ls (.int x :: st)) := by
  subst hp
  by_cases hc : x = (0 : Int32)
  · exact (KN hc).to fun _ r => XS.ifNo X.here hx rfl hd rfl ((if0 _ _).trans (teq hc).2) r
  · exact (KY hc).to fun _ r => XS.ifYes X.here hx rfl (pc0 := pc) rfl hd rfl ((if0 _ _).trans (feq hc).2) ho hq r
theorem go_lif_ne (X : Stand p l e R s m args below meth c T locs cells slots) (hx : p.tables.exec = Jvm.exec) {a b : Int64} {o : Int} (hd : decode c.code pc = .ok (.ifCond .ne o, 3)) (hp : pc + 3 = q) (ho : 0 ≤ (pc : Int) + o) (hq : ((pc : Int) + o).toNat = q') (KY : ¬ a = b → Go p e below s Q ce sl T (mkF m q' ls st)) (KN : a = b → Go p e below s Q ce sl T (mkF m q ls st)) : Go p e below s Q ce sl T (mkF m pc ls (.int (lcmpW a b) :: st)) :=
  go_if_ne X hx hd hp ho hq (fun w => KY (fun z => w ((lw_eq _ _).mpr z))) (fun w => KN ((lw_eq _ _).mp w))
theorem go_ret (X : Stand p l e R s m args below meth c T locs cells slots) (hx : p.tables.exec = Jvm.exec) {w : Value} {t : FieldType} {i : Instr} (hret : meth.sig.returnType = some t) (hlk : meth.locks = false) (hn : narrow t w = w)
    (hi : (i = .ireturn ∧ (t = .int ∨ t = .boolean ∨ t = .byte ∨ t = .char ∨ t = .short) ∧ ∃ z, w = .int z) ∨ (i = .lreturn ∧ t = .long ∧ ∃ z, w = .long z) ∨ (i = .dreturn ∧ t = .double ∧ ∃ z, w = .double z) ∨ (i = .freturn ∧ t = .float ∧ ∃ z, w = .float z) ∨ (i = .areturn ∧ t.isReference = true ∧ w.isRef = true))
    (hd : decode c.code pc = .ok (i, 1)) (hc : cells ≤ ce) (hs : slots ≤ sl) (hQ : Q (some w) T.heap locs) : Go p e below s Q ce sl T (mkF m pc ls (w :: st)) := by
  obtain ⟨fs, hr, hrun, hended, hW, hsame⟩ := X.leave (v := some w) (fun h => by rw [hret] at h; cases h) hlk
  exact ⟨_, _, retOut X hx hret hn hi hd hr, hrun, hended, _, _, rfl, hQ, ⟨_, rfl⟩, hW, hsame.mono hc hs⟩
theorem go_retD (X : Stand p l e R s m args below meth c T locs cells slots) (hx : p.tables.exec = Jvm.exec) {v : UInt64} (hret : meth.sig.returnType = some .double) (hlk : meth.locks = false) (hd : decode c.code pc = .ok (.dreturn, 1)) (hc : cells ≤ ce) (hs : slots ≤ sl) (hQ : Q (some (.double v)) T.heap locs) : Go p e below s Q ce sl T (mkF m pc ls (.double v :: st)) :=
  go_ret X hx hret hlk rfl (Or.inr (Or.inr (Or.inl ⟨rfl, rfl, v, rfl⟩))) hd hc hs hQ
theorem go_retJ (X : Stand p l e R s m args below meth c T locs cells slots) (hx : p.tables.exec = Jvm.exec) {v : Int64} (hret : meth.sig.returnType = some .long) (hlk : meth.locks = false) (hd : decode c.code pc = .ok (.lreturn, 1)) (hc : cells ≤ ce) (hs : slots ≤ sl) (hQ : Q (some (.long v)) T.heap locs) : Go p e below s Q ce sl T (mkF m pc ls (.long v :: st)) :=
  go_ret X hx hret hlk rfl (Or.inr (Or.inl ⟨rfl, rfl, v, rfl⟩)) hd hc hs hQ
theorem go_retI (X : Stand p l e R s m args below meth c T locs cells slots) (hx : p.tables.exec = Jvm.exec) {v : Int32} (hret : meth.sig.returnType = some .int) (hlk : meth.locks = false) (hd : decode c.code pc = .ok (.ireturn, 1)) (hc : cells ≤ ce) (hs : slots ≤ sl) (hQ : Q (some (.int v)) T.heap locs) : Go p e below s Q ce sl T (mkF m pc ls (.int v :: st)) :=
  go_ret X hx hret hlk rfl (Or.inl ⟨rfl, Or.inl rfl, v, rfl⟩) hd hc hs hQ
theorem go_retA (X : Stand p l e R s m args below meth c T locs cells slots) (hx : p.tables.exec = Jvm.exec) {v : Value} {t : FieldType} (hret : meth.sig.returnType = some t) (hlk : meth.locks = false) (ht : t.isReference = true) (hv : v.isRef = true) (hn : narrow t v = v) (hd : decode c.code pc = .ok (.areturn, 1)) (hc : cells ≤ ce) (hs : slots ≤ sl) (hQ : Q (some v) T.heap locs) : Go p e below s Q ce sl T (mkF m pc ls (v :: st)) :=
  go_ret X hx hret hlk hn (Or.inr (Or.inr (Or.inr (Or.inr ⟨rfl, ht, hv⟩)))) hd hc hs hQ
theorem go_retN (X : Stand p l e R s m args below meth c T locs cells slots) (hx : p.tables.exec = Jvm.exec) {z : Int32} {t : FieldType} (ht : t = .boolean ∨ t = .byte ∨ t = .char ∨ t = .short) (hret : meth.sig.returnType = some t) (hlk : meth.locks = false) (hd : decode c.code pc = .ok (.ireturn, 1)) (hc : cells ≤ ce) (hs : slots ≤ sl) (hQ : Q (some (.int (nar t z))) T.heap locs) : Go p e below s Q ce sl T (mkF m pc ls (.int z :: st)) := by
  obtain ⟨fs, hr, hrun, hended, hW, hsame⟩ := X.leave (v := some (.int (nar t z))) (fun h => by rw [hret] at h; cases h) hlk
  exact ⟨_, _, retN X hx hret ht hd hr, hrun, hended, _, _, rfl, hQ, ⟨_, rfl⟩, hW, hsame.mono hc hs⟩
theorem go_retV (X : Stand p l e R s m args below meth c T locs cells slots) (hx : p.tables.exec = Jvm.exec) (hret : meth.sig.returnType = none) (hlk : meth.locks = false) (hd : decode c.code pc = .ok (.return_, 1)) (hc : cells ≤ ce) (hs : slots ≤ sl) (hQ : Q none T.heap locs) : Go p e below s Q ce sl T (mkF m pc ls []) := by
  obtain ⟨fs, hr, hrun, hended, hW, hsame⟩ := X.leave (v := none) (fun _ => rfl) hlk
  exact ⟨_, _, X.returnOut hx hret hd hr, hrun, hended, _, _, rfl, hQ, ⟨_, rfl⟩, hW, hsame.mono hc hs⟩
theorem go_ldcI (X : Stand p l e R s m args below meth c T locs cells slots) (hx : p.tables.exec = Jvm.exec) (hZ : Z.Warmed39 s.vm) {own : String} {index : Nat} {v : Int32} (hown : s.vm.findClass own = some m.cls) (w : (Jvm.Cond.constant own index v).before a0 Z = true) (hd : decode c.code pc = .ok (.ldc index, 2)) (hp : pc + 2 = q) (K : Go p e below s Q ce sl T (mkF m q ls (.int v :: st))) : Go p e below s Q ce sl T (mkF m pc ls st) := by
  subst hp
  exact K.to fun t r => X.ldcInt hx hown (mvT hZ w) (g := mkF m pc ls st) rfl hd t r
theorem go_ldc2J (X : Stand p l e R s m args below meth c T locs cells slots) (hx : p.tables.exec = Jvm.exec) (hZ : Z.Warmed39 s.vm) {own : String} {index : Nat} {v : Int64} (hown : s.vm.findClass own = some m.cls) (w : (Jvm.Cond.constantLong own index v).before a0 Z = true) (hd : decode c.code pc = .ok (.ldc2_w index, 3)) (hp : pc + 3 = q) (K : Go p e below s Q ce sl T (mkF m q ls (.long v :: st))) : Go p e below s Q ce sl T (mkF m pc ls st) := by
  subst hp
  exact K.to fun t r => X.ldc2Long hx hown (mvT hZ w) (g := mkF m pc ls st) rfl hd t r
theorem go_ldc2D (X : Stand p l e R s m args below meth c T locs cells slots) (hx : p.tables.exec = Jvm.exec) (hZ : Z.Warmed39 s.vm) {own : String} {index : Nat} {v : UInt64} (hown : s.vm.findClass own = some m.cls) (w : (Jvm.Cond.constantDouble own index v).before a0 Z = true) (hd : decode c.code pc = .ok (.ldc2_w index, 3)) (hp : pc + 3 = q) (K : Go p e below s Q ce sl T (mkF m q ls (.double v :: st))) : Go p e below s Q ce sl T (mkF m pc ls st) := by
  subst hp
  exact K.to fun t r => X.ldc2DoubleC hx hown (mvT hZ w) (g := mkF m pc ls st) rfl hd t r
theorem go_callS (X : Stand p l e R s m args below meth c T locs cells slots) (hx : p.tables.exec = Jvm.exec) (hZ : Z.Warmed39 s.vm) {own : String} {index : Nat} {y : MethodName} {bytes : ByteArray} {maxL : Nat} {ret : Option FieldType} {rm : Room} {W : Nat} {Qc : Option Value → Heap → List Loc → Prop} (hown : s.vm.findClass own = some m.cls) (eT : T.heap = h)
    (w1 : (Jvm.Cond.methodLink own index y).before a0 Z = true) (w2 : (Jvm.Cond.static y).before a0 Z = true) (w3 : (Jvm.Cond.initialized y.cls).before a0 Z = true) (w4 : (Jvm.Cond.code y bytes maxL ret).before a0 Z = true) (hy : y.cls ≠ "java/lang/invoke/MethodHandle" ∧ y.cls ≠ "java/lang/invoke/VarHandle")
    (argsL rest : List Value) (hM : Con l y bytes maxL ret [] rm Z argsL.toArray h Qc) (hsz : ls.size = c.maxLocals) (hst : st = argsL.reverse ++ rest) (hlen : ∀ sig, parseMethodDescriptor y.desc = some sig → argsL.length = sig.parameters.length) (hW : (rest.map fun v => v.category).sum ≤ W)
    (hf : rm.frames + 1 ≤ R.frames) (hl : W + (maxL + 11) + rm.locals ≤ R.locals) (hd : decode c.code pc = .ok (.invokestatic index, 3)) (hp : pc + 3 = q) (hc : cells + rm.cells ≤ R.cells) (hs : slots + rm.slots ≤ R.slots)
    (K : ∀ (T' : State) (L : List Loc) (v : Option Value), Stand p l e R s m args below meth c T' (locs ++ L) (cells + rm.cells) (slots + rm.slots) → Qc v T'.heap L → Go p e below s Q ce sl T' (mkF m q ls (v.toList ++ rest))) : Go p e below s Q ce sl T (mkF m pc ls st) := by
  subst hp
  obtain ⟨v, _, ⟨T', L', k', n'⟩, -, X', ⟨Lc, hQ, l1, y1, z1⟩, stp⟩ := Jvm.LawKit.callS X hx (y := y) hown (mvT hZ w1) (mvT hZ w2) (mvT hZ w3) (mvT hZ w4) hy (backOf (W := W) hM hZ w4 w3 hf hl) (g := mkF m pc ls st) rfl hsz (argsL := argsL) (rest := rest) hlen hst (by show 2 * 0 + _ ≤ _; omega) hd (fun _ _ => ⟨rfl, eT, hc, hs⟩)
  dsimp only [Pt.U, Pt.locs, Pt.cells, Pt.slots] at X' l1 y1 z1 stp hQ
  subst l1 y1 z1
  exact (K T' Lc v X' hQ).to fun t r => stp t r
theorem go_callI (X : Stand p l e R s m args below meth c T locs cells slots) (hx : p.tables.exec = Jvm.exec) (hZ : Z.Warmed39 s.vm) {own : String} {index : Nat} {y : MethodName} {bytes : ByteArray} {maxL : Nat} {rm : Room} {W : Nat} {Qc : Option Value → Heap → List Loc → Prop} (hown : s.vm.findClass own = some m.cls) (eT : T.heap = h) (hy1 : y.name = "<init>")
    (w1 : (Jvm.Cond.methodLink own index y).before a0 Z = true) (w2 : (Jvm.Cond.instanceMethod y).before a0 Z = true) (w3 : (Jvm.Cond.initialized y.cls).before a0 Z = true) (w4 : (Jvm.Cond.code y bytes maxL none).before a0 Z = true) (hy : y.cls ≠ "java/lang/invoke/MethodHandle" ∧ y.cls ≠ "java/lang/invoke/VarHandle")
    (a : Addr) (argsL rest : List Value) (hM : Con l y bytes maxL none [] rm Z (.ref a :: argsL).toArray h Qc) (hsz : ls.size = c.maxLocals) (hst : st = argsL.reverse ++ .ref a :: rest) (hlen : ∀ sig, parseMethodDescriptor y.desc = some sig → argsL.length = sig.parameters.length) (hW : (rest.map fun v => v.category).sum ≤ W)
    (hf : rm.frames + 1 ≤ R.frames) (hl : W + (maxL + 11) + rm.locals ≤ R.locals) (hd : decode c.code pc = .ok (.invokespecial index, 3)) (hp : pc + 3 = q) (hc : cells + rm.cells ≤ R.cells) (hs : slots + rm.slots ≤ R.slots)
    (K : ∀ (T' : State) (L : List Loc) (v : Option Value), Stand p l e R s m args below meth c T' (locs ++ L) (cells + rm.cells) (slots + rm.slots) → Qc v T'.heap L → Go p e below s Q ce sl T' (mkF m q ls (v.toList ++ rest))) : Go p e below s Q ce sl T (mkF m pc ls st) := by
  subst hp
  obtain ⟨v, _, ⟨T', L', k', n'⟩, -, X', ⟨Lc, hQ, l1, y1, z1⟩, stp⟩ := X.specialBack hx (y := y) hy1 hown (mvT hZ w1) (mvT hZ w2) (mvT hZ w4) hy (backOf (W := W) hM hZ w4 w3 hf hl) (g := mkF m pc ls st) rfl hsz (Steps.refl _) (a := a) (argsL := argsL) (rest := rest) hlen hst (by show 2 * 0 + _ ≤ _; omega) hd (fun _ _ => ⟨rfl, eT, hc, hs⟩)
  dsimp only [Pt.U, Pt.locs, Pt.cells, Pt.slots] at X' l1 y1 z1 stp hQ
  subst l1 y1 z1
  exact (K T' Lc v X' hQ).to fun t r => stp.trans r
theorem go_callV (X : Stand p l e R s m args below meth c T locs cells slots) (hx : p.tables.exec = Jvm.exec) (hZ : Z.Warmed39 s.vm) {own C : String} {index : Nat} {y : MethodName} {bytes : ByteArray} {maxL : Nat} {ret : Option FieldType} {rm : Room} {W : Nat} {Qc : Option Value → Heap → List Loc → Prop} {z : MethodName} (hown : s.vm.findClass own = some m.cls) (eT : T.heap = h)
    (w1 : (Jvm.Cond.methodLink own index y).before a0 Z = true) (w2 : (Jvm.Cond.declares y).before a0 Z = true) (hnf : NotFace s y) (w3 : (Jvm.Cond.selects C y z).before a0 Z = true) (w5 : (Jvm.Cond.instanceMethod z).before a0 Z = true) (w6 : (Jvm.Cond.initialized z.cls).before a0 Z = true) (w4 : (Jvm.Cond.code z bytes maxL ret).before a0 Z = true) (hy : y.cls ≠ "java/lang/invoke/MethodHandle" ∧ y.cls ≠ "java/lang/invoke/VarHandle")
    (a : Addr) (argsL rest : List Value) (E : Exa Z h a C) (hM : Con l z bytes maxL ret [] rm Z (.ref a :: argsL).toArray h Qc) (hsz : ls.size = c.maxLocals) (hst : st = argsL.reverse ++ .ref a :: rest) (hlen : ∀ sig, parseMethodDescriptor y.desc = some sig → argsL.length = sig.parameters.length) (hW : (rest.map fun v => v.category).sum ≤ W)
    (hf : rm.frames + 1 ≤ R.frames) (hl : W + (maxL + 11) + rm.locals ≤ R.locals) (hd : decode c.code pc = .ok (.invokevirtual index, 3)) (hp : pc + 3 = q) (hc : cells + rm.cells ≤ R.cells) (hs : slots + rm.slots ≤ R.slots)
    (K : ∀ (T' : State) (L : List Loc) (v : Option Value), Stand p l e R s m args below meth c T' (locs ++ L) (cells + rm.cells) (slots + rm.slots) → Qc v T'.heap L → Go p e below s Q ce sl T' (mkF m q ls (v.toList ++ rest))) : Go p e below s Q ce sl T (mkF m pc ls st) := by
  subst hp
  obtain ⟨cq, kq, qa, qb, qc⟩ := isOf hZ eT E
  obtain ⟨v, _, ⟨T', L', k', n'⟩, -, X', ⟨Lc, hQ, l1, y1, z1⟩, stp⟩ := X.virtualBack hx (y := y) (z := z) hown (mvT hZ w1) (mvT hZ w2) hnf (mvT hZ w3) (mvT hZ w5) hy (backOf (W := W) hM hZ w4 w6 hf hl) qa qc (g := mkF m pc ls st) rfl hsz (Steps.refl _) (argsL := argsL) (rest := rest) hlen hst (by show 2 * 0 + _ ≤ _; omega) hd (fun _ _ => ⟨rfl, eT, hc, hs⟩)
  dsimp only [Pt.U, Pt.locs, Pt.cells, Pt.slots] at X' l1 y1 z1 stp hQ
  subst l1 y1 z1
  exact (K T' Lc v X' hQ).to fun t r => stp.trans r
end OwnWalk

section OwnFloat
open Jvm.FP Jvm.FP.Core
/-- the datum with its exponent moved down by k -/
def sh (k : Int) : Datum → Datum
  | .fin s c q => .fin s c (q - k)
  | d => d
/-- the datum's value is i * 2^k -/
def Dy (k i : Int) (d : Datum) : Prop := Whole i (sh k d)
theorem dy_zero_iff {i : Int} {d : Datum} : Dy 0 i d ↔ Whole i d := by
  cases d <;> simp [Dy, sh]
theorem sh_sum (k : Int) (x y : Datum) : exactSum (sh k x) (sh k y) = sh k (exactSum x y) := by
  cases x <;> cases y <;> try rfl
  · rename_i a b; by_cases q : a = b <;> simp [sh, exactSum, q]
  · rename_i s c q t d r
    have e1 : min (q - k) (r - k) = min q r - k := by omega
    have e2 : q - k - (min q r - k) = q - min q r := by omega
    have e3 : r - k - (min q r - k) = r - min q r := by omega
    simp [sh, exactSum, sumUnits, inUnits, e1, e2, e3]
theorem sh_product (k l : Int) {x y : Datum} {s t : Bool} {c d : Nat} {q r : Int} (hx : x = .fin s c q) (hy : y = .fin t d r) : exactProduct (sh k x) (sh l y) = sh (k + l) (exactProduct x y) := by
  subst hx hy
  have e1 : q - k + (r - l) = q + r - (k + l) := by omega
  simp [sh, exactProduct, e1]
theorem sh_negate (k : Int) (x : Datum) : negate (sh k x) = sh k (negate x) := by cases x <;> rfl
theorem sh_order (k : Int) (x y : Datum) : order (sh k x) (sh k y) = order x y := by
  cases x <;> cases y <;> try rfl
  rename_i s c q t d r
  have e1 : min (q - k) (r - k) = min q r - k := by omega
  have e2 : q - k - (min q r - k) = q - min q r := by omega
  have e3 : r - k - (min q r - k) = r - min q r := by omega
  simp [sh, order, inUnits, e1, e2, e3]
theorem dy_fin {k i : Int} {d : Datum} (h : Dy k i d) : ∃ s c q, d = .fin s c q := by
  cases d with
  | nan => exact h.elim
  | inf s => exact h.elim
  | fin s c q => exact ⟨s, c, q, rfl⟩
theorem dy_sum {k i j : Int} {x y : Datum} (hx : Dy k i x) (hy : Dy k j y) : Dy k (i + j) (exactSum x y) := by
  unfold Dy; rw [← sh_sum]; exact whole_sum hx hy
theorem dy_negate {k i : Int} {x : Datum} (hx : Dy k i x) : Dy k (-i) (negate x) := by
  unfold Dy; rw [← sh_negate]; exact whole_negate hx
theorem dy_product {k l i j : Int} {x y : Datum} (hx : Dy k i x) (hy : Dy l j y) : Dy (k + l) (i * j) (exactProduct x y) := by
  obtain ⟨s, c, q, ex⟩ := dy_fin hx
  obtain ⟨t, d, r, ey⟩ := dy_fin hy
  unfold Dy; rw [← sh_product k l ex ey]; exact whole_product hx hy
theorem dy_order {k i j : Int} {x y : Datum} (hx : Dy k i x) (hy : Dy k j y) : order x y = some (compare i j) := by
  rw [← sh_order k]; exact order_whole hx hy
/-- c * 2^q and A * 2^k are alike: by differences, or with both exponents raised -/
theorem p2 {c A : Nat} {q k : Int} (N : Nat) (h1 : 0 ≤ q + N) (h2 : 0 ≤ k + N) : c * 2 ^ (q - k).toNat = A * 2 ^ (k - q).toNat ↔ c * 2 ^ (q + N).toNat = A * 2 ^ (k + N).toNat := by
  rcases Int.le_total q k with hqk | hqk
  · have e1 : (q - k).toNat = 0 := by omega
    have e2 : (k + N).toNat = (k - q).toNat + (q + N).toNat := by omega
    rw [e1, e2, Nat.pow_zero, Nat.mul_one, Nat.pow_add, ← Nat.mul_assoc]
    exact ⟨fun h => by rw [h], fun h => Nat.eq_of_mul_eq_mul_right (Nat.two_pow_pos _) h⟩
  · have e1 : (k - q).toNat = 0 := by omega
    have e2 : (q + N).toNat = (q - k).toNat + (k + N).toNat := by omega
    rw [e1, e2, Nat.pow_zero, Nat.mul_one, Nat.pow_add, ← Nat.mul_assoc]
    exact ⟨fun h => by rw [h], fun h => Nat.eq_of_mul_eq_mul_right (Nat.two_pow_pos _) h⟩
theorem dy_abs {k i : Int} {s : Bool} {c : Nat} {q : Int} (h : Dy k i (.fin s c q)) : c * 2 ^ (q - k).toNat = i.natAbs * 2 ^ (k - q).toNat := by
  have h' : signed s (c * 2 ^ (q - k).toNat) = i * ((2 ^ (-(q - k)).toNat : Nat) : Int) := h
  have e := congrArg Int.natAbs h'
  rw [natAbs_signed, Int.natAbs_mul, Int.natAbs_natCast, show -(q - k) = k - q by omega] at e
  exact e
theorem dy_sgn {k i : Int} {s : Bool} {c : Nat} {q : Int} (h : Dy k i (.fin s c q)) : signed s i.natAbs = i := by
  have h' : signed s (c * 2 ^ (q - k).toNat) = i * ((2 ^ (-(q - k)).toNat : Nat) : Int) := h
  rw [dy_abs h, signed_mul, show -(q - k) = k - q by omega] at h'
  exact Int.eq_of_mul_eq_mul_right (by have := Nat.two_pow_pos (k - q).toNat; omega) h'
theorem dy_mk {k i : Int} {s : Bool} {c : Nat} {q : Int} (h1 : c * 2 ^ (q - k).toNat = i.natAbs * 2 ^ (k - q).toNat) (h2 : signed s i.natAbs = i) : Dy k i (.fin s c q) := by
  show signed s (c * 2 ^ (q - k).toNat) = i * ((2 ^ (-(q - k)).toNat : Nat) : Int)
  rw [h1, signed_mul, h2, show -(q - k) = k - q by omega]
theorem dy_of_units {k i : Int} {s : Bool} {c' : Nat} {q' : Int} (hq : -1074 ≤ q') (hk : -1074 ≤ k) (e2 : inUnits c' q' (-1074) = inUnits i.natAbs k (-1074)) (h2 : signed s i.natAbs = i) : Dy k i (.fin s c' q') := by
  refine dy_mk ?_ h2
  rw [p2 1074 (by omega) (by omega)]
  unfold inUnits at e2
  rw [show q' - -1074 = q' + (1074 : Nat) by omega, show k - -1074 = k + (1074 : Nat) by omega] at e2
  exact e2
theorem dy_roundRatio {k m : Int} {S : Bool} {c d : Nat} {e : Int} (hd : 0 < d) (h : c * 2 ^ (e - k).toNat = m.natAbs * d * 2 ^ (k - e).toNat) (hm : m.natAbs < 2 ^ 53) (k1 : -1074 ≤ k) (k2 : k ≤ 971) (h2 : signed S m.natAbs = m) : Dy k m (roundRatio b64 S c d e) := by
  have hr : roundRatio b64 S c d e = round b64 (.fin S m.natAbs k) := roundRatio_congr (A := c) (B := d) (A' := m.natAbs) (B' := 1) (e := e) (e' := k) hd (by decide) (by rw [Nat.mul_one]; exact h)
  obtain ⟨c', q', e1, e2⟩ := round_exact good_b64 S (c := m.natAbs) (q := k) hm (by rw [qmin_b64]; exact k1) (by show k ≤ 971; exact k2)
  have hf : Core.fits b64 (.fin S c' q') := by rw [← e1]; exact round_fits good_b64 _
  have hq : -1074 ≤ q' := by have := hf.2.1; rw [qmin_b64] at this; exact this
  rw [hr, e1]
  rw [qmin_b64] at e2
  exact dy_of_units hq k1 e2 h2
theorem dy_round {k i : Int} {d : Datum} (h : Dy k i d) (hi : i.natAbs < 2 ^ 53) (k1 : -1074 ≤ k) (k2 : k ≤ 971) : Dy k i (round b64 d) := by
  obtain ⟨s, c, q, rfl⟩ := dy_fin h
  exact dy_roundRatio (d := 1) (by decide) (by rw [Nat.mul_one]; exact dy_abs h) hi k1 k2 (dy_sgn h)
theorem signed_xor1 (s t : Bool) (a b : Nat) : signed (s != t) (a * b) = signed s a * signed t b := signed_xor s t a b
theorem dy_quotient {k l i j m : Int} {x y : Datum} (hx : Dy k i x) (hy : Dy l j y) (hj : j ≠ 0) (hm : i = m * j) (hb : m.natAbs < 2 ^ 53) (k1 : -1074 ≤ k - l) (k2 : k - l ≤ 971) : Dy (k - l) m (quotient b64 x y) := by
  obtain ⟨s, c, q, rfl⟩ := dy_fin hx
  obtain ⟨t, d, r, rfl⟩ := dy_fin hy
  have a1 := dy_abs hx
  have a2 := dy_abs hy
  have jpos : 0 < j.natAbs := by omega
  have dpos : 0 < d := by
    rcases Nat.eq_zero_or_pos d with rfl | h
    · rw [Nat.zero_mul] at a2
      have := Nat.mul_pos jpos (Nat.two_pow_pos (l - r).toNat)
      omega
    · exact h
  have ea : i.natAbs = m.natAbs * j.natAbs := by rw [hm, Int.natAbs_mul]
  show Dy (k - l) m (if d = 0 then (if c = 0 then .nan else .inf (s != t)) else roundRatio b64 (s != t) c d (q - r))
  rw [if_neg (by omega)]
  refine dy_roundRatio dpos ?_ hb k1 k2 ?_
  · have N : Nat := 0
    obtain ⟨M, hM⟩ : ∃ M : Nat, 0 ≤ q + M ∧ 0 ≤ k + M ∧ 0 ≤ r + M ∧ 0 ≤ l + M := ⟨q.natAbs + k.natAbs + r.natAbs + l.natAbs, by omega, by omega, by omega, by omega⟩
    rw [p2 M hM.1 hM.2.1] at a1
    rw [p2 M hM.2.2.1 hM.2.2.2] at a2
    have e1 : q - r - (k - l) = (q + l) - (k + r) := by omega
    have e2 : k - l - (q - r) = (k + r) - (q + l) := by omega
    rw [e1, e2, p2 (2 * M) (by omega) (by omega)]
    have f1 : (q + l + ((2 * M : Nat) : Int)).toNat = (q + M).toNat + (l + M).toNat := by omega
    have f2 : (k + r + ((2 * M : Nat) : Int)).toNat = (k + M).toNat + (r + M).toNat := by omega
    rw [f1, f2, Nat.pow_add, Nat.pow_add]
    refine Nat.eq_of_mul_eq_mul_right jpos ?_
    calc c * (2 ^ (q + M).toNat * 2 ^ (l + M).toNat) * j.natAbs
        = (c * 2 ^ (q + M).toNat) * (j.natAbs * 2 ^ (l + M).toNat) := by ac_rfl
      _ = (i.natAbs * 2 ^ (k + M).toNat) * (d * 2 ^ (r + M).toNat) := by rw [a1, a2]
      _ = m.natAbs * d * (2 ^ (k + M).toNat * 2 ^ (r + M).toNat) * j.natAbs := by rw [ea]; ac_rfl
  · have s1 := dy_sgn hx
    have s2 := dy_sgn hy
    have s3 : signed (s != t) (i.natAbs * j.natAbs) = i * j := by rw [signed_xor, s1, s2]
    have e3 : i.natAbs * j.natAbs = m.natAbs * (j.natAbs * j.natAbs) := by rw [ea, Nat.mul_assoc]
    rw [e3, signed_mul, Int.natAbs_mul_self, hm, Int.mul_assoc] at s3
    exact Int.eq_of_mul_eq_mul_right (Int.mul_ne_zero hj hj) s3
theorem dy_scale {k i : Int} {d : Datum} (h : Dy k i d) (n : Nat) : Dy (k - n) (i * 2 ^ n) d := by
  obtain ⟨s, c, q, rfl⟩ := dy_fin h
  have a1 := dy_abs h
  have s1 := dy_sgn h
  have e0 : (i * 2 ^ n).natAbs = i.natAbs * 2 ^ n := by rw [Int.natAbs_mul, Int.natAbs_pow]; rfl
  refine dy_mk ?_ ?_
  · obtain ⟨M, h1, h2⟩ : ∃ M : Nat, 0 ≤ q + M ∧ 0 ≤ k - n + M := ⟨q.natAbs + k.natAbs + n, by omega, by omega⟩
    rw [p2 M h1 (by omega)] at a1
    rw [p2 M h1 h2, a1, e0]
    have : (k + (M : Int)).toNat = n + (k - n + M).toNat := by omega
    rw [this, Nat.pow_add, Nat.mul_assoc]
  · rw [e0, signed_mul, s1]; congr 1
/-- the double x is worth i * 2^k, and |i| is at most A -/
def DB (k : Int) (A : Nat) (i : Int) (x : UInt64) : Prop := Dy k i (val64 x) ∧ i.natAbs ≤ A
theorem DB.fin {k i : Int} {A : Nat} {x : UInt64} (h : DB k A i x) : DFin x := dy_fin h.1
theorem DB.nn {k i : Int} {A : Nat} {x : UInt64} (h : DB k A i x) : Jvm.Free.Fl.NoNaN64 x := Jvm.Free.Fl.noNaN64_no.mpr h.fin.notNaN
theorem DB.le {k i : Int} {A B : Nat} {x : UInt64} (h : DB k A i x) (hb : i.natAbs ≤ B) : DB k B i x := ⟨h.1, hb⟩
theorem DB.eqv {k i j : Int} {A : Nat} {x : UInt64} (h : DB k A i x) (e : i = j) : DB k A j x := e ▸ h
theorem db_add {k i j : Int} {A B : Nat} {x y : UInt64} (hx : DB k A i x) (hy : DB k B j y) (hA : A + B < 9007199254740992) (k1 : -1074 ≤ k) (k2 : k ≤ 971) : DB k (A + B) (i + j) (FP.dadd x y) := by
  have h1 := hx.2; have h2 := hy.2
  have hb : (i + j).natAbs ≤ A + B := by omega
  refine ⟨?_, hb⟩
  show Dy k (i + j) (val64 (Core.dadd x y))
  rw [val64_dadd]; exact dy_round (dy_sum hx.1 hy.1) (by omega) k1 k2
theorem db_sub {k i j : Int} {A B : Nat} {x y : UInt64} (hx : DB k A i x) (hy : DB k B j y) (hA : A + B < 9007199254740992) (k1 : -1074 ≤ k) (k2 : k ≤ 971) : DB k (A + B) (i - j) (FP.dsub x y) := by
  have h1 := hx.2; have h2 := hy.2
  have hb : (i - j).natAbs ≤ A + B := by omega
  refine ⟨?_, hb⟩
  show Dy k (i - j) (val64 (Core.dsub x y))
  rw [val64_dsub]; exact dy_round (by rw [Int.sub_eq_add_neg]; exact dy_sum hx.1 (dy_negate hy.1)) (by omega) k1 k2
theorem db_mul {k l i j : Int} {A B : Nat} {x y : UInt64} (hx : DB k A i x) (hy : DB l B j y) (hA : A * B < 9007199254740992) (k1 : -1074 ≤ k + l) (k2 : k + l ≤ 971) : DB (k + l) (A * B) (i * j) (FP.dmul x y) := by
  have hb : (i * j).natAbs ≤ A * B := by rw [Int.natAbs_mul]; exact Nat.mul_le_mul hx.2 hy.2
  refine ⟨?_, hb⟩
  show Dy (k + l) (i * j) (val64 (Core.dmul x y))
  rw [val64_dmul]; exact dy_round (dy_product hx.1 hy.1) (by omega) k1 k2
theorem db_div {k l i j : Int} {A B : Nat} {x y : UInt64} (m : Int) (hx : DB k A i x) (hy : DB l B j y) (hj : j ≠ 0) (hm : i = m * j) (hA : A < 9007199254740992) (k1 : -1074 ≤ k - l) (k2 : k - l ≤ 971) : DB (k - l) A m (FP.ddiv x y) := by
  have h1 : m.natAbs ≤ i.natAbs := by rw [hm, Int.natAbs_mul]; exact Nat.le_mul_of_pos_right _ (by omega)
  have h2 := hx.2
  refine ⟨?_, by omega⟩
  show Dy (k - l) m (val64 (Core.ddiv x y))
  rw [val64_ddiv]; exact dy_quotient hx.1 hy.1 hj hm (by omega) k1 k2
theorem DB.scale {k i : Int} {A : Nat} {x : UInt64} (h : DB k A i x) (n : Nat) : DB (k - n) (A * 2 ^ n) (i * 2 ^ n) x :=
  ⟨dy_scale h.1 n, by rw [Int.natAbs_mul, Int.natAbs_pow]; exact Nat.mul_le_mul_right _ h.2⟩
theorem db_i2d (v : Int32) : DB 0 2147483648 v.toInt (FP.i2d v) := ⟨dy_zero_iff.mpr (i2d_int v), by have := Int32.toInt_lt v; have := Int32.le_toInt v; omega⟩
theorem db_i2d' {v : Int32} {A : Nat} (h : v.toInt.natAbs ≤ A) : DB 0 A v.toInt (FP.i2d v) := (db_i2d v).le h
theorem db_l2d {v : Int64} {A : Nat} (h : v.toInt.natAbs ≤ A) (hA : A ≤ 9007199254740992) : DB 0 A v.toInt (FP.l2d v) := ⟨dy_zero_iff.mpr (l2d_int (by omega)), h⟩
theorem db_dcmp {k i j : Int} {A B : Nat} {x y : UInt64} (hx : DB k A i x) (hy : DB k B j y) : FP.dcmp x y = some (compare i j) := dy_order hx.1 hy.1
theorem db_cv {k i j : Int} {A B : Nat} {x y : UInt64} (hx : DB k A i x) (hy : DB k B j y) (o : CmpOp) : cmpValue (FP.dcmp x y) o = if i < j then -1 else if i = j then 0 else 1 := by
  rw [db_dcmp hx hy, compare_ite]
  by_cases h1 : i < j
  · simp [h1]; rfl
  · by_cases h2 : i = j
    · simp [h2]; rfl
    · simp [h1, h2]; rfl
theorem db_lt {k i j : Int} {A B : Nat} {x y : UInt64} (hx : DB k A i x) (hy : DB k B j y) (o : CmpOp) : cmpValue (FP.dcmp x y) o < 0 ↔ i < j := by
  rw [db_cv hx hy]
  by_cases h1 : i < j
  · simp [h1]
  · by_cases h2 : i = j
    · simp [h2]
    · simp [h1, h2]
theorem db_gt {k i j : Int} {A B : Nat} {x y : UInt64} (hx : DB k A i x) (hy : DB k B j y) (o : CmpOp) : 0 < cmpValue (FP.dcmp x y) o ↔ j < i := by
  rw [db_cv hx hy]
  by_cases h1 : i < j
  · simp [h1, show ¬ j < i by omega]
  · by_cases h2 : i = j
    · simp [h2]
    · simp [h1, h2, show j < i by omega]
theorem db_eq {k i j : Int} {A B : Nat} {x y : UInt64} (hx : DB k A i x) (hy : DB k B j y) (o : CmpOp) : cmpValue (FP.dcmp x y) o = 0 ↔ i = j := by
  rw [db_cv hx hy]
  by_cases h1 : i < j
  · simp [h1, show ¬ i = j by omega]
  · by_cases h2 : i = j
    · simp [h2]
    · simp [h1, h2]
theorem db_c0 : DB 0 0 0 0 := ⟨by rw [show val64 0 = .fin false 0 (-1074) by decide +kernel]; exact dy_mk (by simp) rfl, by decide⟩
theorem db_c1 : DB 0 1 1 4607182418800017408 := ⟨by rw [show val64 4607182418800017408 = .fin false (2 ^ 52) (-52) by decide +kernel]; exact dy_mk (by decide +kernel) rfl, by decide⟩
theorem db_c2 : DB 0 2 2 4611686018427387904 := ⟨by rw [show val64 4611686018427387904 = .fin false (2 ^ 52) (-51) by decide +kernel]; exact dy_mk (by decide +kernel) rfl, by decide⟩
end OwnFloat

section OwnFloatGo
variable {p : Program} {l : Launch} {e : Env} {R : Room} {s : State} {m : MethodId} {args : Array Value} {below : List Frame} {meth : Method} {c : Code} {T : State} {locs : List Loc} {cells slots : Nat} {Z : State} {h : Heap} {Q : Option Value → Heap → List Loc → Prop} {ce sl : Nat} {pc q q' : Nat} {ls : Array Slot} {st : List Value} {a0 : Array Value}
theorem go_i2dB (X : Stand p l e R s m args below meth c T locs cells slots) (hx : p.tables.exec = Jvm.exec) {x : Int32} {A : Nat} {i : Int} (hd : decode c.code pc = .ok (.i2d, 1)) (hp : pc + 1 = q) (hA : DB 0 A i (FP.i2d x)) (K : ∀ z, DB 0 A i z → Go p e below s Q ce sl T (mkF m q ls (.double z :: st))) : Go p e below s Q ce sl T (mkF m pc ls (.int x :: st)) :=
  go_i2d X hx hd hp rfl (K _ hA)
theorem go_l2dB (X : Stand p l e R s m args below meth c T locs cells slots) (hx : p.tables.exec = Jvm.exec) {x : Int64} {A : Nat} {i : Int} (hd : decode c.code pc = .ok (.l2d, 1)) (hp : pc + 1 = q) (hA : DB 0 A i (FP.l2d x)) (K : ∀ z, DB 0 A i z → Go p e below s Q ce sl T (mkF m q ls (.double z :: st))) : Go p e below s Q ce sl T (mkF m pc ls (.long x :: st)) :=
  go_l2d X hx hd hp rfl (K _ hA)
theorem go_f2dB (X : Stand p l e R s m args below meth c T locs cells slots) (hx : p.tables.exec = Jvm.exec) {x : UInt32} {A : Nat} {i : Int} (hd : decode c.code pc = .ok (.f2d, 1)) (hp : pc + 1 = q) (hA : DB 0 A i (FP.f2d x)) (K : ∀ z, DB 0 A i z → Go p e below s Q ce sl T (mkF m q ls (.double z :: st))) : Go p e below s Q ce sl T (mkF m pc ls (.float x :: st)) :=
  go_f2d X hx hd hp hA.nn rfl (K _ hA)
theorem go_daddB (X : Stand p l e R s m args below meth c T locs cells slots) (hx : p.tables.exec = Jvm.exec) {x y : UInt64} {k i j : Int} {A B C : Nat} (hd : decode c.code pc = .ok (.dadd, 1)) (hp : pc + 1 = q) (hA : DB k A i x) (hB : DB k B j y) (b1 : A + B < 9007199254740992) (k1 : -1074 ≤ k) (k2 : k ≤ 971) (hC : A + B = C) (K : ∀ z, DB k C (i + j) z → Go p e below s Q ce sl T (mkF m q ls (.double z :: st))) : Go p e below s Q ce sl T (mkF m pc ls (.double y :: .double x :: st)) :=
  go_dadd X hx hd hp (db_add hA hB b1 k1 k2).nn rfl (K _ (hC ▸ db_add hA hB b1 k1 k2))
theorem go_dsubB (X : Stand p l e R s m args below meth c T locs cells slots) (hx : p.tables.exec = Jvm.exec) {x y : UInt64} {k i j : Int} {A B C : Nat} (hd : decode c.code pc = .ok (.dsub, 1)) (hp : pc + 1 = q) (hA : DB k A i x) (hB : DB k B j y) (b1 : A + B < 9007199254740992) (k1 : -1074 ≤ k) (k2 : k ≤ 971) (hC : A + B = C) (K : ∀ z, DB k C (i - j) z → Go p e below s Q ce sl T (mkF m q ls (.double z :: st))) : Go p e below s Q ce sl T (mkF m pc ls (.double y :: .double x :: st)) :=
  go_dsub X hx hd hp (db_sub hA hB b1 k1 k2).nn rfl (K _ (hC ▸ db_sub hA hB b1 k1 k2))
theorem go_dmulB (X : Stand p l e R s m args below meth c T locs cells slots) (hx : p.tables.exec = Jvm.exec) {x y : UInt64} {k k' kk i j : Int} {A B C : Nat} (hd : decode c.code pc = .ok (.dmul, 1)) (hp : pc + 1 = q) (hA : DB k A i x) (hB : DB k' B j y) (b1 : A * B < 9007199254740992) (k1 : -1074 ≤ k + k') (k2 : k + k' ≤ 971) (hk : k + k' = kk) (hC : A * B = C) (K : ∀ z, DB kk C (i * j) z → Go p e below s Q ce sl T (mkF m q ls (.double z :: st))) : Go p e below s Q ce sl T (mkF m pc ls (.double y :: .double x :: st)) :=
  go_dmul X hx hd hp (db_mul hA hB b1 k1 k2).nn rfl (K _ (hC ▸ hk ▸ db_mul hA hB b1 k1 k2))
theorem go_ddivB (X : Stand p l e R s m args below meth c T locs cells slots) (hx : p.tables.exec = Jvm.exec) {x y : UInt64} {k k' kk i j w0 : Int} {A B : Nat} (hd : decode c.code pc = .ok (.ddiv, 1)) (hp : pc + 1 = q) (hA : DB k A i x) (hB : DB k' B j y) (hj : j ≠ 0) (hm : i = w0 * j) (b1 : A < 9007199254740992) (k1 : -1074 ≤ k - k') (k2 : k - k' ≤ 971) (hk : k - k' = kk) (K : ∀ z, DB kk A w0 z → Go p e below s Q ce sl T (mkF m q ls (.double z :: st))) : Go p e below s Q ce sl T (mkF m pc ls (.double y :: .double x :: st)) :=
  go_ddiv X hx hd hp (db_div w0 hA hB hj hm b1 k1 k2).nn rfl (K _ (hk ▸ db_div w0 hA hB hj hm b1 k1 k2))
theorem go_dif_lt (X : Stand p l e R s m args below meth c T locs cells slots) (hx : p.tables.exec = Jvm.exec) {x y : UInt64} {k i j : Int} {A B : Nat} {cm : CmpOp} {o : Int} (hd : decode c.code pc = .ok (.ifCond .lt o, 3)) (hp : pc + 3 = q) (ho : 0 ≤ (pc : Int) + o) (hq : ((pc : Int) + o).toNat = q') (hA : DB k A i x) (hB : DB k B j y) (KY : i < j → Go p e below s Q ce sl T (mkF m q' ls st)) (KN : ¬ i < j → Go p e below s Q ce sl T (mkF m q ls st)) : Go p e below s Q ce sl T (mkF m pc ls (.int (cmpValue (FP.dcmp x y) cm) :: st)) :=
  go_if_lt X hx hd hp ho hq (fun w => KY ((db_lt hA hB _).mp w)) (fun w => KN (fun z => w ((db_lt hA hB _).mpr z)))
theorem go_dif_ge (X : Stand p l e R s m args below meth c T locs cells slots) (hx : p.tables.exec = Jvm.exec) {x y : UInt64} {k i j : Int} {A B : Nat} {cm : CmpOp} {o : Int} (hd : decode c.code pc = .ok (.ifCond .ge o, 3)) (hp : pc + 3 = q) (ho : 0 ≤ (pc : Int) + o) (hq : ((pc : Int) + o).toNat = q') (hA : DB k A i x) (hB : DB k B j y) (KY : ¬ i < j → Go p e below s Q ce sl T (mkF m q' ls st)) (KN : i < j → Go p e below s Q ce sl T (mkF m q ls st)) : Go p e below s Q ce sl T (mkF m pc ls (.int (cmpValue (FP.dcmp x y) cm) :: st)) :=
  go_if_ge X hx hd hp ho hq (fun w => KY (fun z => w ((db_lt hA hB _).mpr z))) (fun w => KN ((db_lt hA hB _).mp w))
theorem go_dif_gt (X : Stand p l e R s m args below meth c T locs cells slots) (hx : p.tables.exec = Jvm.exec) {x y : UInt64} {k i j : Int} {A B : Nat} {cm : CmpOp} {o : Int} (hd : decode c.code pc = .ok (.ifCond .gt o, 3)) (hp : pc + 3 = q) (ho : 0 ≤ (pc : Int) + o) (hq : ((pc : Int) + o).toNat = q') (hA : DB k A i x) (hB : DB k B j y) (KY : j < i → Go p e below s Q ce sl T (mkF m q' ls st)) (KN : ¬ j < i → Go p e below s Q ce sl T (mkF m q ls st)) : Go p e below s Q ce sl T (mkF m pc ls (.int (cmpValue (FP.dcmp x y) cm) :: st)) :=
  go_if_gt X hx hd hp ho hq (fun w => KY ((db_gt hA hB _).mp w)) (fun w => KN (fun z => w ((db_gt hA hB _).mpr z)))
theorem go_dif_le (X : Stand p l e R s m args below meth c T locs cells slots) (hx : p.tables.exec = Jvm.exec) {x y : UInt64} {k i j : Int} {A B : Nat} {cm : CmpOp} {o : Int} (hd : decode c.code pc = .ok (.ifCond .le o, 3)) (hp : pc + 3 = q) (ho : 0 ≤ (pc : Int) + o) (hq : ((pc : Int) + o).toNat = q') (hA : DB k A i x) (hB : DB k B j y) (KY : ¬ j < i → Go p e below s Q ce sl T (mkF m q' ls st)) (KN : j < i → Go p e below s Q ce sl T (mkF m q ls st)) : Go p e below s Q ce sl T (mkF m pc ls (.int (cmpValue (FP.dcmp x y) cm) :: st)) :=
  go_if_le X hx hd hp ho hq (fun w => KY (fun z => w ((db_gt hA hB _).mpr z))) (fun w => KN ((db_gt hA hB _).mp w))
theorem go_dif_eq (X : Stand p l e R s m args below meth c T locs cells slots) (hx : p.tables.exec = Jvm.exec) {x y : UInt64} {k i j : Int} {A B : Nat} {cm : CmpOp} {o : Int} (hd : decode c.code pc = .ok (.ifCond .eq o, 3)) (hp : pc + 3 = q) (ho : 0 ≤ (pc : Int) + o) (hq : ((pc : Int) + o).toNat = q') (hA : DB k A i x) (hB : DB k B j y) (KY : i = j → Go p e below s Q ce sl T (mkF m q' ls st)) (KN : ¬ i = j → Go p e below s Q ce sl T (mkF m q ls st)) : Go p e below s Q ce sl T (mkF m pc ls (.int (cmpValue (FP.dcmp x y) cm) :: st)) :=
  go_if_eq X hx hd hp ho hq (fun w => KY ((db_eq hA hB _).mp w)) (fun w => KN (fun z => w ((db_eq hA hB _).mpr z)))
theorem go_dif_ne (X : Stand p l e R s m args below meth c T locs cells slots) (hx : p.tables.exec = Jvm.exec) {x y : UInt64} {k i j : Int} {A B : Nat} {cm : CmpOp} {o : Int} (hd : decode c.code pc = .ok (.ifCond .ne o, 3)) (hp : pc + 3 = q) (ho : 0 ≤ (pc : Int) + o) (hq : ((pc : Int) + o).toNat = q') (hA : DB k A i x) (hB : DB k B j y) (KY : ¬ i = j → Go p e below s Q ce sl T (mkF m q' ls st)) (KN : i = j → Go p e below s Q ce sl T (mkF m q ls st)) : Go p e below s Q ce sl T (mkF m pc ls (.int (cmpValue (FP.dcmp x y) cm) :: st)) :=
  go_if_ne X hx hd hp ho hq (fun w => KY (fun z => w ((db_eq hA hB _).mpr z))) (fun w => KN ((db_eq hA hB _).mp w))
end OwnFloatGo

theorem own_sub64 (a b : Int32) : (a.toInt64 - b.toInt64).toInt = a.toInt - b.toInt := by
  rw [Int64.toInt_sub, Int32.toInt_toInt64, Int32.toInt_toInt64]
  have := Int32.toInt_lt a; have := Int32.le_toInt a; have := Int32.toInt_lt b; have := Int32.le_toInt b
  exact Int.bmod_eq_of_le (by omega) (by omega)

theorem pd_0 : parseMethodDescriptor "(DDD)Z" = some ⟨[.double, .double, .double], some .boolean⟩ := by decide +kernel
theorem d1_0 : decode prog_6_method_3_code 0 = .ok (.dload_n 0, 1) := by decide +kernel
theorem d1_1 : decode prog_6_method_3_code 1 = .ok (.dload_n 2, 1) := by decide +kernel
theorem d1_2 : decode prog_6_method_3_code 2 = .ok (.dcmp .l, 1) := by decide +kernel
theorem d1_3 : decode prog_6_method_3_code 3 = .ok (.ifCond .lt 14, 3) := by decide +kernel
theorem d1_6 : decode prog_6_method_3_code 6 = .ok (.dload_n 0, 1) := by decide +kernel
theorem d1_7 : decode prog_6_method_3_code 7 = .ok (.dload 4, 2) := by decide +kernel
theorem d1_9 : decode prog_6_method_3_code 9 = .ok (.dcmp .g, 1) := by decide +kernel
theorem d1_10 : decode prog_6_method_3_code 10 = .ok (.ifCond .gt 7, 3) := by decide +kernel
theorem d1_13 : decode prog_6_method_3_code 13 = .ok (.iconst 1, 1) := by decide +kernel
theorem d1_14 : decode prog_6_method_3_code 14 = .ok (.goto 4, 3) := by decide +kernel
theorem d1_17 : decode prog_6_method_3_code 17 = .ok (.iconst 0, 1) := by decide +kernel
theorem d1_18 : decode prog_6_method_3_code 18 = .ok (.ireturn, 1) := by decide +kernel
theorem pn_1 : plainName "com/example/grebe/grebe/Decimal" = true := by first | (simp [plainName, overriddenIn]; done) | decide +kernel
theorem ef_1 (m : MethodId) (x0 : UInt64) (x1 : UInt64) (x2 : UInt64) : entryFrame m #[(.double x0), (.double x1), (.double x2)] 6 = mkF m 0 #[.val (.double x0), .second, .val (.double x1), .second, .val (.double x2), .second] [] := by first | (simp [entryFrame, mkF, argsToLocals, Value.category]; done) | rfl
set_option maxRecDepth 65536 in
set_option maxHeartbeats 40000000 in
theorem rm1 (l : Launch) (Z : State) (a0 : Array Value) (hw : ∀ d ∈ tables_1, d.before a0 Z = true) (ws : List Jvm.Cond) (d0 : UInt64) (d1 : UInt64) (d2 : UInt64) (i0 i1 i2 : Int) (h0 : Heap) (F0 : DB 0 2147483648 i0 d0) (F1 : DB 0 2147483648 i1 d1) (F2 : DB 0 2147483648 i2 d2) :
    Con l (⟨"com/example/grebe/grebe/Decimal", "within", "(DDD)Z"⟩ : MethodName) prog_6_method_3_code 6 (some .boolean) ws ({ frames := 0, cells := 0, slots := 0, locals := 0 } : Room) Z #[(.double d0), (.double d1), (.double d2)] h0 (fun v h L => v = some (.int (if i1 ≤ i0 ∧ i0 ≤ i2 then (1 : Int32) else 0)) ∧ L = [] ∧ h = h0) := by
  refine con_of (plainFor_of_name pn_1) ?_
  intro p e s m below meth c s₁ X0 hx hby hml hret hlk hown hnm hZ e0
  refine Go.cast (ef_1 m d0 d1 d2) ?_
  refine go_dloadN (q := 1) X0 hx (hb hby d1_0) rfl rfl ?_
  refine go_dloadN (q := 2) X0 hx (hb hby d1_1) rfl rfl ?_
  refine go_dcmp (q := 3) X0 hx (hb hby d1_2) rfl rfl ?_
  refine go_dif_lt (q := 6) (q' := 17) X0 hx (hb hby d1_3) rfl (by decide) rfl F0 F1 (fun hc3 => ?_) (fun hc3 => ?_)
  · refine go_iconst (q := 18) (v := (0 : Int32)) X0 hx (hb hby d1_17) rfl rfl ?_
    exact go_retN X0 hx (by simp) hret hlk (hb hby d1_18) (by decide) (by decide) ⟨by rw [if_neg (by omega)]; rfl, rfl, e0⟩
  · refine go_dloadN (q := 7) X0 hx (hb hby d1_6) rfl rfl ?_
    refine go_dload (q := 9) X0 hx (hb hby d1_7) rfl rfl ?_
    refine go_dcmp (q := 10) X0 hx (hb hby d1_9) rfl rfl ?_
    refine go_dif_gt (q := 13) (q' := 17) X0 hx (hb hby d1_10) rfl (by decide) rfl F0 F2 (fun hc10 => ?_) (fun hc10 => ?_)
    · refine go_iconst (q := 18) (v := (0 : Int32)) X0 hx (hb hby d1_17) rfl rfl ?_
      exact go_retN X0 hx (by simp) hret hlk (hb hby d1_18) (by decide) (by decide) ⟨by rw [if_neg (by omega)]; rfl, rfl, e0⟩
    · refine go_iconst (q := 14) (v := (1 : Int32)) X0 hx (hb hby d1_13) rfl rfl ?_
      refine go_goto (q := 18) X0 hx (hb hby d1_14) (by decide) rfl ?_
      exact go_retN X0 hx (by simp) hret hlk (hb hby d1_18) (by decide) (by decide) ⟨by rw [if_pos (by omega)]; rfl, rfl, e0⟩
theorem pn_0 : plainName "com/example/grebe/grebe/DecimalWithinPinLaw" = true := by first | (simp [plainName, overriddenIn]; done) | decide +kernel
theorem ef_0 (m : MethodId) (x0 : Int32) (x1 : Int32) (x2 : Int32) (x3 : Int32) : entryFrame m #[(.int x0), (.int x1), (.int x2), (.int x3)] maxLocals = mkF m 0 #[.val (.int x0), .val (.int x1), .val (.int x2), .val (.int x3), .unset, .unset, .unset, .unset, .unset, .unset, .unset, .unset] [] := by first | (simp [entryFrame, mkF, argsToLocals, Value.category, maxLocals]; done) | rfl
set_option maxRecDepth 65536 in
set_option maxHeartbeats 40000000 in
theorem rm0 (l : Launch) (Z : State) (a0 : Array Value) (hw : ∀ d ∈ tables_1, d.before a0 Z = true) (ws : List Jvm.Cond) (n : Int32) (l_ : Int32) (g_ : Int32) (mode : Int32)  (h0 : Heap)  :
    Con l x code maxLocals ret ws room_1 Z #[(.int n), (.int l_), (.int g_), (.int mode)] h0 (fun v h L => v = some (.int (1 : Int32)) ∧ Fr h0.size L) := by
  refine con_of (plainFor_of_name pn_0) ?_
  intro p e s m below meth c s₁ X0 hx hby hml hret hlk hown hnm hZ e0
  refine Go.cast (ef_0 m n l_ g_ mode) ?_
  refine go_iloadN (q := 1) X0 hx (hb hby at_0) rfl rfl ?_
  refine go_iconst (q := 2) (v := (3 : Int32)) X0 hx (hb hby at_1) rfl rfl ?_
  refine go_iand (q := 3) (v := (mode &&& (3 : Int32))) X0 hx (hb hby at_2) rfl rfl ?_
  refine go_istore (q := 5) (l' := #[.val (.int n), .val (.int l_), .val (.int g_), .val (.int mode), .val (.int (mode &&& (3 : Int32))), .unset, .unset, .unset, .unset, .unset, .unset, .unset]) X0 hx (hb hby at_3) rfl rfl ?_
  refine go_iload (q := 7) X0 hx (hb hby at_5) rfl rfl ?_
  refine go_iconst (q := 8) (v := (1 : Int32)) X0 hx (hb hby at_7) rfl rfl ?_
  suffices J : ∀ x_ : Int32, Go p e below s (fun v h L => v = some (.int (1 : Int32)) ∧ Fr h0.size L) room_1.cells room_1.slots s₁ (mkF m 32 #[.val (.int n), .val (.int l_), .val (.int g_), .val (.int mode), .val (.int (mode &&& (3 : Int32))), .val (.int x_), .unset, .unset, .unset, .unset, .unset, .unset] []) by
    refine go_icmp_ne (q := 11) (q' := 17) X0 hx (hb hby at_8) rfl (by decide) rfl (fun hc8 => ?_) (fun hc8 => ?_)
    · refine go_iload (q := 19) X0 hx (hb hby at_17) rfl rfl ?_
      refine go_iconst (q := 20) (v := (2 : Int32)) X0 hx (hb hby at_19) rfl rfl ?_
      refine go_icmp_ne (q := 23) (q' := 29) X0 hx (hb hby at_20) rfl (by decide) rfl (fun hc20 => ?_) (fun hc20 => ?_)
      · refine go_iloadN (q := 30) X0 hx (hb hby at_29) rfl rfl ?_
        refine go_istore (q := 32) (l' := #[.val (.int n), .val (.int l_), .val (.int g_), .val (.int mode), .val (.int (mode &&& (3 : Int32))), .val (.int n), .unset, .unset, .unset, .unset, .unset, .unset]) X0 hx (hb hby at_30) rfl rfl ?_
        exact J _
      · refine go_iloadN (q := 24) X0 hx (hb hby at_23) rfl rfl ?_
        refine go_istore (q := 26) (l' := #[.val (.int n), .val (.int l_), .val (.int g_), .val (.int mode), .val (.int (mode &&& (3 : Int32))), .val (.int g_), .unset, .unset, .unset, .unset, .unset, .unset]) X0 hx (hb hby at_24) rfl rfl ?_
        refine go_goto (q := 32) X0 hx (hb hby at_26) (by decide) rfl ?_
        exact J _
    · refine go_iloadN (q := 12) X0 hx (hb hby at_11) rfl rfl ?_
      refine go_istore (q := 14) (l' := #[.val (.int n), .val (.int l_), .val (.int g_), .val (.int mode), .val (.int (mode &&& (3 : Int32))), .val (.int l_), .unset, .unset, .unset, .unset, .unset, .unset]) X0 hx (hb hby at_12) rfl rfl ?_
      refine go_goto (q := 32) X0 hx (hb hby at_14) (by decide) rfl ?_
      exact J _
  intro x_
  refine go_iload (q := 34) X0 hx (hb hby at_32) rfl rfl ?_
  refine go_i2dB (q := 35) X0 hx (hb hby at_34) rfl (db_i2d _) (fun z1 hz1 => ?_)
  refine go_iloadN (q := 36) X0 hx (hb hby at_35) rfl rfl ?_
  refine go_i2dB (q := 37) X0 hx (hb hby at_36) rfl (db_i2d _) (fun z2 hz2 => ?_)
  refine go_iloadN (q := 38) X0 hx (hb hby at_37) rfl rfl ?_
  refine go_i2dB (q := 39) X0 hx (hb hby at_38) rfl (db_i2d _) (fun z3 hz3 => ?_)
  refine go_callS (q := 42) (W := 0) X0 hx hZ hown e0 (hw _ (List.mem_of_getElem? (i := 0) rfl)) (hw _ (List.mem_of_getElem? (i := 1) rfl)) (hw _ (List.mem_of_getElem? (i := 2) rfl)) (hw _ (List.mem_of_getElem? (i := 3) rfl)) (by decide) [(.double z1), (.double z2), (.double z3)] [] (rm1 l Z a0 hw [] z1 z2 z3 _ _ _ h0 hz1 hz2 hz3) (by rw [hml]; rfl) rfl (lenOf pd_0 rfl) (by decide) (by decide) (by decide) (hb hby at_39) rfl (by decide) (by decide) ?_
  rintro T4 L4 v4 X4 ⟨rfl, rfl, e1⟩
  show Go p e below s (fun v h L => v = some (.int (1 : Int32)) ∧ Fr h0.size L) room_1.cells room_1.slots T4 (mkF m 42 #[.val (.int n), .val (.int l_), .val (.int g_), .val (.int mode), .val (.int (mode &&& (3 : Int32))), .val (.int x_), .unset, .unset, .unset, .unset, .unset, .unset] [(.int (if l_.toInt ≤ x_.toInt ∧ x_.toInt ≤ g_.toInt then (1 : Int32) else 0))])
  suffices Hgot : ∀ got : Int32, got = (if l_.toInt ≤ x_.toInt ∧ x_.toInt ≤ g_.toInt then (1 : Int32) else 0) → Go p e below s (fun v h L => v = some (.int (1 : Int32)) ∧ Fr h0.size L) room_1.cells room_1.slots T4 (mkF m 42 #[.val (.int n), .val (.int l_), .val (.int g_), .val (.int mode), .val (.int (mode &&& (3 : Int32))), .val (.int x_), .unset, .unset, .unset, .unset, .unset, .unset] [(.int got)]) from Hgot _ rfl
  intro got egot
  refine go_istore (q := 44) (l' := #[.val (.int n), .val (.int l_), .val (.int g_), .val (.int mode), .val (.int (mode &&& (3 : Int32))), .val (.int x_), .val (.int got), .unset, .unset, .unset, .unset, .unset]) X4 hx (hb hby at_42) rfl rfl ?_
  refine go_iload (q := 46) X4 hx (hb hby at_44) rfl rfl ?_
  refine go_i2l (q := 47) (v := (x_.toInt64)) X4 hx (hb hby at_46) rfl rfl ?_
  refine go_iloadN (q := 48) X4 hx (hb hby at_47) rfl rfl ?_
  refine go_i2l (q := 49) (v := (l_.toInt64)) X4 hx (hb hby at_48) rfl rfl ?_
  refine go_lsub (q := 50) (v := ((x_.toInt64) - (l_.toInt64))) X4 hx (hb hby at_49) rfl rfl ?_
  refine go_lstore (q := 52) (l' := #[.val (.int n), .val (.int l_), .val (.int g_), .val (.int mode), .val (.int (mode &&& (3 : Int32))), .val (.int x_), .val (.int got), .val (.long ((x_.toInt64) - (l_.toInt64))), .second, .unset, .unset, .unset]) X4 hx (hb hby at_50) rfl rfl ?_
  refine go_iloadN (q := 53) X4 hx (hb hby at_52) rfl rfl ?_
  refine go_i2l (q := 54) (v := (g_.toInt64)) X4 hx (hb hby at_53) rfl rfl ?_
  refine go_iload (q := 56) X4 hx (hb hby at_54) rfl rfl ?_
  refine go_i2l (q := 57) (v := (x_.toInt64)) X4 hx (hb hby at_56) rfl rfl ?_
  refine go_lsub (q := 58) (v := ((g_.toInt64) - (x_.toInt64))) X4 hx (hb hby at_57) rfl rfl ?_
  refine go_lstore (q := 60) (l' := #[.val (.int n), .val (.int l_), .val (.int g_), .val (.int mode), .val (.int (mode &&& (3 : Int32))), .val (.int x_), .val (.int got), .val (.long ((x_.toInt64) - (l_.toInt64))), .second, .val (.long ((g_.toInt64) - (x_.toInt64))), .second, .unset]) X4 hx (hb hby at_58) rfl rfl ?_
  refine go_lload (q := 62) X4 hx (hb hby at_60) rfl rfl ?_
  refine go_lconst (q := 63) (v := (0 : Int64)) X4 hx (hb hby at_62) rfl rfl ?_
  refine go_lcmp (q := 64) X4 hx (hb hby at_63) rfl ?_
  refine go_lif_lt (q := 67) (q' := 78) X4 hx (hb hby at_64) rfl (by decide) rfl (fun hc64 => ?_) (fun hc64 => ?_)
  · rw [Int64.lt_iff_toInt_lt, own_sub64] at hc64
    have z64 : (0 : Int64).toInt = 0 := rfl
    refine go_iconst (q := 79) (v := (0 : Int32)) X4 hx (hb hby at_78) rfl rfl ?_
    refine go_istore (q := 81) (l' := #[.val (.int n), .val (.int l_), .val (.int g_), .val (.int mode), .val (.int (mode &&& (3 : Int32))), .val (.int x_), .val (.int got), .val (.long ((x_.toInt64) - (l_.toInt64))), .second, .val (.long ((g_.toInt64) - (x_.toInt64))), .second, .val (.int (0 : Int32))]) X4 hx (hb hby at_79) rfl rfl ?_
    refine go_iload (q := 83) X4 hx (hb hby at_81) rfl rfl ?_
    refine go_iload (q := 85) X4 hx (hb hby at_83) rfl rfl ?_
    refine go_icmp_ne (q := 88) (q' := 92) X4 hx (hb hby at_85) rfl (by decide) rfl (fun hc85 => ?_) (fun hc85 => ?_)
    · exact absurd (by rw [egot]; first | rw [if_pos (by omega)] | rw [if_neg (by omega)]) hc85
    · refine go_iconst (q := 89) (v := (1 : Int32)) X4 hx (hb hby at_88) rfl rfl ?_
      refine go_goto (q := 93) X4 hx (hb hby at_89) (by decide) rfl ?_
      exact go_retN X4 hx (by simp) hret hlk (hb hby at_93) (by decide) (by decide) ⟨rfl, Fr.nil _⟩
  · rw [Int64.lt_iff_toInt_lt, own_sub64] at hc64
    have z64 : (0 : Int64).toInt = 0 := rfl
    refine go_lload (q := 69) X4 hx (hb hby at_67) rfl rfl ?_
    refine go_lconst (q := 70) (v := (0 : Int64)) X4 hx (hb hby at_69) rfl rfl ?_
    refine go_lcmp (q := 71) X4 hx (hb hby at_70) rfl ?_
    refine go_lif_lt (q := 74) (q' := 78) X4 hx (hb hby at_71) rfl (by decide) rfl (fun hc71 => ?_) (fun hc71 => ?_)
    · rw [Int64.lt_iff_toInt_lt, own_sub64] at hc71
      have z64 : (0 : Int64).toInt = 0 := rfl
      refine go_iconst (q := 79) (v := (0 : Int32)) X4 hx (hb hby at_78) rfl rfl ?_
      refine go_istore (q := 81) (l' := #[.val (.int n), .val (.int l_), .val (.int g_), .val (.int mode), .val (.int (mode &&& (3 : Int32))), .val (.int x_), .val (.int got), .val (.long ((x_.toInt64) - (l_.toInt64))), .second, .val (.long ((g_.toInt64) - (x_.toInt64))), .second, .val (.int (0 : Int32))]) X4 hx (hb hby at_79) rfl rfl ?_
      refine go_iload (q := 83) X4 hx (hb hby at_81) rfl rfl ?_
      refine go_iload (q := 85) X4 hx (hb hby at_83) rfl rfl ?_
      refine go_icmp_ne (q := 88) (q' := 92) X4 hx (hb hby at_85) rfl (by decide) rfl (fun hc85 => ?_) (fun hc85 => ?_)
      · exact absurd (by rw [egot]; first | rw [if_pos (by omega)] | rw [if_neg (by omega)]) hc85
      · refine go_iconst (q := 89) (v := (1 : Int32)) X4 hx (hb hby at_88) rfl rfl ?_
        refine go_goto (q := 93) X4 hx (hb hby at_89) (by decide) rfl ?_
        exact go_retN X4 hx (by simp) hret hlk (hb hby at_93) (by decide) (by decide) ⟨rfl, Fr.nil _⟩
    · rw [Int64.lt_iff_toInt_lt, own_sub64] at hc71
      have z64 : (0 : Int64).toInt = 0 := rfl
      refine go_iconst (q := 75) (v := (1 : Int32)) X4 hx (hb hby at_74) rfl rfl ?_
      refine go_goto (q := 79) X4 hx (hb hby at_75) (by decide) rfl ?_
      refine go_istore (q := 81) (l' := #[.val (.int n), .val (.int l_), .val (.int g_), .val (.int mode), .val (.int (mode &&& (3 : Int32))), .val (.int x_), .val (.int got), .val (.long ((x_.toInt64) - (l_.toInt64))), .second, .val (.long ((g_.toInt64) - (x_.toInt64))), .second, .val (.int (1 : Int32))]) X4 hx (hb hby at_79) rfl rfl ?_
      refine go_iload (q := 83) X4 hx (hb hby at_81) rfl rfl ?_
      refine go_iload (q := 85) X4 hx (hb hby at_83) rfl rfl ?_
      refine go_icmp_ne (q := 88) (q' := 92) X4 hx (hb hby at_85) rfl (by decide) rfl (fun hc85 => ?_) (fun hc85 => ?_)
      · exact absurd (by rw [egot]; first | rw [if_pos (by omega)] | rw [if_neg (by omega)]) hc85
      · refine go_iconst (q := 89) (v := (1 : Int32)) X4 hx (hb hby at_88) rfl rfl ?_
        refine go_goto (q := 93) X4 hx (hb hby at_89) (by decide) rfl ?_
        exact go_retN X4 hx (by simp) hret hlk (hb hby at_93) (by decide) (by decide) ⟨rfl, Fr.nil _⟩
set_option maxRecDepth 65536 in
set_option maxHeartbeats 40000000 in
theorem comes_1 {Post : Tables → Env → Array Value → State → Outcome → State → Prop} (hpost : ∀ tb e args s v u, (limb_1_1.after args s (.returned v) u = true ∧ limb_1_2.after args s (.returned v) u = true ∧ True) → FrameEnd s (.returned v) u (Jvm.fieldLocs frame_1_writes args s ++ Jvm.arrayLocs frame_1_arrays args s ++ Jvm.staticLocs frame_1_statics s) 0 0 → Post tb e args s (.returned v) u) :
    ArmFor flags0 classFile x code maxLocals ret World_1 tables_1 room_1 Calls_1 rest_1 Pre_1 Post := by
  intro l hfl _ _ p e ha hc hk s m args below hf hA hF happ hP
  obtain ⟨hcalls, hrest, hpre⟩ := hP
  obtain ⟨-, -, -, hnamed, -, -, -, hat⟩ := (Spec.applies_iff hf).mp happ
  obtain ⟨hg, hn⟩ := and_e (Cond.before_iff.mp (show (Jvm.Cond.and given_1 narrow_1).before args s = true from hpre))
  obtain ⟨hcnt, hg0⟩ := and_e hg
  obtain ⟨ha0, hg1⟩ := and_e hg0
  obtain ⟨ha1, hg2⟩ := and_e hg1
  obtain ⟨ha2, hg3⟩ := and_e hg2
  have ha3 := hg3
  obtain ⟨w0, w1, w2, w3, rfl⟩ : ∃ w0 w1 w2 w3 : Value, args = #[w0, w1, w2, w3] := by
    have hs : args.size = 4 := by simpa [Cond.value, given_1] using hcnt
    obtain ⟨L⟩ := args
    match L, hs with
    | [w0, w1, w2, w3], _ => exact ⟨w0, w1, w2, w3, rfl⟩
  have hw := fun d (hd : d ∈ tables_1) => atoms_spec (ws := Jvm.Cond.code x code maxLocals ret :: tables_1) hat d (List.mem_cons_of_mem _ hd)
  obtain ⟨i0, ei0⟩ := is_v ha0
  obtain rfl : w0 = (.int i0) := Option.some.inj ei0
  obtain ⟨i1, ei1⟩ := is_v ha1
  obtain rfl : w1 = (.int i1) := Option.some.inj ei1
  obtain ⟨i2, ei2⟩ := is_v ha2
  obtain rfl : w2 = (.int i2) := Option.some.inj ei2
  obtain ⟨i3, ei3⟩ := is_v ha3
  obtain rfl : w3 = (.int i3) := Option.some.inj ei3
  obtain ⟨n, o, h1, h2, h3, _, L, rfl, ⟨rfl, N⟩, hq⟩ := rm0 l s _ hw tables_1 i0 i1 i2 i3  s.heap  p e ha hc hk s m _ below hf ((Spec.applies_iff_loose hf).mp happ).1 ⟨rfl, State.Warmed39.refl s, rfl⟩ trivial
  refine ⟨n, _, h1, h2, h3, hpost _ _ _ _ _ _ ⟨Cond.after_iff.mpr rfl, Cond.after_iff.mpr (eq_i res_at (Term.int_eval (1)) rfl), trivial⟩ ⟨hq.1, hq.2.1, (hq.2.2.sift fun y hy => Or.inr (N y hy)).mono (by decide) (by decide)⟩⟩
theorem main_1_1 : Claimed_1_1 := comes_1 fun _ _ _ _ _ _ h hF => ⟨h.1, hF⟩
theorem main_1_2 : Claimed_1_2 := comes_1 fun _ _ _ _ _ _ h hF => ⟨h.2.1, hF⟩

end Jvm.Pilot.@@N@@
namespace Jvm.Pilot.@@N@@
open Jvm Jvm.ClassFile Sem Op Lib Jvm.Free Jvm.Stand Jvm.Pilot.@@N@@.Jvm.D
/-! MADE BY PROGRAM (witnessworld.py) out of the Statement's table words and the real class files: 9 classes; the members and pool entries that the words name. The judged class is class 1, her method 1. -/
namespace start1
open Jvm.ClassFile
def u (s : String) : CpInfo := .utf8 (stringToUtf16 s)
/-- a pool by its gaps: so many unusable entries, then the entry; so many at the end -/
def gap : Nat → List CpInfo → List CpInfo
  | 0, r => r
  | n + 1, r => .unusable :: gap n r
def poolList (es : List (Nat × CpInfo)) (last : Nat) : List CpInfo := es.foldr (fun e r => gap e.1 (e.2 :: r)) (gap last [])
def pool (es : List (Nat × CpInfo)) (last : Nat) : Array CpInfo := ⟨poolList es last⟩
def fileOf (pool : Array CpInfo) (this : Nat) (attrs : Array Attribute := #[]) (ms : Array MethodInfo := #[]) (fl : Nat := 33) (sup : Nat := 0) (ifs : Array Nat := #[]) (fds : Array FieldInfo := #[]) : ClassFile where
  minorVersion := 0
  majorVersion := 65
  constantPool := pool
  accessFlags := fl
  thisClass := this
  superClass := sup
  interfaces := ifs
  fields := fds
  methods := ms
  attributes := attrs
def plain (name : String) (sup : Option ClassId) : Class where
  name := name
  kind := .ordinary
  loader := none
  accessFlags := 33
  super := sup
  interfaces := #[]
  cf := none
  fields := #[]
  methods := #[]
  instanceTypes := #[]
  staticTypes := #[]
  resolved := #[]
  callSites := []
  init := .initialized
  statics := none
  mirror := none

def pool0 : Array CpInfo := pool [(5, u "<init>"), (0, u "()V"), (1, .class_ 10), (1, u "java/lang/Object")] 113

def k0m0 : Method := { name := "<init>", desc := "()V", sig := { parameters := [], returnType := none }, accessFlags := 1, code := none }
/-- java/lang/Object -/
def k0 : Class := { plain "java/lang/Object" none with
  accessFlags := 33
  interfaces := #[]
  cf := some (fileOf pool0 8 #[] #[{ accessFlags := 1, nameIndex := 5, descriptorIndex := 6, attributes := #[] }] 33 0 #[] #[])
  fields := #[]
  methods := #[k0m0]
  instanceTypes := #[]
  staticTypes := #[]
  resolved := Array.replicate 124 none
  statics := none }

def pool1 : Array CpInfo := pool [(2, .class_ 4), (1, u "java/lang/Object"), (0, u "<init>"), (0, u "()V"), (0, .methodref 8 9), (0, .class_ 10), (0, .nameAndType 11 12), (0, u "com/example/grebe/grebe/Decimal"), (0, u "within"), (0, u "(DDD)Z"), (0, .class_ 14), (0, u "com/example/grebe/grebe/DecimalWithinPinLaw"), (2, u "law"), (0, u "(IIII)Z")] 3

def k1m0 : Method := { name := "<init>", desc := "()V", sig := { parameters := [], returnType := none }, accessFlags := 2, code := none }
def k1c1 : Code := { maxStack := 6, maxLocals := 12, code := code, exceptionTable := #[], attributes := #[] }
def k1m1 : Method := { name := "law", desc := "(IIII)Z", sig := { parameters := [.int, .int, .int, .int], returnType := some .boolean }, accessFlags := 9, code := some k1c1 }
/-- com/example/grebe/grebe/DecimalWithinPinLaw -/
def k1 : Class := { plain "com/example/grebe/grebe/DecimalWithinPinLaw" (some 0) with
  accessFlags := 49
  interfaces := #[]
  cf := some (fileOf pool1 13 #[] #[{ accessFlags := 2, nameIndex := 5, descriptorIndex := 6, attributes := #[] }, { accessFlags := 9, nameIndex := 17, descriptorIndex := 18, attributes := #[] }] 49 2 #[] #[])
  fields := #[]
  methods := #[k1m0, k1m1]
  instanceTypes := #[]
  staticTypes := #[]
  resolved := Array.replicate 22 none
  statics := none }

def pool2 : Array CpInfo := pool [(2, .class_ 4), (1, u "java/lang/Object"), (0, u "<init>"), (0, u "()V"), (1, .class_ 10), (1, u "com/example/grebe/grebe/Decimal"), (0, u "DECIMAL"), (0, u "Ljava/util/regex/Pattern;"), (26, u "within"), (0, u "(DDD)Z")] 66

def k2m0 : Method := { name := "<init>", desc := "()V", sig := { parameters := [], returnType := none }, accessFlags := 2, code := none }
def k2c1 : Code := { maxStack := 4, maxLocals := 6, code := prog_6_method_3_code, exceptionTable := #[], attributes := #[] }
def k2m1 : Method := { name := "within", desc := "(DDD)Z", sig := { parameters := [.double, .double, .double], returnType := some .boolean }, accessFlags := 8, code := some k2c1 }
/-- com/example/grebe/grebe/Decimal -/
def k2 : Class := { plain "com/example/grebe/grebe/Decimal" (some 0) with
  accessFlags := 48
  interfaces := #[]
  cf := some (fileOf pool2 8 #[] #[{ accessFlags := 2, nameIndex := 5, descriptorIndex := 6, attributes := #[] }, { accessFlags := 8, nameIndex := 39, descriptorIndex := 40, attributes := #[] }] 48 2 #[] #[{ accessFlags := 26, nameIndex := 11, descriptorIndex := 12, attributes := #[] }])
  fields := #[{ name := "DECIMAL", type := (.object "java/util/regex/Pattern"), accessFlags := 26, slot := 0, constantValue := 0 }]
  methods := #[k2m0, k2m1]
  instanceTypes := #[]
  staticTypes := #[(.object "java/util/regex/Pattern")]
  resolved := Array.replicate 107 none
  statics := none }

def pool3 : Array CpInfo := pool [(1, u "java/lang/Cloneable"), (0, .class_ 1), (0, u "java/lang/Object"), (0, .class_ 3)] 3

/-- java/lang/Cloneable -/
def k3 : Class := { plain "java/lang/Cloneable" (some 0) with
  accessFlags := 1537
  interfaces := #[]
  cf := some (fileOf pool3 2 #[] #[] 1537 4 #[] #[])
  fields := #[]
  methods := #[]
  instanceTypes := #[]
  staticTypes := #[]
  resolved := Array.replicate 8 none
  statics := none }

def pool4 : Array CpInfo := pool [(1, u "java/io/Serializable"), (0, .class_ 1), (0, u "java/lang/Object"), (0, .class_ 3)] 3

/-- java/io/Serializable -/
def k4 : Class := { plain "java/io/Serializable" (some 0) with
  accessFlags := 1537
  interfaces := #[]
  cf := some (fileOf pool4 2 #[] #[] 1537 4 #[] #[])
  fields := #[]
  methods := #[]
  instanceTypes := #[]
  staticTypes := #[]
  resolved := Array.replicate 8 none
  statics := none }

/-- the primitive byte -/
def k5 : Class := { plain "byte" none with kind := .primitive 'B', accessFlags := 0x411 }
/-- [B -/
def k6 : Class := { plain "[B" (some 0) with kind := .array 5 .byte, interfaces := #[3, 4], accessFlags := 1041 }

/-- the primitive int -/
def k7 : Class := { plain "int" none with kind := .primitive 'I', accessFlags := 0x411 }
/-- [I -/
def k8 : Class := { plain "[I" (some 0) with kind := .array 7 .int, interfaces := #[3, 4], accessFlags := 1041 }

def heap : Heap := #[]
def classes : Array Class := #[k0, k1, k2, k3, k4, k5, k6, k7, k8]
def interned : List (Array UInt16 × Addr) := []
def slotsUsed : Nat := 0
def theMethod : MethodId := ⟨1, 1⟩
def args0 : Array Value := #[.int 3, .int 1, .int 5, .int 0]
def aboutOver (below : List Frame) : State where
  vm := { classes := classes, interned := interned.toArray }
  heap := heap
  slotsUsed := slotsUsed
  threads := #[{ frames := .invoking theMethod args0 :: below }]
def below0 : List Frame := [.native { method := ⟨0, 0⟩, args := #[] }]
def about1 : State := aboutOver below0
def p0 : Program := .bare "" "" ""
def e0 : Env := launch0.env 0 0 0
theorem w_frames : about1.frames = Frame.invoking theMethod args0 :: below0 := rfl
set_option maxRecDepth 65536 in
theorem w_args : argsFit about1.vm theMethod args0 = true := by decide +kernel
set_option maxRecDepth 65536 in
theorem w_heap : heapFits about1 = true := by decide +kernel
set_option maxRecDepth 65536 in
theorem w_runnable : about1.curStatus? = some .runnable := by decide +kernel
set_option maxRecDepth 65536 in
theorem w_alone : about1.alone = true := by decide +kernel
set_option maxRecDepth 65536 in
theorem w_named : about1.methodNamed? x = some theMethod := by decide +kernel
set_option maxRecDepth 65536 in
theorem w_hears : about1.hears theMethod below0 = true := by decide +kernel
set_option maxRecDepth 65536 in
theorem w_ripe : about1.ripe theMethod args0 below0 = true := by decide +kernel
theorem w_running : about1.status = .running := rfl
set_option maxRecDepth 65536 in
theorem w_room : about1.hasRoom e0.platform room_1 = true :=
  launch0.hasRoom_least _ room_1 (by decide +kernel) (by decide +kernel) (by decide +kernel) (by decide +kernel) (by decide +kernel) (by decide +kernel)
theorem allAtoms_all (ts : List Jvm.Cond) (a : Array Jvm.Value) (st : Jvm.State) : (allAtoms ts).before a st = ts.all (fun c => c.before a st) := by
  induction ts with
  | nil => rfl
  | cons c t ih =>
    show (Jvm.Cond.and c (allAtoms t)).before a st = _
    rw [Jvm.Cond.before_and, ih, List.all_cons]
def words1 : List Jvm.Cond := Jvm.Cond.code x code maxLocals ret :: tables_1
/-- a 'code' word, met by the world's own term for the bytes: nothing is compared byte by byte -/
theorem code_word {y : MethodName} {bytes : ByteArray} {mx : Nat} {rt : Option FieldType} {a : Array Value} {s : State} {m : MethodId} {meth : Method} {c : Code} (h1 : s.methodNamed? y = some m) (h2 : s.vm.method? m = some meth) (h3 : meth.code = some c) (h4 : c.code = bytes)
    (h5 : (c.maxLocals == mx && c.exceptionTable.isEmpty && decide (c.maxStack ≤ mostOperands) && decide (meth.sig.returnType = rt) && !meth.locks && decide (parseMethodDescriptor y.desc = some meth.sig)) = true) : (Jvm.Cond.code y bytes mx rt).before a s = true := by
  simp only [Bool.and_eq_true, beq_iff_eq, Bool.not_eq_true', decide_eq_true_eq] at h5
  obtain ⟨⟨⟨⟨⟨g1, g2⟩, g3⟩, g4⟩, g5⟩, g6⟩ := h5
  simp [Cond.before, Cond.holds, Cond.value, h1, h2, h3, h4, g1, g2, g3, g4, g5, g6]
def isCode : Jvm.Cond → Bool
  | .code _ _ _ _ => true
  | _ => false
theorem all_split {L : List Jvm.Cond} {P : Jvm.Cond → Bool} (h1 : L.all (fun c => isCode c || P c) = true) (h2 : ∀ c ∈ L.filter isCode, P c = true) : L.all P = true := by
  refine List.all_eq_true.mpr fun c hc => ?_
  have h := List.all_eq_true.mp h1 c hc
  rcases Bool.eq_false_or_eq_true (isCode c) with hi | hi
  · exact h2 c (List.mem_filter.mpr ⟨hc, hi⟩)
  · simpa [hi] using h
set_option maxRecDepth 65536 in
theorem w_c0 : (Jvm.Cond.code x code maxLocals ret).before args0 about1 = true := code_word (m := ⟨1, 1⟩) (meth := k1m1) (c := k1c1) (by decide +kernel) rfl rfl rfl (by decide +kernel)
set_option maxRecDepth 65536 in
theorem w_c1 : (Jvm.Cond.code ({ cls := "com/example/grebe/grebe/Decimal", name := "within", desc := "(DDD)Z" } : Jvm.MethodName) prog_6_method_3_code (6 : Nat) (Option.some Jvm.ClassFile.FieldType.boolean)).before args0 about1 = true := code_word (m := ⟨2, 1⟩) (meth := k2m1) (c := k2c1) (by decide +kernel) rfl rfl rfl (by decide +kernel)
def codes1 : List Jvm.Cond := [Jvm.Cond.code x code maxLocals ret, Jvm.Cond.code ({ cls := "com/example/grebe/grebe/Decimal", name := "within", desc := "(DDD)Z" } : Jvm.MethodName) prog_6_method_3_code (6 : Nat) (Option.some Jvm.ClassFile.FieldType.boolean)]
set_option maxRecDepth 65536 in
theorem codes_eq : words1.filter isCode = codes1 := rfl
theorem w_codes : ∀ c ∈ words1.filter isCode, c.before args0 about1 = true := by
  rw [codes_eq]
  intro c hc
  simp only [codes1, List.mem_cons, List.not_mem_nil, or_false] at hc
  rcases hc with rfl | rfl
  · exact w_c0
  · exact w_c1
set_option maxRecDepth 65536 in
theorem w_t1 : words1.all (fun c => isCode c || c.before args0 about1) = true := by decide +kernel
theorem w_tables : (allAtoms (Jvm.Cond.code x code maxLocals ret :: tables_1)).before args0 about1 = true := by
  rw [allAtoms_all]
  show words1.all (fun c => c.before args0 about1) = true
  refine all_split ?_ w_codes
  rw [w_t1]
set_option maxRecDepth 65536 in
theorem w_case : (Jvm.Cond.and given_1 narrow_1).before args0 about1 = true := by decide +kernel
theorem w_applies : (headSpec (Jvm.Cond.code x code maxLocals ret :: tables_1) room_1).applies x e0.platform about1 = true :=
  (Spec.applies_iff w_frames).mpr ⟨w_running, w_runnable, w_alone, w_named, w_hears, w_ripe, w_room, w_tables⟩
theorem atStart : AtStart classFile x code maxLocals ret World_1 tables_1 room_1 Calls_1 rest_1 Pre_1 launch0 p0 e0 about1 theMethod args0 below0 :=
  ⟨lists_1, trivial, launch0.admits_env _ _ _, launch0.least_env, fairChoices_fair.cas, fairChoices_fair.clock, w_frames, w_args, w_heap, w_applies, trivial, trivial, w_case⟩
end start1
theorem witness_1 : WitnessClaimed_1 := ⟨start1.p0, start1.e0, start1.about1, start1.theMethod, start1.args0, start1.below0, start1.atStart⟩
end Jvm.Pilot.@@N@@
