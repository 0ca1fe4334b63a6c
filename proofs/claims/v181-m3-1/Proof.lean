import JvmDerived
import JvmDerived.Pilot.@@N@@Statement
import JvmDerived.Pilot.@@N@@Code
set_option linter.unusedVariables false
set_option linter.unusedSimpArgs false
/- laws to paste: Road.backV (cut by pick.py; bodies as the Statement names them) -/
namespace Jvm.Pilot.@@N@@
namespace StrChars
open Jvm Sem ClassFile Op Lib Jvm.Stand Jvm.Free.XT Jvm.Free.ALB Jvm.Free.JM Jvm.Free
open Jvm.Lib.Cold (StaticIs)
/-- a char array whose places are chars -/
def Ch (a : Addr) (A : Cell) (U : State) : Prop := Arr .char a A U ∧ Typed .char A
theorem Ch.mv {a : Addr} {A : Cell} {U U' : State} (h : Ch a A U) (hal : U.vm.Alike U'.vm) (hh : U'.heap = U.heap) : Ch a A U' := ⟨h.1.mv hal hh, h.2⟩
theorem Ch.keep {a : Addr} {A : Cell} {U U' : State} (h : Ch a A U) (hal : U.vm.Alike U'.vm) (hk : U'.heap[a]? = some A) : Ch a A U' := ⟨h.1.keep hal hk, h.2⟩
/-- what place i of a char[]'s cell holds -/
def cv (A : Cell) (i : Nat) : Int32 := match A.slots[i]? with | some (.int x) => x | _ => 0
theorem Ch.get {a : Addr} {A : Cell} {U : State} (h : Ch a A U) {i : Nat} (hi : i < A.slots.size) : A.slots[i]? = some (.int (cv A i)) := by
  have e := Array.getElem?_eq_getElem hi
  have f := h.2 i _ e
  unfold cv; rw [e]
  generalize A.slots[i] = v at f
  cases v <;> simp [fits] at f ⊢
/-- the byte that i2b leaves of a char -/
def lo8 (x : Int32) : Int32 := x.toInt8.toInt32
theorem fits_lo8 (y : Int32) : fits .byte (.int (lo8 y)) = true := by
  have h1 := y.toInt8.le_toInt
  have h2 := y.toInt8.toInt_lt
  simp only [lo8, fits, Bool.and_eq_true, decide_eq_true_eq, Int32.le_iff_toInt_le, Int8.toInt_toInt32, show (-128 : Int32).toInt = -128 from by decide, show (127 : Int32).toInt = 127 from by decide]
  omega
/-- A' is A but that each place j of lo .. hi - 1 holds f j -/
def Laid (A A' : Cell) (lo hi : Nat) (f : Nat → Value) : Prop := A'.cls = A.cls ∧ A'.vm = A.vm ∧ A'.slots.size = A.slots.size ∧ ∀ i, A'.slots[i]? = if lo ≤ i ∧ i < hi then some (f i) else A.slots[i]?
theorem Laid.zero (A : Cell) (lo : Nat) (f : Nat → Value) : Laid A A lo (lo + 0) f := ⟨rfl, rfl, rfl, fun i => by rw [if_neg (by omega)]⟩
theorem Laid.step {A Ak : Cell} {lo k : Nat} {f : Nat → Value} {v : Value} (h : Laid A Ak lo k f) (hlo : lo ≤ k) (hk : k < Ak.slots.size) (hv : v = f k) : Laid A (Ak.setSlot k v) lo (k + 1) f := by
  refine ⟨h.1, h.2.1, by simpa [Cell.setSlot] using h.2.2.1, fun i => ?_⟩
  by_cases e : k = i
  · subst e; rw [Cell.slots_setSlot_self v hk, if_pos (by omega), hv]
  · rw [Cell.slots_setSlot_ne v e, h.2.2.2 i]
    by_cases q : lo ≤ i ∧ i < k
    · rw [if_pos q, if_pos (by omega)]
    · rw [if_neg q, if_neg (by omega)]
def U16 : String := "java/lang/StringUTF16"
namespace Cmp5
def yN : MethodName := ⟨"java/lang/StringUTF16", "compress", "([CI[BII)I"⟩
abbrev yB : ByteArray := jdk_52_method_21_code
theorem d0 : decode yB 0 = .ok (.iconst 0, 1) := by decide +kernel
theorem d1 : decode yB 1 = .ok (.istore 5, 2) := by decide +kernel
theorem d3 : decode yB 3 = .ok (.iload 5, 2) := by decide +kernel
theorem d5 : decode yB 5 = .ok (.iload 4, 2) := by decide +kernel
theorem d7 : decode yB 7 = .ok (.if_icmp (.ge) 37, 3) := by decide +kernel
theorem d10 : decode yB 10 = .ok (.aload_n 0, 1) := by decide +kernel
theorem d11 : decode yB 11 = .ok (.iload_n 1, 1) := by decide +kernel
theorem d12 : decode yB 12 = .ok (.caload, 1) := by decide +kernel
theorem d13 : decode yB 13 = .ok (.istore 6, 2) := by decide +kernel
theorem d15 : decode yB 15 = .ok (.iload 6, 2) := by decide +kernel
theorem d17 : decode yB 17 = .ok (.sipush 255, 3) := by decide +kernel
theorem d20 : decode yB 20 = .ok (.if_icmp (.le) 6, 3) := by decide +kernel
theorem d26 : decode yB 26 = .ok (.aload_n 2, 1) := by decide +kernel
theorem d27 : decode yB 27 = .ok (.iload_n 3, 1) := by decide +kernel
theorem d28 : decode yB 28 = .ok (.iload 6, 2) := by decide +kernel
theorem d30 : decode yB 30 = .ok (.i2b, 1) := by decide +kernel
theorem d31 : decode yB 31 = .ok (.bastore, 1) := by decide +kernel
theorem d32 : decode yB 32 = .ok (.iinc 1 1, 3) := by decide +kernel
theorem d35 : decode yB 35 = .ok (.iinc 3 1, 3) := by decide +kernel
theorem d38 : decode yB 38 = .ok (.iinc 5 1, 3) := by decide +kernel
theorem d41 : decode yB 41 = .ok (.goto (-38), 3) := by decide +kernel
theorem d44 : decode yB 44 = .ok (.iload 4, 2) := by decide +kernel
theorem d46 : decode yB 46 = .ok (.ireturn, 1) := by decide +kernel
def site : List Cond := []
def tab : Cond := tabOf yN yB 7 (some .int) site
def P (b : Addr) (A : Cell) (d : Addr) (B : Cell) (o q len : Nat) (args : Array Value) (s : State) : Prop := args = #[.ref b, .int (Int32.ofNat o), .ref d, .int (Int32.ofNat q), .int (Int32.ofNat len)] ∧ Ch b A s ∧ Arr .byte d B s ∧ b ≠ d ∧ o + len ≤ A.slots.size ∧ q + len ≤ B.slots.size ∧ ∀ i, i < len → ¬ 255 < cv A (o + i)
def E (b : Addr) (A : Cell) (d : Addr) (B : Cell) (o q len : Nat) (r : Option Value) (s u : State) : Prop := r = some (.int (Int32.ofNat len)) ∧ ∃ B', Put d B' s u ∧ Laid B B' q (q + len) (fun j => Value.int (lo8 (cv A (o + (j - q)))))
/-- no char of the range above 255: len; the places written hold each char's low byte -/
theorem law (l : Launch) (b : Addr) (A : Cell) (d : Addr) (B : Cell) (o q len : Nat) : Law l yN 5 5 0 0 yB 7 (some .int) site (P b A d B o q len) (E b A d B o q len) (copyLocs d q len) 0 0 := by
  refine Law.of_walk (plainFor_of_name (by decide +kernel)) (by decide +kernel) (by decide +kernel) (by decide) (fun _ _ h => by rw [h.1]; rfl) (fun _ U U' hal hh h => ⟨h.1, h.2.1.mv hal hh, h.2.2.1.mv hal hh, h.2.2.2⟩) (fun r U U' V V' h1 hal h2 h => ⟨h.1, h.2.elim fun B' q => ⟨B', q.1.mv h1 h2, q.2⟩⟩) ?_
  intro p e s m args below meth c s₁ X0 hexec hbytes hml hret hlk hnm hown hh0 W hP
  obtain ⟨rfl, hA, hB, hne, l1, l2, hp⟩ := hP
  have c1 : Steps p.tables e below (s₁.setTop (entryFrame m #[.ref b, .int (Int32.ofNat o), .ref d, .int (Int32.ofNat q), .int (Int32.ofNat len)] 7)) (s₁.setTop (mkF m 0 #[.val (.ref b), .val (.int (Int32.ofNat o)), .val (.ref d), .val (.int (Int32.ofNat q)), .val (.int (Int32.ofNat len)), .unset, .unset] [])) := entry rfl
  have hA0 := hA.1.mv X0.warmed.alike hh0
  have hB0 := hB.mv X0.warmed.alike hh0
  have a31 := hA.1.2.2.2
  have c2 : Steps p.tables e below (s₁.setTop (entryFrame m #[.ref b, .int (Int32.ofNat o), .ref d, .int (Int32.ofNat q), .int (Int32.ofNat len)] 7)) (s₁.setTop (mkF m 3 #[.val (.ref b), .val (.int (Int32.ofNat o)), .val (.ref d), .val (.int (Int32.ofNat q)), .val (.int (Int32.ofNat len)), .val (.int 0), .unset] [])) := c1.trans (by
    refine iconstV X0.here hexec rfl 0 (hb hbytes d0) (by decide) ?_
    refine XS.istore X0.here hexec rfl (hb hbytes d1) rfl rfl ?_
    exact Steps.refl _)
  have loop : ∀ (r i : Nat), i + r = len → ∀ (z : Slot), (z = .unset ∨ ∃ w, z = .val w ∧ w.category = 1) → ∀ (Tl : State) (Bk : Cell), Stand p l e { frames := 0, locals := 0, cells := 0, slots := 0 } s m #[.ref b, .int (Int32.ofNat o), .ref d, .int (Int32.ofNat q), .int (Int32.ofNat len)] below meth c Tl ([] ++ copyLocs d q i) 0 0 → Put d Bk s₁ Tl → Laid B Bk q (q + i) (fun j => Value.int (lo8 (cv A (o + (j - q))))) →
      Steps p.tables e below (s₁.setTop (entryFrame m #[.ref b, .int (Int32.ofNat o), .ref d, .int (Int32.ofNat q), .int (Int32.ofNat len)] 7)) (Tl.setTop (mkF m 3 #[.val (.ref b), .val (.int (Int32.ofNat (o + i))), .val (.ref d), .val (.int (Int32.ofNat (q + i))), .val (.int (Int32.ofNat len)), .val (.int (Int32.ofNat i)), z] [])) → ∃ (T' : State) (B' : Cell) (z' : Slot), Stand p l e { frames := 0, locals := 0, cells := 0, slots := 0 } s m #[.ref b, .int (Int32.ofNat o), .ref d, .int (Int32.ofNat q), .int (Int32.ofNat len)] below meth c T' ([] ++ copyLocs d q len) 0 0 ∧ Put d B' s₁ T' ∧ Laid B B' q (q + len) (fun j => Value.int (lo8 (cv A (o + (j - q))))) ∧
      Steps p.tables e below (s₁.setTop (entryFrame m #[.ref b, .int (Int32.ofNat o), .ref d, .int (Int32.ofNat q), .int (Int32.ofNat len)] 7)) (T'.setTop (mkF m 3 #[.val (.ref b), .val (.int (Int32.ofNat (o + len))), .val (.ref d), .val (.int (Int32.ofNat (q + len))), .val (.int (Int32.ofNat len)), .val (.int (Int32.ofNat len)), z'] [])) := by
    intro r
    induction r with
    | zero =>
      intro i hi z hz Tl Bk Xl pl fl cl
      have hil : i = len := by omega
      rw [hil] at Xl fl cl
      exact ⟨Tl, Bk, z, Xl, pl, fl, cl⟩
    | succ r ih =>
      intro i hi z hz Tl Bk Xl pl fl cl
      have all := X0.warmed.alike.symm.trans Xl.warmed.alike
      have hAl := hA0.keep all (pl.other hne hA0.1)
      have hBk := hB0.like all pl.1 fl.1 fl.2.1 fl.2.2.1
      have hlt : q + i < Bk.slots.size := by rw [fl.2.2.1]; omega
      have c3 : Steps p.tables e below (s₁.setTop (entryFrame m #[.ref b, .int (Int32.ofNat o), .ref d, .int (Int32.ofNat q), .int (Int32.ofNat len)] 7)) (Tl.setTop (mkF m 12 #[.val (.ref b), .val (.int (Int32.ofNat (o + i))), .val (.ref d), .val (.int (Int32.ofNat (q + i))), .val (.int (Int32.ofNat len)), .val (.int (Int32.ofNat i)), z] [.int (Int32.ofNat (o + i)), .ref b])) := cl.trans (by
        refine XS.iload Xl.here hexec rfl (hb hbytes d3) rfl ?_
        refine XS.iload Xl.here hexec rfl (hb hbytes d5) rfl ?_
        refine XS.icmpNo Xl.here hexec rfl (hb hbytes d7) rfl (ii_ge_f (lt32 (by omega) (by omega))) ?_
        refine XS.aloadN Xl.here hexec rfl (hb hbytes d10) rfl rfl ?_
        refine XS.iloadN Xl.here hexec rfl (hb hbytes d11) rfl ?_
        exact Steps.refl _)
      have c4 : Steps p.tables e below (s₁.setTop (entryFrame m #[.ref b, .int (Int32.ofNat o), .ref d, .int (Int32.ofNat q), .int (Int32.ofNat len)] 7)) (Tl.setTop (mkF m 13 #[.val (.ref b), .val (.int (Int32.ofNat (o + i))), .val (.ref d), .val (.int (Int32.ofNat (q + i))), .val (.int (Int32.ofNat len)), .val (.int (Int32.ofNat i)), z] [.int (cv A (o + i))])) := c3.trans (by
        refine Xl.aget hexec hAl rfl (hA.get (i := o + i) (by omega)) rfl rfl (hb hbytes d12) ?_
        exact Steps.refl _)
      have c5 : Steps p.tables e below (s₁.setTop (entryFrame m #[.ref b, .int (Int32.ofNat o), .ref d, .int (Int32.ofNat q), .int (Int32.ofNat len)] 7)) (Tl.setTop (mkF m 15 #[.val (.ref b), .val (.int (Int32.ofNat (o + i))), .val (.ref d), .val (.int (Int32.ofNat (q + i))), .val (.int (Int32.ofNat len)), .val (.int (Int32.ofNat i)), .val (.int (cv A (o + i)))] [])) := c4.trans (by
        refine XS.istoreS Xl.here hexec rfl (hb hbytes d13) rfl rfl hz ?_
        exact Steps.refl _)
      have c6 : Steps p.tables e below (s₁.setTop (entryFrame m #[.ref b, .int (Int32.ofNat o), .ref d, .int (Int32.ofNat q), .int (Int32.ofNat len)] 7)) (Tl.setTop (mkF m 31 #[.val (.ref b), .val (.int (Int32.ofNat (o + i))), .val (.ref d), .val (.int (Int32.ofNat (q + i))), .val (.int (Int32.ofNat len)), .val (.int (Int32.ofNat i)), .val (.int (cv A (o + i)))] [.int (lo8 (cv A (o + i))), .int (Int32.ofNat (q + i)), .ref d])) := c5.trans (by
        refine XS.iload Xl.here hexec rfl (hb hbytes d15) rfl ?_
        refine sipushV Xl.here hexec rfl 255 (hb hbytes d17) (by decide) ?_
        refine XS.icmpYes Xl.here hexec rfl (pc0 := 20) rfl (hb hbytes d20) rfl (ii_le_t (hp i (by omega))) (by decide) rfl ?_
        refine XS.aloadN Xl.here hexec rfl (hb hbytes d26) rfl rfl ?_
        refine XS.iloadN Xl.here hexec rfl (hb hbytes d27) rfl ?_
        refine XS.iload Xl.here hexec rfl (hb hbytes d28) rfl ?_
        refine i2b Xl.here hexec rfl (hb hbytes d30) rfl ?_
        exact Steps.refl _)
      obtain ⟨T7, X7, p7, st7⟩ := Xl.aput hexec hBk rfl hlt rfl (fits_lo8 (cv A (o + i))) (g := (mkF m 31 #[.val (.ref b), .val (.int (Int32.ofNat (o + i))), .val (.ref d), .val (.int (Int32.ofNat (q + i))), .val (.int (Int32.ofNat len)), .val (.int (Int32.ofNat i)), .val (.int (cv A (o + i)))] [.int (lo8 (cv A (o + i))), .int (Int32.ofNat (q + i)), .ref d])) rfl (rest := []) rfl (hb hbytes d31)
      have c8 : Steps p.tables e below (s₁.setTop (entryFrame m #[.ref b, .int (Int32.ofNat o), .ref d, .int (Int32.ofNat q), .int (Int32.ofNat len)] 7)) (T7.setTop (mkF m 32 #[.val (.ref b), .val (.int (Int32.ofNat (o + i))), .val (.ref d), .val (.int (Int32.ofNat (q + i))), .val (.int (Int32.ofNat len)), .val (.int (Int32.ofNat i)), .val (.int (cv A (o + i)))] [])) := c6.trans (st7 _ (Steps.refl _))
      have c9 : Steps p.tables e below (s₁.setTop (entryFrame m #[.ref b, .int (Int32.ofNat o), .ref d, .int (Int32.ofNat q), .int (Int32.ofNat len)] 7)) (T7.setTop (mkF m 3 #[.val (.ref b), .val (.int (Int32.ofNat (o + i) + 1)), .val (.ref d), .val (.int (Int32.ofNat (q + i) + 1)), .val (.int (Int32.ofNat len)), .val (.int (Int32.ofNat i + 1)), .val (.int (cv A (o + i)))] [])) := c8.trans (by
        refine iincV X7.here hexec rfl 1 (hb hbytes d32) (by decide) rfl rfl ?_
        refine iincV X7.here hexec rfl 1 (hb hbytes d35) (by decide) rfl rfl ?_
        refine iincV X7.here hexec rfl 1 (hb hbytes d38) (by decide) rfl rfl ?_
        refine XS.goto X7.here hexec rfl (pc0 := 41) rfl (hb hbytes d41) (by decide) rfl ?_
        exact Steps.refl _)
      have c10 : Steps p.tables e below (s₁.setTop (entryFrame m #[.ref b, .int (Int32.ofNat o), .ref d, .int (Int32.ofNat q), .int (Int32.ofNat len)] 7)) (T7.setTop (mkF m 3 #[.val (.ref b), .val (.int (Int32.ofNat (o + (i + 1)))), .val (.ref d), .val (.int (Int32.ofNat (q + (i + 1)))), .val (.int (Int32.ofNat len)), .val (.int (Int32.ofNat (i + 1))), .val (.int (cv A (o + i)))] [])) := by
        have := c9
        rw [succ32, succ32, succ32] at this
        exact this
      exact ih (i + 1) (by omega) _ (Or.inr ⟨_, rfl, rfl⟩) T7 _ (by rw [copyLocs_step, ← List.append_assoc]; exact X7) (pl.trans p7) (fl.step (by omega) hlt (by simp)) c10
  obtain ⟨T9, B9, z9, X9, p9, f9, g9⟩ := loop len 0 (by omega) .unset (Or.inl rfl) s₁ B (by simpa [copyLocs] using X0) ⟨hB0.1, fun _ _ => rfl, rfl⟩ (Laid.zero _ _ _) c2
  have c11 : Steps p.tables e below (s₁.setTop (entryFrame m #[.ref b, .int (Int32.ofNat o), .ref d, .int (Int32.ofNat q), .int (Int32.ofNat len)] 7)) (T9.setTop (mkF m 46 #[.val (.ref b), .val (.int (Int32.ofNat (o + len))), .val (.ref d), .val (.int (Int32.ofNat (q + len))), .val (.int (Int32.ofNat len)), .val (.int (Int32.ofNat len)), z9] [.int (Int32.ofNat len)])) := g9.trans (by
    refine XS.iload X9.here hexec rfl (hb hbytes d3) rfl ?_
    refine XS.iload X9.here hexec rfl (hb hbytes d5) rfl ?_
    refine XS.icmpYes X9.here hexec rfl (pc0 := 7) rfl (hb hbytes d7) rfl (ii_ge_t (nlt32 (by omega) (Nat.le_refl _))) (by decide) rfl ?_
    refine XS.iload X9.here hexec rfl (hb hbytes d44) rfl ?_
    exact Steps.refl _)
  exact ⟨T9, some (.int (Int32.ofNat len)), _, _, _, X9, by simp, rfl, rfl, (fun h => by cases h), ⟨rfl, B9, p9.from hh0, f9⟩, fun fs hl => c11.trans (X9.ireturnOut hexec hret rfl (Or.inl rfl) (hb hbytes d46) hl)⟩
end Cmp5
namespace Cmp3
def yN : MethodName := ⟨"java/lang/StringUTF16", "compress", "([CII)[B"⟩
abbrev yB : ByteArray := jdk_52_method_16_code
theorem d0 : decode yB 0 = .ok (.iload_n 2, 1) := by decide +kernel
theorem d1 : decode yB 1 = .ok (.newarray .byte, 2) := by decide +kernel
theorem d3 : decode yB 3 = .ok (.astore_n 3, 1) := by decide +kernel
theorem d4 : decode yB 4 = .ok (.aload_n 0, 1) := by decide +kernel
theorem d5 : decode yB 5 = .ok (.iload_n 1, 1) := by decide +kernel
theorem d6 : decode yB 6 = .ok (.aload_n 3, 1) := by decide +kernel
theorem d7 : decode yB 7 = .ok (.iconst 0, 1) := by decide +kernel
theorem d8 : decode yB 8 = .ok (.iload_n 2, 1) := by decide +kernel
theorem d9 : decode yB 9 = .ok (.invokestatic 115, 3) := by decide +kernel
theorem d12 : decode yB 12 = .ok (.istore 4, 2) := by decide +kernel
theorem d14 : decode yB 14 = .ok (.iload 4, 2) := by decide +kernel
theorem d16 : decode yB 16 = .ok (.iload_n 2, 1) := by decide +kernel
theorem d17 : decode yB 17 = .ok (.if_icmp (.eq) 40, 3) := by decide +kernel
theorem d57 : decode yB 57 = .ok (.aload_n 3, 1) := by decide +kernel
theorem d58 : decode yB 58 = .ok (.areturn, 1) := by decide +kernel
def site : List Cond := [.arrayClass .byte, Cmp5.tab] ++ staticW U16 115 Cmp5.yN
def tab : Cond := tabOf yN yB 6 (some (.array .byte)) site
def P (b : Addr) (A : Cell) (o len : Nat) (args : Array Value) (s : State) : Prop := args = #[.ref b, .int (Int32.ofNat o), .int (Int32.ofNat len)] ∧ Ch b A s ∧ o + len ≤ A.slots.size ∧ len ≤ 536870912 ∧ ∀ i, i < len → ¬ 255 < cv A (o + i)
def E (b : Addr) (A : Cell) (o len : Nat) (r : Option Value) (s u : State) : Prop := NewArr .byte "[B" len (fun j => .int (lo8 (cv A (o + j)))) r s u ∧ u.heap.size = s.heap.size + 1
/-- no char of the range above 255: a new byte[] of their low bytes -/
theorem law (l : Launch) (b : Addr) (A : Cell) (o len : Nat) : Law l yN 3 3 1 18 yB 6 (some (.array .byte)) site (P b A o len) (E b A o len) [] 1 len := by
  refine Law.of_walk (plainFor_of_name (by decide +kernel)) (by decide +kernel) (by decide +kernel) (by decide) (fun _ _ h => by rw [h.1]; rfl) (fun _ U U' hal hh h => ⟨h.1, h.2.1.mv hal hh, h.2.2⟩) (fun r U U' V V' h1 hal h2 h => ⟨NewArr.mv r U U' V V' h1 hal h2 h.1, by rw [h1, h2]; exact h.2⟩) ?_
  intro p e s m args below meth c s₁ X0 hexec hbytes hml hret hlk hnm hown hh0 W hP
  obtain ⟨rfl, hA, l1, l2, hp⟩ := hP
  have a31 := hA.1.2.2.2
  have c1 : Steps p.tables e below (s₁.setTop (entryFrame m #[.ref b, .int (Int32.ofNat o), .int (Int32.ofNat len)] 6)) (s₁.setTop (mkF m 0 #[.val (.ref b), .val (.int (Int32.ofNat o)), .val (.int (Int32.ofNat len)), .unset, .unset, .unset] [])) := entry rfl
  have c2 : Steps p.tables e below (s₁.setTop (entryFrame m #[.ref b, .int (Int32.ofNat o), .int (Int32.ofNat len)] 6)) (s₁.setTop (mkF m 1 #[.val (.ref b), .val (.int (Int32.ofNat o)), .val (.int (Int32.ofNat len)), .unset, .unset, .unset] [.int (Int32.ofNat len)])) := c1.trans (by
    refine XS.iloadN X0.here hexec rfl (hb hbytes d0) rfl ?_
    exact Steps.refl _)
  obtain ⟨T3, B3, X3, ba3, bs3, bv3, bh3, bf3, st3⟩ := X0.anew hexec (atype := .byte) (wk W (.arrayClass .byte)) rfl (by show len * 1 ≤ _; omega) (by omega) (g := (mkF m 1 #[.val (.ref b), .val (.int (Int32.ofNat o)), .val (.int (Int32.ofNat len)), .unset, .unset, .unset] [.int (Int32.ofNat len)])) rfl (hb hbytes d1) (rest := []) rfl (Nat.le_refl _) (by show 0 + len ≤ len; omega)
  rw [hh0] at ba3 st3
  have kp3 : XT.Kept s T3 := (XT.Kept.of_eq hh0).push bh3
  have hA3 := hA.keep X3.warmed.alike (kp3 _ _ hA.1.1)
  have hne : b ≠ s.heap.size := hA.1.ne
  have c4 : Steps p.tables e below (s₁.setTop (entryFrame m #[.ref b, .int (Int32.ofNat o), .int (Int32.ofNat len)] 6)) (T3.setTop (mkF m 3 #[.val (.ref b), .val (.int (Int32.ofNat o)), .val (.int (Int32.ofNat len)), .unset, .unset, .unset] [.ref s.heap.size])) := c2.trans (st3 _ (Steps.refl _))
  have c5 : Steps p.tables e below (s₁.setTop (entryFrame m #[.ref b, .int (Int32.ofNat o), .int (Int32.ofNat len)] 6)) (T3.setTop (mkF m 9 #[.val (.ref b), .val (.int (Int32.ofNat o)), .val (.int (Int32.ofNat len)), .val (.ref s.heap.size), .unset, .unset] [.int (Int32.ofNat len), .int 0, .ref s.heap.size, .int (Int32.ofNat o), .ref b])) := c4.trans (by
    refine XS.astoreN X3.here hexec rfl (hb hbytes d3) rfl rfl rfl ?_
    refine XS.aloadN X3.here hexec rfl (hb hbytes d4) rfl rfl ?_
    refine XS.iloadN X3.here hexec rfl (hb hbytes d5) rfl ?_
    refine XS.aloadN X3.here hexec rfl (hb hbytes d6) rfl rfl ?_
    refine iconstV X3.here hexec rfl 0 (hb hbytes d7) (by decide) ?_
    refine XS.iloadN X3.here hexec rfl (hb hbytes d8) rfl ?_
    exact Steps.refl _)
  obtain ⟨v6, T6, X6, E6, g6⟩ := X3.callS hexec (Cmp5.law l b A s.heap.size B3 o 0 len) hown (wks W (staticW U16 115 Cmp5.yN)) (wk W Cmp5.tab) (W := 0) (Nat.le_of_ble_eq_true rfl) (Nat.le_of_ble_eq_true rfl) (Nat.le_refl _) (by show 0 + len + 0 ≤ len; omega) (g := (mkF m 9 #[.val (.ref b), .val (.int (Int32.ofNat o)), .val (.int (Int32.ofNat len)), .val (.ref s.heap.size), .unset, .unset] [.int (Int32.ofNat len), .int (Int32.ofNat 0), .ref s.heap.size, .int (Int32.ofNat o), .ref b])) rfl (by rw [hml]; rfl) c5 (argsL := [.ref b, .int (Int32.ofNat o), .ref s.heap.size, .int (Int32.ofNat 0), .int (Int32.ofNat len)]) (rest := []) rfl rfl (by show 2 * 0 + 0 ≤ _; decide) (hb hbytes d9) (⟨rfl, hA3, ba3, hne, l1, by rw [bs3]; simp, hp⟩)
  obtain ⟨rfl, B6, p6, f6⟩ := E6
  have c7 : Steps p.tables e below (s₁.setTop (entryFrame m #[.ref b, .int (Int32.ofNat o), .int (Int32.ofNat len)] 6)) (T6.setTop (mkF m 12 #[.val (.ref b), .val (.int (Int32.ofNat o)), .val (.int (Int32.ofNat len)), .val (.ref s.heap.size), .unset, .unset] [.int (Int32.ofNat len)])) := g6
  have c8 : Steps p.tables e below (s₁.setTop (entryFrame m #[.ref b, .int (Int32.ofNat o), .int (Int32.ofNat len)] 6)) (T6.setTop (mkF m 58 #[.val (.ref b), .val (.int (Int32.ofNat o)), .val (.int (Int32.ofNat len)), .val (.ref s.heap.size), .val (.int (Int32.ofNat len)), .unset] [.ref s.heap.size])) := c7.trans (by
    refine XS.istore X6.here hexec rfl (hb hbytes d12) rfl rfl ?_
    refine XS.iload X6.here hexec rfl (hb hbytes d14) rfl ?_
    refine XS.iloadN X6.here hexec rfl (hb hbytes d16) rfl ?_
    refine XS.icmpYes X6.here hexec rfl (pc0 := 17) rfl (hb hbytes d17) rfl (ii_eq_t rfl) (by decide) rfl ?_
    refine XS.aloadN X6.here hexec rfl (hb hbytes d57) rfl rfl ?_
    exact Steps.refl _)
  have X8 := X6.wide (L' := []) (cells' := 1) (slots' := len) (fun x hx hlt => by
    simp only [List.nil_append, copyLocs, List.mem_map, List.mem_range] at hx
    obtain ⟨i, -, rfl⟩ := hx
    exact absurd hlt (Nat.lt_irrefl _)) (Nat.le_refl _) (by omega)
  exact ⟨T6, some (.ref s.heap.size), _, _, _, X8, rfl, rfl, rfl, (fun h => by cases h), ⟨⟨rfl, B6, ba3.like (X3.warmed.alike.symm.trans X6.warmed.alike) p6.1 f6.1 f6.2.1 f6.2.2.1, f6.2.1.trans bv3, by rw [X6.warmed.alike.findClass, f6.1]; exact bf3, by rw [f6.2.2.1, bs3]; simp, fun j hj => by rw [f6.2.2.2 j, if_pos (by omega)]; rfl, kp3.put p6 (Nat.le_refl _)⟩, by rw [p6.2.2, bh3, hh0]; simp⟩, fun fs hl => c8.trans (X8.areturnOut hexec rfl hret rfl (hb hbytes d58) hl)⟩
end Cmp3
namespace CodL
def yN : MethodName := ⟨"java/lang/StringUTF16", "coderFromArrayLen", "([BI)B"⟩
abbrev yB : ByteArray := jdk_52_method_15_code
theorem d0 : decode yB 0 = .ok (.iload_n 1, 1) := by decide +kernel
theorem d1 : decode yB 1 = .ok (.aload_n 0, 1) := by decide +kernel
theorem d2 : decode yB 2 = .ok (.arraylength, 1) := by decide +kernel
theorem d3 : decode yB 3 = .ok (.isub, 1) := by decide +kernel
theorem d4 : decode yB 4 = .ok (.bipush 31, 2) := by decide +kernel
theorem d6 : decode yB 6 = .ok (.iushr, 1) := by decide +kernel
theorem d7 : decode yB 7 = .ok (.i2b, 1) := by decide +kernel
theorem d8 : decode yB 8 = .ok (.ireturn, 1) := by decide +kernel
def site : List Cond := []
def tab : Cond := tabOf yN yB 2 (some .byte) site
def P (d : Addr) (B : Cell) (args : Array Value) (s : State) : Prop := args = #[.ref d, .int (Int32.ofNat B.slots.size)] ∧ Arr .byte d B s
def E (r : Option Value) (s u : State) : Prop := XT.PureE (some (.int 0)) r s u
/-- an array as long as the number of chars: LATIN1 -/
theorem law (l : Launch) (d : Addr) (B : Cell) : Law l yN 2 2 0 0 yB 2 (some .byte) site (P d B) E [] 0 0 := by
  refine Law.of_walk (plainFor_of_name (by decide +kernel)) (by decide +kernel) (by decide +kernel) (by decide) (fun _ _ h => by rw [h.1]; rfl) (fun _ U U' hal hh h => ⟨h.1, h.2.mv hal hh⟩) (fun r U U' V V' h1 hal h2 h => XT.PureE.mv r U U' V V' h1 hal h2 h) ?_
  intro p e s m args below meth c s₁ X0 hexec hbytes hml hret hlk hnm hown hh0 W hP
  obtain ⟨rfl, hB⟩ := hP
  have hB0 := hB.mv X0.warmed.alike hh0
  have c1 : Steps p.tables e below (s₁.setTop (entryFrame m #[.ref d, .int (Int32.ofNat B.slots.size)] 2)) (s₁.setTop (mkF m 0 #[.val (.ref d), .val (.int (Int32.ofNat B.slots.size))] [])) := entry rfl
  have c2 : Steps p.tables e below (s₁.setTop (entryFrame m #[.ref d, .int (Int32.ofNat B.slots.size)] 2)) (s₁.setTop (mkF m 2 #[.val (.ref d), .val (.int (Int32.ofNat B.slots.size))] [.ref d, .int (Int32.ofNat B.slots.size)])) := c1.trans (by
    refine XS.iloadN X0.here hexec rfl (hb hbytes d0) rfl ?_
    refine XS.aloadN X0.here hexec rfl (hb hbytes d1) rfl rfl ?_
    exact Steps.refl _)
  have c3 : Steps p.tables e below (s₁.setTop (entryFrame m #[.ref d, .int (Int32.ofNat B.slots.size)] 2)) (s₁.setTop (mkF m 8 #[.val (.ref d), .val (.int (Int32.ofNat B.slots.size))] [.int (lo8 (ushr (Int32.ofNat B.slots.size - Int32.ofNat B.slots.size) 31))])) := c2.trans (by
    refine X0.alen hexec hB0 rfl rfl (hb hbytes d2) ?_
    refine XS.isub X0.here hexec rfl (hb hbytes d3) rfl ?_
    refine bipushV X0.here hexec rfl 31 (hb hbytes d4) (by decide) ?_
    refine iushr X0.here hexec rfl (hb hbytes d6) rfl ?_
    refine i2b X0.here hexec rfl (hb hbytes d7) rfl ?_
    exact Steps.refl _)
  have e0 : lo8 (ushr (Int32.ofNat B.slots.size - Int32.ofNat B.slots.size) 31) = 0 := by rw [Int32.sub_self]; decide
  rw [e0] at c3
  exact ⟨s₁, some (.int 0), _, _, _, X0, rfl, rfl, rfl, (fun h => by cases h), ⟨rfl, hh0⟩, fun fs hl => c3.trans (X0.ireturnOut hexec hret rfl (Or.inr (Or.inr (Or.inl rfl))) (hb hbytes d8) hl)⟩
end CodL
/-- the String at a is Latin-1 over a new byte[] (the heap's one new cell): the low bytes of the len chars of A from o on; every cell but a is kept -/
def Got (a : Addr) (D : Cell) (fV fC : Field) (A : Cell) (o len : Nat) (r : Option Value) (s u : State) : Prop := r = none ∧ ∃ D' V : Cell, Blank "java/lang/String" a D' u ∧ Same D D' [fV.slot, fC.slot] ∧ D'.slots[fV.slot]? = some (.ref s.heap.size) ∧ D'.slots[fC.slot]? = some (.int 0) ∧ Arr .byte s.heap.size V u ∧ V.vm = .none ∧ u.vm.findClass "[B" = some V.cls ∧ V.slots.size = len ∧ (∀ j, j < len → V.slots[j]? = some (.int (lo8 (cv A (o + j))))) ∧ (∀ (y : Addr) (c : Cell), y ≠ a → s.heap[y]? = some c → u.heap[y]? = some c) ∧ u.heap.size = s.heap.size + 1
theorem Got.mv {a : Addr} {D A : Cell} {fV fC : Field} {o len : Nat} : ∀ r (U U' V V' : State), U'.heap = U.heap → V.vm.Alike V'.vm → V'.heap = V.heap → Got a D fV fC A o len r U V → Got a D fV fC A o len r U' V' :=
  fun r U U' V V' h1 hal h2 ⟨e0, D', X, a1, a2, a3, a4, a5, a6, a7, a8, a9, a10, a11⟩ => ⟨e0, D', X, a1.mv hal h2, a2, by rw [h1]; exact a3, a4, by rw [h1]; exact a5.mv hal h2, a6, by rw [hal.findClass]; exact a7, a8, a9, by rw [h1, h2]; exact a10, by rw [h1, h2]; exact a11⟩
namespace New4
def yN : MethodName := ⟨"java/lang/String", "<init>", "([CIILjava/lang/Void;)V"⟩
abbrev yB : ByteArray := jdk_42_method_149_code
theorem d0 : decode yB 0 = .ok (.aload_n 0, 1) := by decide +kernel
theorem d1 : decode yB 1 = .ok (.invokespecial 1, 3) := by decide +kernel
theorem d4 : decode yB 4 = .ok (.iload_n 3, 1) := by decide +kernel
theorem d5 : decode yB 5 = .ok (.ifCond (.ne) 22, 3) := by decide +kernel
theorem d27 : decode yB 27 = .ok (.getstatic 38, 3) := by decide +kernel
theorem d30 : decode yB 30 = .ok (.ifCond (.eq) 28, 3) := by decide +kernel
theorem d33 : decode yB 33 = .ok (.aload_n 1, 1) := by decide +kernel
theorem d34 : decode yB 34 = .ok (.iload_n 2, 1) := by decide +kernel
theorem d35 : decode yB 35 = .ok (.iload_n 3, 1) := by decide +kernel
theorem d36 : decode yB 36 = .ok (.invokestatic 177, 3) := by decide +kernel
theorem d39 : decode yB 39 = .ok (.astore 5, 2) := by decide +kernel
theorem d41 : decode yB 41 = .ok (.aload_n 0, 1) := by decide +kernel
theorem d42 : decode yB 42 = .ok (.aload 5, 2) := by decide +kernel
theorem d44 : decode yB 44 = .ok (.iload_n 3, 1) := by decide +kernel
theorem d45 : decode yB 45 = .ok (.invokestatic 47, 3) := by decide +kernel
theorem d48 : decode yB 48 = .ok (.putfield 15, 3) := by decide +kernel
theorem d51 : decode yB 51 = .ok (.aload_n 0, 1) := by decide +kernel
theorem d52 : decode yB 52 = .ok (.aload 5, 2) := by decide +kernel
theorem d54 : decode yB 54 = .ok (.putfield 9, 3) := by decide +kernel
theorem d57 : decode yB 57 = .ok (.return_, 1) := by decide +kernel
def site : List Cond := [.fieldLink "java/lang/String" 38 "java/lang/String" "COMPACT_STRINGS" "Z", Cmp3.tab, CodL.tab, .laysFinal "java/lang/String" "java/lang/String" "value" "[B", .fieldLink "java/lang/String" 9 "java/lang/String" "value" "[B", .laysFinal "java/lang/String" "java/lang/String" "coder" "B", .fieldLink "java/lang/String" 15 "java/lang/String" "coder" "B"] ++ objW "java/lang/String" 1 ++ staticW "java/lang/String" 177 Cmp3.yN ++ staticW "java/lang/String" 47 CodL.yN
def tab : Cond := tabOf yN yB 6 none site
def P (a : Addr) (D : Cell) (fV fC : Field) (b : Addr) (A : Cell) (z : Int32) (o len : Nat) (args : Array Value) (s : State) : Prop := args = #[.ref a, .ref b, .int (Int32.ofNat o), .int (Int32.ofNat len), .null] ∧ Blank "java/lang/String" a D s ∧ Found "java/lang/String" "value" "[B" fV s ∧ Found "java/lang/String" "coder" "B" fC s ∧ Ch b A s ∧ StaticIs s "java/lang/String" "COMPACT_STRINGS" "Z" (.int z) ∧ ¬ z = 0 ∧ 0 < len ∧ o + len ≤ A.slots.size ∧ len ≤ 536870912 ∧ ∀ i, i < len → ¬ 255 < cv A (o + i)
def E (a : Addr) (D : Cell) (fV fC : Field) (A : Cell) (o len : Nat) (r : Option Value) (s u : State) : Prop := Got a D fV fC A o len r s u
/-- len > 0, no char of the range above 255: a Latin-1 String of their low bytes -/
theorem law (l : Launch) (a : Addr) (D : Cell) (fV fC : Field) (b : Addr) (A : Cell) (z : Int32) (o len : Nat) : Law l yN 5 4 2 35 yB 6 none site (P a D fV fC b A z o len) (E a D fV fC A o len) [⟨a, fC.slot⟩, ⟨a, fV.slot⟩] 1 len := by
  refine Law.of_walk (plainFor_of_name (by decide +kernel)) (by decide +kernel) (by decide +kernel) (by decide) (fun _ _ h => by rw [h.1]; rfl) (fun _ U U' hal hh h => ⟨h.1, h.2.1.mv hal hh, h.2.2.1.al hal, h.2.2.2.1.al hal, h.2.2.2.2.1.mv hal hh, h.2.2.2.2.2.1.there hal hh, h.2.2.2.2.2.2⟩) (fun r U U' V V' h1 hal h2 h => Got.mv r U U' V V' h1 hal h2 h) ?_
  intro p e s m args below meth c s₁ X0 hexec hbytes hml hret hlk hnm hown hh0 W hP
  obtain ⟨rfl, hB, f1, f2, hA, s1, hz, l0, l1, l2, hp⟩ := hP
  have a31 := hA.1.2.2.2
  have c1 : Steps p.tables e below (s₁.setTop (entryFrame m #[.ref a, .ref b, .int (Int32.ofNat o), .int (Int32.ofNat len), .null] 6)) (s₁.setTop (mkF m 0 #[.val (.ref a), .val (.ref b), .val (.int (Int32.ofNat o)), .val (.int (Int32.ofNat len)), .val .null, .unset] [])) := entry rfl
  have c2 : Steps p.tables e below (s₁.setTop (entryFrame m #[.ref a, .ref b, .int (Int32.ofNat o), .int (Int32.ofNat len), .null] 6)) (s₁.setTop (mkF m 1 #[.val (.ref a), .val (.ref b), .val (.int (Int32.ofNat o)), .val (.int (Int32.ofNat len)), .val .null, .unset] [.ref a])) := c1.trans (by
    refine XS.aloadN X0.here hexec rfl (hb hbytes d0) rfl rfl ?_
    exact Steps.refl _)
  obtain ⟨T3, X3, q3, st3⟩ := X0.oinit hexec hown (wks W (objW "java/lang/String" 1)) (g := (mkF m 1 #[.val (.ref a), .val (.ref b), .val (.int (Int32.ofNat o)), .val (.int (Int32.ofNat len)), .val .null, .unset] [.ref a])) rfl (by rw [hml]; rfl) (rest := []) rfl (hb hbytes d1) (W := 0) (by show 2 * 0 + 0 ≤ _; decide) (Nat.le_of_ble_eq_true rfl) (Nat.le_of_ble_eq_true rfl)
  have hh3 := q3.trans hh0
  have c4 : Steps p.tables e below (s₁.setTop (entryFrame m #[.ref a, .ref b, .int (Int32.ofNat o), .int (Int32.ofNat len), .null] 6)) (T3.setTop (mkF m 27 #[.val (.ref a), .val (.ref b), .val (.int (Int32.ofNat o)), .val (.int (Int32.ofNat len)), .val .null, .unset] [])) := (c2.trans (st3 _ (Steps.refl _))).trans (by
    refine XS.iloadN X3.here hexec rfl (hb hbytes d4) rfl ?_
    refine XS.ifYes X3.here hexec rfl (pc0 := 5) rfl (hb hbytes d5) rfl (i0_ne_t (nz32 (by omega) l0)) (by decide) rfl ?_
    exact Steps.refl _)
  obtain ⟨T5, X5, q5, st5⟩ := X3.sget hexec hown (wk W (.fieldLink "java/lang/String" 38 "java/lang/String" "COMPACT_STRINGS" "Z")) s1 (fun _ _ h => by rw [hh3]; exact h) (g := (mkF m 27 #[.val (.ref a), .val (.ref b), .val (.int (Int32.ofNat o)), .val (.int (Int32.ofNat len)), .val .null, .unset] [])) rfl (hb hbytes d27)
  have hh5 := q5.trans hh3
  have c6 : Steps p.tables e below (s₁.setTop (entryFrame m #[.ref a, .ref b, .int (Int32.ofNat o), .int (Int32.ofNat len), .null] 6)) (T5.setTop (mkF m 30 #[.val (.ref a), .val (.ref b), .val (.int (Int32.ofNat o)), .val (.int (Int32.ofNat len)), .val .null, .unset] [.int z])) := c4.trans (st5 _ (Steps.refl _))
  have c7 : Steps p.tables e below (s₁.setTop (entryFrame m #[.ref a, .ref b, .int (Int32.ofNat o), .int (Int32.ofNat len), .null] 6)) (T5.setTop (mkF m 36 #[.val (.ref a), .val (.ref b), .val (.int (Int32.ofNat o)), .val (.int (Int32.ofNat len)), .val .null, .unset] [.int (Int32.ofNat len), .int (Int32.ofNat o), .ref b])) := c6.trans (by
    refine XS.ifNo X5.here hexec rfl (hb hbytes d30) rfl (i0_eq_f hz) ?_
    refine XS.aloadN X5.here hexec rfl (hb hbytes d33) rfl rfl ?_
    refine XS.iloadN X5.here hexec rfl (hb hbytes d34) rfl ?_
    refine XS.iloadN X5.here hexec rfl (hb hbytes d35) rfl ?_
    exact Steps.refl _)
  obtain ⟨v8, T8, X8, E8, g8⟩ := X5.callS hexec (Cmp3.law l b A o len) hown (wks W (staticW "java/lang/String" 177 Cmp3.yN)) (wk W Cmp3.tab) (W := 0) (Nat.le_of_ble_eq_true rfl) (Nat.le_of_ble_eq_true rfl) (Nat.le_refl _) (by show 0 + len ≤ len; omega) (g := (mkF m 36 #[.val (.ref a), .val (.ref b), .val (.int (Int32.ofNat o)), .val (.int (Int32.ofNat len)), .val .null, .unset] [.int (Int32.ofNat len), .int (Int32.ofNat o), .ref b])) rfl (by rw [hml]; rfl) c7 (argsL := [.ref b, .int (Int32.ofNat o), .int (Int32.ofNat len)]) (rest := []) rfl rfl (by show 2 * 0 + 0 ≤ _; decide) (hb hbytes d36) (⟨rfl, hA.mv X5.warmed.alike hh5, l1, l2, hp⟩)
  obtain ⟨e8, z8⟩ := E8
  obtain ⟨rfl, N, n1, n2, n3, n4, n5, n6⟩ := NewArr.mv _ T5 s _ _ hh5.symm (Vm.Alike.refl _) rfl e8
  rw [hh5] at z8
  have hB1 := hB.keep X8.warmed.alike (n6 _ _ hB.1)
  have hne : s.heap.size ≠ a := (Nat.ne_of_lt (Array.getElem?_eq_some_iff.mp hB.1).1).symm
  have c9 : Steps p.tables e below (s₁.setTop (entryFrame m #[.ref a, .ref b, .int (Int32.ofNat o), .int (Int32.ofNat len), .null] 6)) (T8.setTop (mkF m 39 #[.val (.ref a), .val (.ref b), .val (.int (Int32.ofNat o)), .val (.int (Int32.ofNat len)), .val .null, .unset] [.ref s.heap.size])) := g8
  have c10 : Steps p.tables e below (s₁.setTop (entryFrame m #[.ref a, .ref b, .int (Int32.ofNat o), .int (Int32.ofNat len), .null] 6)) (T8.setTop (mkF m 45 #[.val (.ref a), .val (.ref b), .val (.int (Int32.ofNat o)), .val (.int (Int32.ofNat len)), .val .null, .val (.ref s.heap.size)] [.int (Int32.ofNat N.slots.size), .ref s.heap.size, .ref a])) := by
    have hc : Steps p.tables e below (s₁.setTop (entryFrame m #[.ref a, .ref b, .int (Int32.ofNat o), .int (Int32.ofNat len), .null] 6)) (T8.setTop (mkF m 45 #[.val (.ref a), .val (.ref b), .val (.int (Int32.ofNat o)), .val (.int (Int32.ofNat len)), .val .null, .val (.ref s.heap.size)] [.int (Int32.ofNat len), .ref s.heap.size, .ref a])) := c9.trans (by
      refine XS.astore X8.here hexec rfl (hb hbytes d39) rfl rfl rfl ?_
      refine XS.aloadN X8.here hexec rfl (hb hbytes d41) rfl rfl ?_
      refine XS.aload X8.here hexec rfl (hb hbytes d42) rfl rfl ?_
      refine XS.iloadN X8.here hexec rfl (hb hbytes d44) rfl ?_
      exact Steps.refl _)
    rw [n4]; exact hc
  obtain ⟨v11, T11, X11, E11, g11⟩ := X8.callS hexec (CodL.law l s.heap.size N) hown (wks W (staticW "java/lang/String" 47 CodL.yN)) (wk W CodL.tab) (W := 1) (Nat.le_of_ble_eq_true rfl) (Nat.le_of_ble_eq_true rfl) (Nat.le_refl _) (by show 0 + len + 0 ≤ len; omega) (g := (mkF m 45 #[.val (.ref a), .val (.ref b), .val (.int (Int32.ofNat o)), .val (.int (Int32.ofNat len)), .val .null, .val (.ref s.heap.size)] [.int (Int32.ofNat N.slots.size), .ref s.heap.size, .ref a])) rfl (by rw [hml]; rfl) c10 (argsL := [.ref s.heap.size, .int (Int32.ofNat N.slots.size)]) (rest := [.ref a]) rfl rfl (by show 2 * 0 + (1 + 0) ≤ _; decide) (hb hbytes d45) (⟨rfl, n1⟩)
  obtain ⟨rfl, q11⟩ := E11
  have hB11 := hB1.mv (X8.warmed.alike.symm.trans X11.warmed.alike) q11
  have c12 : Steps p.tables e below (s₁.setTop (entryFrame m #[.ref a, .ref b, .int (Int32.ofNat o), .int (Int32.ofNat len), .null] 6)) (T11.setTop (mkF m 48 #[.val (.ref a), .val (.ref b), .val (.int (Int32.ofNat o)), .val (.int (Int32.ofNat len)), .val .null, .val (.ref s.heap.size)] [.int 0, .ref a])) := g11
  obtain ⟨T13, X13, p13, bl13, sl13, st13⟩ := X11.finit hexec hown (wk W (.fieldLink "java/lang/String" 15 "java/lang/String" "coder" "B")) (Or.inr ⟨_, (wk W (.laysFinal "java/lang/String" "java/lang/String" "coder" "B"))⟩) (Or.inl ⟨rfl, hnm⟩) f2 (Or.inl rfl) hB11 (t := .byte) (by decide +kernel) rfl (g := (mkF m 48 #[.val (.ref a), .val (.ref b), .val (.int (Int32.ofNat o)), .val (.int (Int32.ofNat len)), .val .null, .val (.ref s.heap.size)] [.int 0, .ref a])) rfl (rest := []) rfl (hb hbytes d48)
  have c14 : Steps p.tables e below (s₁.setTop (entryFrame m #[.ref a, .ref b, .int (Int32.ofNat o), .int (Int32.ofNat len), .null] 6)) (T13.setTop (mkF m 54 #[.val (.ref a), .val (.ref b), .val (.int (Int32.ofNat o)), .val (.int (Int32.ofNat len)), .val .null, .val (.ref s.heap.size)] [.ref s.heap.size, .ref a])) := (c12.trans (st13 _ (Steps.refl _))).trans (by
    refine XS.aloadN X13.here hexec rfl (hb hbytes d51) rfl rfl ?_
    refine XS.aload X13.here hexec rfl (hb hbytes d52) rfl rfl ?_
    exact Steps.refl _)
  obtain ⟨T15, X15, p15, bl15, sl15, st15⟩ := X13.finit hexec hown (wk W (.fieldLink "java/lang/String" 9 "java/lang/String" "value" "[B")) (Or.inr ⟨_, (wk W (.laysFinal "java/lang/String" "java/lang/String" "value" "[B"))⟩) (Or.inl ⟨rfl, hnm⟩) f1 (Or.inl rfl) bl13 (t := (.array .byte)) (by decide +kernel) rfl (g := (mkF m 54 #[.val (.ref a), .val (.ref b), .val (.int (Int32.ofNat o)), .val (.int (Int32.ofNat len)), .val .null, .val (.ref s.heap.size)] [.ref s.heap.size, .ref a])) rfl (rest := []) rfl (hb hbytes d54)
  have c16 : Steps p.tables e below (s₁.setTop (entryFrame m #[.ref a, .ref b, .int (Int32.ofNat o), .int (Int32.ofNat len), .null] 6)) (T15.setTop (mkF m 57 #[.val (.ref a), .val (.ref b), .val (.int (Int32.ofNat o)), .val (.int (Int32.ofNat len)), .val .null, .val (.ref s.heap.size)] [])) := c14.trans (st15 _ (Steps.refl _))
  have ap := apart (Or.inr ⟨_, (wk W (.laysFinal "java/lang/String" "java/lang/String" "value" "[B"))⟩) (Or.inr ⟨_, (wk W (.laysFinal "java/lang/String" "java/lang/String" "coder" "B"))⟩) f1 f2 (t₁ := .array .byte) (t₂ := .byte) (by decide +kernel) (by decide +kernel) (by decide)
  have al := X8.warmed.alike.symm.trans X15.warmed.alike
  have n7 : T11.heap[s.heap.size]? = some N := by rw [q11]; exact n1.1
  exact ⟨T15, none, _, _, _, X15, by simp, rfl, by omega, (fun _ => rfl), ⟨rfl, _, N, bl15, ((Same.refl D _).set _ (by simp)).set _ (by simp), sl15, (Cell.slots_setSlot_ne _ ap).trans sl13, n1.keep al (p15.other hne (p13.other hne n7)), n2, by rw [al.findClass]; exact n3, n4, n5, fun y c h1 h2 => p15.other h1 (p13.other h1 (by rw [q11]; exact n6 y c h2)), by rw [p15.2.2, p13.2.2, q11]; exact z8⟩, fun fs hl => c16.trans (X15.returnOut hexec hret (hb hbytes d57) hl)⟩
end New4
namespace New1
def yN : MethodName := ⟨"java/lang/String", "<init>", "([C)V"⟩
abbrev yB : ByteArray := jdk_42_method_3_code
theorem d0 : decode yB 0 = .ok (.aload_n 0, 1) := by decide +kernel
theorem d1 : decode yB 1 = .ok (.aload_n 1, 1) := by decide +kernel
theorem d2 : decode yB 2 = .ok (.iconst 0, 1) := by decide +kernel
theorem d3 : decode yB 3 = .ok (.aload_n 1, 1) := by decide +kernel
theorem d4 : decode yB 4 = .ok (.arraylength, 1) := by decide +kernel
theorem d5 : decode yB 5 = .ok (.aconst_null, 1) := by decide +kernel
theorem d6 : decode yB 6 = .ok (.invokespecial 27, 3) := by decide +kernel
theorem d9 : decode yB 9 = .ok (.return_, 1) := by decide +kernel
def site : List Cond := [New4.tab] ++ initW "java/lang/String" 27 New4.yN
def tab : Cond := tabOf yN yB 2 none site
def P (a : Addr) (D : Cell) (fV fC : Field) (b : Addr) (A : Cell) (z : Int32) (args : Array Value) (s : State) : Prop := args = #[.ref a, .ref b] ∧ Blank "java/lang/String" a D s ∧ Found "java/lang/String" "value" "[B" fV s ∧ Found "java/lang/String" "coder" "B" fC s ∧ Ch b A s ∧ StaticIs s "java/lang/String" "COMPACT_STRINGS" "Z" (.int z) ∧ ¬ z = 0 ∧ 0 < A.slots.size ∧ A.slots.size ≤ 536870912 ∧ ∀ i, i < A.slots.size → ¬ 255 < cv A i
def E (a : Addr) (D : Cell) (fV fC : Field) (A : Cell) (r : Option Value) (s u : State) : Prop := Got a D fV fC A 0 A.slots.size r s u
/-- new String(chars), not empty, no char above 255: a Latin-1 String of their low bytes -/
theorem law (l : Launch) (a : Addr) (D : Cell) (fV fC : Field) (b : Addr) (A : Cell) (z : Int32) : Law l yN 2 1 3 52 yB 2 none site (P a D fV fC b A z) (E a D fV fC A) [⟨a, fC.slot⟩, ⟨a, fV.slot⟩] 1 A.slots.size := by
  refine Law.of_walk (plainFor_of_name (by decide +kernel)) (by decide +kernel) (by decide +kernel) (by decide) (fun _ _ h => by rw [h.1]; rfl) (fun _ U U' hal hh h => ⟨h.1, h.2.1.mv hal hh, h.2.2.1.al hal, h.2.2.2.1.al hal, h.2.2.2.2.1.mv hal hh, h.2.2.2.2.2.1.there hal hh, h.2.2.2.2.2.2⟩) (fun r U U' V V' h1 hal h2 h => Got.mv r U U' V V' h1 hal h2 h) ?_
  intro p e s m args below meth c s₁ X0 hexec hbytes hml hret hlk hnm hown hh0 W hP
  obtain ⟨rfl, hB, f1, f2, hA, s1, hz, l0, l2, hp⟩ := hP
  have c1 : Steps p.tables e below (s₁.setTop (entryFrame m #[.ref a, .ref b] 2)) (s₁.setTop (mkF m 0 #[.val (.ref a), .val (.ref b)] [])) := entry rfl
  have c2 : Steps p.tables e below (s₁.setTop (entryFrame m #[.ref a, .ref b] 2)) (s₁.setTop (mkF m 6 #[.val (.ref a), .val (.ref b)] [.null, .int (Int32.ofNat A.slots.size), .int 0, .ref b, .ref a])) := c1.trans (by
    refine XS.aloadN X0.here hexec rfl (hb hbytes d0) rfl rfl ?_
    refine XS.aloadN X0.here hexec rfl (hb hbytes d1) rfl rfl ?_
    refine iconstV X0.here hexec rfl 0 (hb hbytes d2) (by decide) ?_
    refine XS.aloadN X0.here hexec rfl (hb hbytes d3) rfl rfl ?_
    refine X0.alen hexec (hA.1.mv X0.warmed.alike hh0) rfl rfl (hb hbytes d4) ?_
    refine XS.aconstNull X0.here hexec rfl (hb hbytes d5) ?_
    exact Steps.refl _)
  obtain ⟨v3, T3, X3, E3, g3⟩ := X0.callN hexec (New4.law l a D fV fC b A z 0 A.slots.size) rfl hown (wks W (initW "java/lang/String" 27 New4.yN)) (W New4.tab (by simp only [site, List.mem_cons, List.mem_append, true_or, or_true])) (W := 0) (Nat.le_of_ble_eq_true rfl) (Nat.le_of_ble_eq_true rfl) (Nat.le_refl _) (by show 0 + A.slots.size ≤ A.slots.size; omega) (g := (mkF m 6 #[.val (.ref a), .val (.ref b)] [.null, .int (Int32.ofNat A.slots.size), .int (Int32.ofNat 0), .ref b, .ref a])) rfl (by rw [hml]; rfl) c2 (argsL := [.ref b, .int (Int32.ofNat 0), .int (Int32.ofNat A.slots.size), .null]) (rest := []) rfl rfl (by show 2 * 0 + 0 ≤ _; decide) (hb hbytes d6) (⟨rfl, hB.mv X0.warmed.alike hh0, f1.al X0.warmed.alike, f2.al X0.warmed.alike, hA.mv X0.warmed.alike hh0, s1.there X0.warmed.alike hh0, hz, l0, by omega, l2, fun i hi => by rw [Nat.zero_add]; exact hp i hi⟩)
  have e0 := Got.mv _ s₁ s _ _ hh0.symm (Vm.Alike.refl _) rfl E3
  obtain rfl := e0.1
  have c4 : Steps p.tables e below (s₁.setTop (entryFrame m #[.ref a, .ref b] 2)) (T3.setTop (mkF m 9 #[.val (.ref a), .val (.ref b)] [])) := g3
  exact ⟨T3, none, _, _, _, X3, by simp, rfl, by omega, (fun _ => rfl), e0, fun fs hl => c4.trans (X3.returnOut hexec hret (hb hbytes d9) hl)⟩
theorem pays {l : Launch} {R : Room} {p : Program} {e : Env} {below : List Frame} {s : State} {sargs : Array Value} {len W : Nat} (a : Addr) (D : Cell) (fV fC : Field) (b : Addr) (A : Cell) (z : Int32) (htab : tab.before sargs s = true) (hfr : 4 ≤ R.frames) (hlo : W + 65 ≤ R.locals) :
    Back l R p e below s sargs yN len W (fun A₁ a₁ => A₁.cells + 1 ≤ R.cells ∧ A₁.slots + A.slots.size ≤ R.slots ∧ P a D fV fC b A z a₁ A₁.U) (fun A₁ _ v₁ B₁ => E a D fV fC A v₁ A₁.U B₁.U ∧ B₁.locs = A₁.locs ++ [⟨a, fC.slot⟩, ⟨a, fV.slot⟩] ∧ B₁.cells = A₁.cells + 1 ∧ B₁.slots = A₁.slots + A.slots.size) :=
  (law l a D fV fC b A z).pays htab hfr (by omega)
end New1
end StrChars
namespace StrChars.Road
open Jvm Sem ClassFile Op Lib Jvm.Stand Jvm.Free Jvm.Free.XT
open Jvm.Lib.Cold (StaticIs)
abbrev ST : String := "java/lang/String"
/-- every table word that New1's law asks, flat -/
abbrev words : List Jvm.Cond := [.code New1.yN New1.yB 2 none, .initialized ST, .methodLink ST 27 New4.yN, .instanceMethod New4.yN,
  .code New4.yN New4.yB 6 none, .fieldLink ST 38 ST "COMPACT_STRINGS" "Z", .laysFinal ST ST "value" "[B", .fieldLink ST 9 ST "value" "[B", .laysFinal ST ST "coder" "B", .fieldLink ST 15 ST "coder" "B",
  .methodLink ST 1 Lib.objectInit, .instanceMethod Lib.objectInit, .code Lib.objectInit ⟨#[0xb1]⟩ 1 none, .methodLink ST 177 Cmp3.yN, .static Cmp3.yN, .methodLink ST 47 CodL.yN, .static CodL.yN,
  .code Cmp3.yN Cmp3.yB 6 (some (.array .byte)), .initialized U16, .arrayClass .byte, .methodLink U16 115 Cmp5.yN, .static Cmp5.yN, .code Cmp5.yN Cmp5.yB 7 (some .int), .code CodL.yN CodL.yB 2 (some .byte)]
theorem tab_of {a : Array Value} {s : State} (h : ∀ w ∈ words, w.before a s = true) : New1.tab.before a s = true := by
  have h5 : Cmp5.tab.before a s = true := unparts (wk h (.code Cmp5.yN Cmp5.yB 7 (some .int))) (wks h (.initialized Cmp5.yN.cls :: Cmp5.site))
  have hc : CodL.tab.before a s = true := unparts (wk h (.code CodL.yN CodL.yB 2 (some .byte))) (wks h (.initialized CodL.yN.cls :: CodL.site))
  have q5 : ∀ w ∈ Cmp5.tab :: words, w.before a s = true := fun w hw => (List.mem_cons.mp hw).elim (fun e => e ▸ h5) (h w)
  have h3 : Cmp3.tab.before a s = true := unparts (wk q5 (.code Cmp3.yN Cmp3.yB 6 (some (.array .byte)))) (wks q5 (.initialized Cmp3.yN.cls :: Cmp3.site))
  have q3 : ∀ w ∈ Cmp3.tab :: CodL.tab :: words, w.before a s = true := fun w hw => (List.mem_cons.mp hw).elim (fun e => e ▸ h3) fun hw => (List.mem_cons.mp hw).elim (fun e => e ▸ hc) (h w)
  have h4 : New4.tab.before a s = true := unparts (wk q3 (.code New4.yN New4.yB 6 none)) (wks q3 (.initialized New4.yN.cls :: New4.site))
  have q4 : ∀ w ∈ New4.tab :: words, w.before a s = true := fun w hw => (List.mem_cons.mp hw).elim (fun e => e ▸ h4) (h w)
  exact unparts (wk q4 (.code New1.yN New1.yB 2 none)) (wks q4 (.initialized New1.yN.cls :: New1.site))
/-- the words ride from the start Z to the walk's own state -/
theorem moved {Z s : State} {a0 args : Array Value} (hZ : Z.Warmed39 s.vm) (hw : ∀ d ∈ words, d.before a0 Z = true) : ∀ d ∈ words, d.before args s = true := fun d hd => by
  have q := hw d hd
  have t : ∀ d ∈ words, d = .arrayClass .byte ∨ (d.onTables && d.keepsFace) = true := by decide +kernel
  rcases t d hd with rfl | t
  · exact RoadKit.mvA hZ q
  · exact RoadKit.mv hZ q t
/-- WHAT COMES BACK, over the tables of the start Z: h the heap at the call, h' behind it -/
def Q (Z : State) (x : Addr) (A : Cell) (h : Heap) (v : Option Value) (h' : Heap) (L : List Loc) : Prop := v = none ∧ (∀ y ∈ L, y.base = x) ∧ RoadKit.Keep h h' [x] ∧ h'.size = h.size + 1 ∧ RoadKit.Exa Z h' x ST ∧ RoadKit.Fld Z h' x ST "value" "[B" (.ref h.size) ∧ RoadKit.Fld Z h' x ST "coder" "B" (.int 0) ∧
  (∃ V : Cell, RoadKit.Arr Z h' h.size V .byte ∧ V.vm = .none ∧ Z.vm.findClass "[B" = some V.cls ∧ V.slots.size = A.slots.size ∧ ∀ j, j < A.slots.size → V.slots[j]? = some (.int (lo8 (cv A j)))) ∧
  ∀ (O n d : String) (w : Value), RoadKit.Fld Z h x O n d w → RoadKit.slotOf Z O n d ≠ RoadKit.slotOf Z ST "value" "[B" → RoadKit.slotOf Z O n d ≠ RoadKit.slotOf Z ST "coder" "B" → RoadKit.Fld Z h' x O n d w
/-- **new String(chars) AT A CALL, IN THE ROAD'S FORM**: for specialBack behind newO: x the fresh String, b the char[] with the cell A -/
theorem back {p : Program} {l : Launch} {e : Env} {R : Room} {s : State} {args : Array Value} {below : List Frame} {len W : Nat} {Z : State} {a0 : Array Value} {h : Heap} (hZ : Z.Warmed39 s.vm) (hw : ∀ d ∈ words, d.before a0 Z = true) {kI : Nat} (wi : (Jvm.Cond.instantiable ST kI).before a0 Z = true)
    {x b : Addr} {A : Cell} {z : Int32} {v0 c0 : Value} (E : RoadKit.Exa Z h x ST) (V : RoadKit.Fld Z h x ST "value" "[B" v0) (C : RoadKit.Fld Z h x ST "coder" "B" c0) (K : RoadKit.Arr Z h b A .char) (hty : Typed .char A) (S : RoadKit.Sta Z h ST "COMPACT_STRINGS" "Z" (.int z)) (hz : ¬ z = 0)
    (l0 : 0 < A.slots.size) (l2 : A.slots.size ≤ 536870912) (hp : ∀ i, i < A.slots.size → ¬ 255 < cv A i) (hfr : 4 ≤ R.frames) (hlo : W + 65 ≤ R.locals) :
    Back l R p e below s args New1.yN len W (fun P a => a = #[.ref x, .ref b] ∧ P.U.heap = h ∧ P.cells + 1 ≤ R.cells ∧ P.slots + A.slots.size ≤ R.slots)
      (fun P _ v B => ∃ L, Q Z x A h v B.U.heap L ∧ B.locs = P.locs ++ L ∧ B.cells = P.cells + 1 ∧ B.slots = P.slots + A.slots.size) := by
  intro m meth c P g ig mk a X hg hsize hdg hW hn hp'
  obtain ⟨rfl, rfl, r1, r2⟩ := hp'
  have al : Z.vm.Alike P.U.vm := hZ.alike.trans X.warmed.alike
  obtain ⟨D, cfV, kV, iV, fV, hD, gV, stV, knV, obV, asV, slV⟩ := id V
  obtain ⟨D', cfC, kC, iC, fC, hD', gC, stC, -, -, asC, slC⟩ := id C
  cases hD.symm.trans hD'
  obtain ⟨D2, kD, e1, e2, e3, e4, e5⟩ := id E
  cases hD.symm.trans e1
  obtain ⟨c2, k2, i1, i2, i3, -⟩ := Cond.instantiable_spec wi
  cases e2.symm.trans i1
  cases e3.symm.trans i2
  obtain ⟨kU, u1, u2⟩ := al.2.2 _ _ e3
  have hB : Blank ST x D P.U := ⟨hD, ⟨knV, fun q hq => by rw [hq] at obV; cases obV⟩, by rw [al.findClass]; exact e2, kU, u1, by rw [u2]; exact i3, by rw [u2]; exact e5 i3⟩
  have F1 : Found ST "value" "[B" fV P.U := ⟨SBG.found_only al ⟨cfV, kV, iV, gV⟩, stV⟩
  have F2 : Found ST "coder" "B" fC P.U := ⟨SBG.found_only al ⟨cfC, kC, iC, gC⟩, stC⟩
  have hA : Ch b A P.U := ⟨⟨K.1, State.isArrayOf_alike al K.2.1, K.2.2, by omega⟩, hty⟩
  have hS : StaticIs P.U ST "COMPACT_STRINGS" "Z" (.int z) := by
    obtain ⟨cfS, iS, kS, fS, st, cS, t1, t2, t3, t4, t5, t6, t7⟩ := S
    exact StaticIs.there (s := { Z with heap := P.U.heap }) ⟨cfS, iS, kS, fS, st, cS, t1, t2, t3, t4, t5, (fun q => by rw [q] at t6; cases t6), t7⟩ al rfl
  obtain ⟨v, B, X', ⟨⟨hv, E', V', q1, q2, q3, q4, q5, q6, q7, q8, q9, q10, q11⟩, hl, hc, hs⟩, st⟩ := New1.pays x D fV fC b A z (tab_of (moved hZ hw)) hfr hlo m meth c P g ig mk _ X hg hsize hdg hW hn ⟨r1, r2, rfl, hB, F1, F2, hA, hS, hz, l0, l2, hp⟩
  have al' : Z.vm.Alike B.U.vm := hZ.alike.trans X'.warmed.alike
  have hsz : E'.slots.size = D.slots.size := by
    obtain ⟨-, -, -, kB, w1, w2, w3⟩ := q1
    obtain ⟨kB', y1, y2⟩ := al'.2.2 _ _ e3
    rw [q2.2.1] at w1
    cases w1.symm.trans y1
    rw [w3, e5 i3, y2]
  refine ⟨v, B, X', ⟨_, ⟨hv, ?_, ⟨by omega, fun y cy hy hn' => q10 y cy (by simpa using hn') hy, fun y cy hy => ?_⟩, q11, ⟨E', _, q1.1, by rw [q2.2.1]; exact e2, by rw [q2.2.1]; exact e3, by rw [q2.1]; exact obV, fun _ => by rw [hsz]; exact e5 i3⟩,
    ⟨E', cfV, kV, iV, fV, q1.1, gV, stV, by rw [q2.1]; exact knV, by rw [q2.1]; exact obV, by rw [q2.2.1]; exact asV, q3⟩, ⟨E', cfC, kC, iC, fC, q1.1, gC, stC, by rw [q2.1]; exact knV, by rw [q2.1]; exact obV, by rw [q2.2.1]; exact asC, q4⟩,
    ⟨V', ⟨q5.1, State.isArrayOf_alike al'.symm q5.2.1, q5.2.2.1⟩, q6, by rw [← al'.findClass]; exact q7, q8, fun j hj => by have := q9 j hj; rwa [Nat.zero_add] at this⟩, fun O n d w F n1 n2 => ?_⟩, hl, hc, hs⟩, st⟩
  · intro y hy
    simp only [List.mem_cons, List.not_mem_nil, or_false] at hy
    rcases hy with rfl | rfl <;> rfl
  · by_cases q : y = x
    · subst q
      cases hD.symm.trans hy
      exact ⟨E', q1.1, q2.2.1, q2.1, hsz⟩
    · exact ⟨cy, q10 y cy q hy, rfl, rfl, rfl⟩
  · obtain ⟨D3, cf, k, i, f, g1, g2, g3, g4, g5, g6, g7⟩ := F
    cases hD.symm.trans g1
    simp only [RoadKit.slotOf, g2, gV, gC, Option.map_some, Option.getD_some] at n1 n2
    exact ⟨E', cf, k, i, f, q1.1, g2, g3, by rw [q2.1]; exact g4, by rw [q2.1]; exact g5, by rw [q2.2.1]; exact g6, by rw [q2.2.2 f.slot (by simp [n1, n2])]; exact g7⟩
end StrChars.Road
namespace StrChars.Road
open Jvm Sem ClassFile Op Lib Jvm.Stand Jvm.Free Jvm.Free.XT
/-- WHAT COMES BACK, the byte[] as a list of values -/
def QA (Z : State) (x : Addr) (zn : Int32) (cs : List Int32) (h : Heap) (v : Option Value) (h' : Heap) (L : List Loc) : Prop := v = none ∧ (∀ y ∈ L, y.base = x) ∧ RoadKit.Keep h h' [x] ∧ h'.size = h.size + 1 ∧ RoadKit.Exa Z h' x ST ∧ RoadKit.Fld Z h' x ST "value" "[B" (.ref h.size) ∧ RoadKit.Fld Z h' x ST "coder" "B" (.int 0) ∧
  (∃ kb, Z.vm.findClass "[B" = some kb ∧ RoadKit.Arv Z h' h.size kb .byte zn (cs.map fun c => .int (lo8 c)) (.int 0)) ∧
  ∀ (O n d : String) (w : Value), RoadKit.Fld Z h x O n d w → RoadKit.slotOf Z O n d ≠ RoadKit.slotOf Z ST "value" "[B" → RoadKit.slotOf Z O n d ≠ RoadKit.slotOf Z ST "coder" "B" → RoadKit.Fld Z h' x O n d w
/-- **new String(chars) AT A CALL, THE ARRAYS AS LISTS**: the char[] at b holds cs, not empty, no char above 255 -/
theorem backArv {p : Program} {l : Launch} {e : Env} {R : Room} {s : State} {args : Array Value} {below : List Frame} {len W : Nat} {Z : State} {a0 : Array Value} {h : Heap} (hZ : Z.Warmed39 s.vm) (hw : ∀ d ∈ words, d.before a0 Z = true) {kI : Nat} (wi : (Jvm.Cond.instantiable ST kI).before a0 Z = true)
    {x b : Addr} {k : ClassId} {zn z : Int32} {cs : List Int32} {dv v0 c0 : Value} (E : RoadKit.Exa Z h x ST) (V : RoadKit.Fld Z h x ST "value" "[B" v0) (C : RoadKit.Fld Z h x ST "coder" "B" c0) (K : RoadKit.Arv Z h b k .char zn (cs.map Value.int) dv) (S : RoadKit.Sta Z h ST "COMPACT_STRINGS" "Z" (.int z)) (hz : ¬ z = 0)
    (hlen : zn.toNatClampNeg = cs.length) (h0 : 0 < cs.length) (hbig : cs.length ≤ 536870912) (hall : ∀ c ∈ cs, ¬ 255 < c) (hfr : 4 ≤ R.frames) (hlo : W + 65 ≤ R.locals) :
    Back l R p e below s args New1.yN len W (fun P a => a = #[.ref x, .ref b] ∧ P.U.heap = h ∧ P.cells + 1 ≤ R.cells ∧ P.slots + cs.length ≤ R.slots)
      (fun P _ v B => ∃ L, QA Z x zn cs h v B.U.heap L ∧ B.locs = P.locs ++ L ∧ B.cells = P.cells + 1 ∧ B.slots = P.slots + cs.length) := by
  obtain ⟨A, K1, K2, K3, K4, K5, K6⟩ := K
  have e : A.slots.size = cs.length := K3.trans hlen
  have hat : ∀ (i : Nat) (hi : i < cs.length), A.slots[i]? = some (.int cs[i]) := fun i hi => by rw [K5 i (by omega)]; simp [List.getD_eq_getElem?_getD, hi]
  have hcv : ∀ (i : Nat) (hi : i < cs.length), cv A i = cs[i] := fun i hi => by unfold cv; rw [hat i hi]
  have hty : Typed .char A := fun i v hv => by
    have hi : i < A.slots.size := (Array.getElem?_eq_some_iff.mp hv).1
    have q := K5 i hi
    rw [hv] at q
    rw [Option.some.inj q]
    exact K6 i hi
  refine Back.mono (back hZ hw wi E V C K1 hty S hz (by omega) (by omega) (fun i hi => by rw [hcv i (by omega)]; exact hall _ (List.getElem_mem _)) hfr hlo) (fun P a hp => ⟨hp.1, hp.2.1, hp.2.2.1, by rw [e]; exact hp.2.2.2⟩) (fun P a v B hp hq => ?_)
  obtain ⟨L, ⟨q1, q2, q3, q4, q5, q6, q7, ⟨V', v1, v2, v3, v4, v5⟩, q9⟩, hl, hc, hs⟩ := hq
  refine ⟨L, ⟨q1, q2, q3, q4, q5, q6, q7, ⟨V'.cls, v3, V', v1, rfl, by rw [v4, e, hlen], K4, fun i hi => ?_, fun i hi => ?_⟩, q9⟩, hl, hc, by rw [hs, e]⟩
  · have hi' : i < cs.length := by omega
    rw [v5 i (by omega), hcv i hi']; simp [List.getD_eq_getElem?_getD, hi']
  · have hi' : i < cs.length := by omega
    simp only [List.getD_eq_getElem?_getD, List.getElem?_map, List.getElem?_eq_getElem hi', Option.map_some, Option.getD_some]
    exact fits_lo8 _
end StrChars.Road
namespace StrChars.Road
open Jvm Sem ClassFile Op Lib Jvm.Stand Jvm.Free Jvm.Free.XT
/-- WHAT COMES BACK, in the writer's own shape -/
def QV (Z : State) (x : Addr) (N : Int32) (bs : List Int32) (h : Heap) (n0 : Nat) (v : Option Value) (h' : Heap) (L : List Loc) : Prop := v = none ∧ RoadKit.Fr n0 L ∧ RoadKit.Keep h h' [x] ∧ RoadKit.Exa Z h' x ST ∧ RoadKit.Fld Z h' x ST "coder" "B" (.int 0) ∧
  ∃ (t : Addr) (kb : ClassId), n0 ≤ t ∧ h.size ≤ t ∧ ¬ t = x ∧ RoadKit.Fld Z h' x ST "value" "[B" (.ref t) ∧ RoadKit.Arv Z h' t kb .byte N (bs.map Value.int) (.int 0)
/-- **new String(chars) AT A CALL, FOR THE WRITER**: a char[] of n known ints, each 0 to 255 -/
theorem backV {p : Program} {l : Launch} {e : Env} {R : Room} {s : State} {args : Array Value} {below : List Frame} {len W : Nat} {Z : State} {a0 : Array Value} {h : Heap} (hZ : Z.Warmed39 s.vm) (hw : ∀ d ∈ words, d.before a0 Z = true) {kI : Nat} (wi : (Jvm.Cond.instantiable ST kI).before a0 Z = true)
    {x b : Addr} {kC : ClassId} {cs bs : List Int32} {d v0 c0 : Value} {z N : Int32} {n n0 : Nat} (hx0 : n0 ≤ x) (hh0 : n0 ≤ h.size) (E : RoadKit.Exa Z h x ST) (V : RoadKit.Fld Z h x ST "value" "[B" v0) (C : RoadKit.Fld Z h x ST "coder" "B" c0) (K : RoadKit.Arv Z h b kC .char N (cs.map Value.int) d) (S : RoadKit.Sta Z h ST "COMPACT_STRINGS" "Z" (.int z)) (hz : ¬ z = 0)
    (hn : cs.length = n) (hN : N = Int32.ofNat n) (l0 : 0 < n) (l2 : n ≤ 4000) (hp : ∀ c ∈ cs, ¬ c < 0 ∧ ¬ (255 : Int32) < c) (hb : bs = cs.map (fun c => c.toInt8.toInt32)) (hfr : 4 ≤ R.frames) (hlo : W + 65 ≤ R.locals) :
    Back l R p e below s args (⟨"java/lang/String", "<init>", "([C)V"⟩ : MethodName) len W (fun P a => a = #[.ref x, .ref b] ∧ P.U.heap = h ∧ P.cells + 1 ≤ R.cells ∧ P.slots + n ≤ R.slots)
      (fun P _ v B => ∃ L, QV Z x N bs h n0 v B.U.heap L ∧ B.locs = P.locs ++ L ∧ B.cells = P.cells + 1 ∧ B.slots = P.slots + n) := by
  subst hn hN hb
  refine Back.mono (backArv hZ hw wi E V C K S hz (n32 (by omega)) l0 (by omega) (fun c hc => (hp c hc).2) hfr hlo) (fun P a hp => hp) (fun P a v B hp hq => ?_)
  obtain ⟨L, ⟨q1, q2, q3, q4, q5, q6, q7, ⟨kb, v1, v2⟩, q9⟩, hl, hc, hs⟩ := hq
  exact ⟨L, ⟨q1, fun y hy => by rw [q2 y hy]; exact hx0, q3, q5, q7, h.size, kb, hh0, Nat.le_refl _, Nat.ne_of_gt E.lt, q6, by rw [List.map_map]; exact v2⟩, hl, hc, hs⟩
end StrChars.Road
end Jvm.Pilot.@@N@@

namespace Jvm.Pilot.@@N@@
open Jvm Jvm.ClassFile Sem Op Lib Jvm.Free Jvm.Stand Jvm.LawKit Jvm.RoadKit Bundle Jvm.Pilot.@@N@@.Jvm.D

section OwnWalk
variable {p : Program} {l : Launch} {e : Env} {R : Room} {s : State} {m : MethodId} {args : Array Value} {below : List Frame} {meth : Method} {c : Code} {T : State} {locs : List Loc} {cells slots : Nat} {Z : State} {h : Heap} {Q : Option Value → Heap → List Loc → Prop} {ce sl : Nat} {pc q q' : Nat} {ls : Array Slot} {st : List Value} {a0 : Array Value}
/-- the rest of a body's run, from the frame g on -/
def Go (p : Program) (e : Env) (below : List Frame) (s : State) (Q : Option Value → Heap → List Loc → Prop) (ce sl : Nat) (T : State) (g : JFrame) : Prop :=
  ∃ s₂ o, Steps p.tables e below (T.setTop g) s₂ ∧ s₂.status = .running ∧ Ended s₂ below o ∧ ∃ v L, o = .returned v ∧ Q v s₂.heap L ∧ FrameEnd s o s₂ L ce sl
theorem Go.to {T' : State} {g g' : JFrame} (k : Go p e below s Q ce sl T' g') (f : ∀ t, Steps p.tables e below (T'.setTop g') t → Steps p.tables e below (T.setTop g) t) : Go p e below s Q ce sl T g := by
  obtain ⟨s2, o, h1, r⟩ := k
  exact ⟨s2, o, f _ h1, r⟩
theorem Go.cast {g g' : JFrame} (w : g = g') (k : Go p e below s Q ce sl T g') : Go p e below s Q ce sl T g := w ▸ k
/-- a body's contract: from these arguments, over this heap, it returns with Q -/
abbrev Con (l : Launch) (y : MethodName) (bytes : ByteArray) (maxL : Nat) (ret : Option FieldType) (ws : List Jvm.Cond) (rm : Room) (Z : State) (as' : Array Value) (h : Heap) (Q : Option Value → Heap → List Loc → Prop) : Prop :=
  MetFree l y (head1 (Jvm.Cond.code y bytes maxL ret :: ws) rm) (fun a U => a = as' ∧ Z.Warmed39 U.vm ∧ U.heap = h) (fun _ _ _ _ _ => True) (fun _ U o U' => ∃ v L, o = .returned v ∧ Q v U'.heap L ∧ FrameEnd U o U' L rm.cells rm.slots)
theorem con_of {y : MethodName} {bytes : ByteArray} {maxL : Nat} {ret : Option FieldType} {ws : List Jvm.Cond} {rm : Room} {as' : Array Value} (hpl : plainFor y = true)
    (body : ∀ (p : Program) (e : Env) (s : State) (m : MethodId) (below : List Frame) (meth : Method) (c : Code) (s₁ : State), Stand p l e rm s m as' below meth c s₁ [] 0 0 → p.tables.exec = Jvm.exec → c.code = bytes → c.maxLocals = maxL → meth.sig.returnType = ret → meth.locks = false → s.vm.findClass y.cls = some m.cls → meth.name = y.name → Z.Warmed39 s.vm → s₁.heap = h → Go p e below s Q rm.cells rm.slots s₁ (entryFrame m as' maxL)) :
    Con l y bytes maxL ret ws rm Z as' h Q := by
  refine MetFree.of_bodySF hpl hisR ?_
  intro p e s m args below meth c s₁ Bd hml0 hP hK
  obtain ⟨rfl, hZ, hh⟩ := hP
  exact body p e s m below meth c s₁ (Stand.of_body Bd) Bd.exec Bd.bytes hml0 Bd.returns Bd.notSynchronized (findClass_of_methodNamed Bd.named) (name_of_methodNamed Bd.named Bd.method).1 hZ (by rw [← hh, Bd.state]; rfl)
theorem go_iload (X : Stand p l e R s m args below meth c T locs cells slots) (hx : p.tables.exec = Jvm.exec) {k : Nat} {v : Int32} (hd : decode c.code pc = .ok (.iload k, 2)) (hp : pc + 2 = q) (hl : ls[k]? = some (.val (.int v))) (K : Go p e below s Q ce sl T (mkF m q ls (.int v :: st))) : Go p e below s Q ce sl T (mkF m pc ls st) := by
  subst hp
  exact K.to fun _ r => XS.iload X.here hx rfl hd hl r
theorem go_iloadN (X : Stand p l e R s m args below meth c T locs cells slots) (hx : p.tables.exec = Jvm.exec) {k : Fin 4} {v : Int32} (hd : decode c.code pc = .ok (.iload_n k, 1)) (hp : pc + 1 = q) (hl : ls[k.val]? = some (.val (.int v))) (K : Go p e below s Q ce sl T (mkF m q ls (.int v :: st))) : Go p e below s Q ce sl T (mkF m pc ls st) := by
  subst hp
  exact K.to fun _ r => XS.iloadN X.here hx rfl hd hl r
theorem go_istore (X : Stand p l e R s m args below meth c T locs cells slots) (hx : p.tables.exec = Jvm.exec) {k : Nat} {v : Int32} {l' : Array Slot} (hd : decode c.code pc = .ok (.istore k, 2)) (hp : pc + 2 = q) (hl : storeLocals ls k (.int v) = some l') (K : Go p e below s Q ce sl T (mkF m q l' st)) : Go p e below s Q ce sl T (mkF m pc ls (.int v :: st)) := by
  subst hp
  exact K.to fun _ r => XS.istore X.here hx rfl hd rfl hl r
theorem go_istoreN (X : Stand p l e R s m args below meth c T locs cells slots) (hx : p.tables.exec = Jvm.exec) {k : Fin 4} {v : Int32} {l' : Array Slot} (hd : decode c.code pc = .ok (.istore_n k, 1)) (hp : pc + 1 = q) (hl : storeLocals ls k.val (.int v) = some l') (K : Go p e below s Q ce sl T (mkF m q l' st)) : Go p e below s Q ce sl T (mkF m pc ls (.int v :: st)) := by
  subst hp
  exact K.to fun _ r => XS.istoreN X.here hx rfl hd rfl hl r
theorem go_lload (X : Stand p l e R s m args below meth c T locs cells slots) (hx : p.tables.exec = Jvm.exec) {k : Nat} {v : Int64} (hd : decode c.code pc = .ok (.lload k, 2)) (hp : pc + 2 = q) (hl : ls[k]? = some (.val (.long v))) (K : Go p e below s Q ce sl T (mkF m q ls (.long v :: st))) : Go p e below s Q ce sl T (mkF m pc ls st) := by
  subst hp
  exact K.to fun _ r => XS.lload X.here hx rfl hd hl r
theorem go_lloadN (X : Stand p l e R s m args below meth c T locs cells slots) (hx : p.tables.exec = Jvm.exec) {k : Fin 4} {v : Int64} (hd : decode c.code pc = .ok (.lload_n k, 1)) (hp : pc + 1 = q) (hl : ls[k.val]? = some (.val (.long v))) (K : Go p e below s Q ce sl T (mkF m q ls (.long v :: st))) : Go p e below s Q ce sl T (mkF m pc ls st) := by
  subst hp
  exact K.to fun _ r => XS.lloadN X.here hx rfl hd hl r
theorem go_lstore (X : Stand p l e R s m args below meth c T locs cells slots) (hx : p.tables.exec = Jvm.exec) {k : Nat} {v : Int64} {l' : Array Slot} (hd : decode c.code pc = .ok (.lstore k, 2)) (hp : pc + 2 = q) (hl : storeLocals ls k (.long v) = some l') (K : Go p e below s Q ce sl T (mkF m q l' st)) : Go p e below s Q ce sl T (mkF m pc ls (.long v :: st)) := by
  subst hp
  exact K.to fun _ r => XS.lstore X.here hx rfl hd rfl hl r
theorem go_lstoreN (X : Stand p l e R s m args below meth c T locs cells slots) (hx : p.tables.exec = Jvm.exec) {k : Fin 4} {v : Int64} {l' : Array Slot} (hd : decode c.code pc = .ok (.lstore_n k, 1)) (hp : pc + 1 = q) (hl : storeLocals ls k.val (.long v) = some l') (K : Go p e below s Q ce sl T (mkF m q l' st)) : Go p e below s Q ce sl T (mkF m pc ls (.long v :: st)) := by
  subst hp
  exact K.to fun _ r => XS.lstoreN X.here hx rfl hd rfl hl r
theorem go_dload (X : Stand p l e R s m args below meth c T locs cells slots) (hx : p.tables.exec = Jvm.exec) {k : Nat} {v : UInt64} (hd : decode c.code pc = .ok (.dload k, 2)) (hp : pc + 2 = q) (hl : ls[k]? = some (.val (.double v))) (K : Go p e below s Q ce sl T (mkF m q ls (.double v :: st))) : Go p e below s Q ce sl T (mkF m pc ls st) := by
  subst hp
  exact K.to fun _ r => XS.dload X.here hx rfl hd hl r
theorem go_dloadN (X : Stand p l e R s m args below meth c T locs cells slots) (hx : p.tables.exec = Jvm.exec) {k : Fin 4} {v : UInt64} (hd : decode c.code pc = .ok (.dload_n k, 1)) (hp : pc + 1 = q) (hl : ls[k.val]? = some (.val (.double v))) (K : Go p e below s Q ce sl T (mkF m q ls (.double v :: st))) : Go p e below s Q ce sl T (mkF m pc ls st) := by
  subst hp
  exact K.to fun _ r => XS.dloadN X.here hx rfl hd hl r
theorem go_dstore (X : Stand p l e R s m args below meth c T locs cells slots) (hx : p.tables.exec = Jvm.exec) {k : Nat} {v : UInt64} {l' : Array Slot} (hd : decode c.code pc = .ok (.dstore k, 2)) (hp : pc + 2 = q) (hl : storeLocals ls k (.double v) = some l') (K : Go p e below s Q ce sl T (mkF m q l' st)) : Go p e below s Q ce sl T (mkF m pc ls (.double v :: st)) := by
  subst hp
  exact K.to fun _ r => XS.dstore X.here hx rfl hd rfl hl r
theorem go_dstoreN (X : Stand p l e R s m args below meth c T locs cells slots) (hx : p.tables.exec = Jvm.exec) {k : Fin 4} {v : UInt64} {l' : Array Slot} (hd : decode c.code pc = .ok (.dstore_n k, 1)) (hp : pc + 1 = q) (hl : storeLocals ls k.val (.double v) = some l') (K : Go p e below s Q ce sl T (mkF m q l' st)) : Go p e below s Q ce sl T (mkF m pc ls (.double v :: st)) := by
  subst hp
  exact K.to fun _ r => XS.dstoreN X.here hx rfl hd rfl hl r
theorem go_fload (X : Stand p l e R s m args below meth c T locs cells slots) (hx : p.tables.exec = Jvm.exec) {k : Nat} {v : UInt32} (hd : decode c.code pc = .ok (.fload k, 2)) (hp : pc + 2 = q) (hl : ls[k]? = some (.val (.float v))) (K : Go p e below s Q ce sl T (mkF m q ls (.float v :: st))) : Go p e below s Q ce sl T (mkF m pc ls st) := by
  subst hp
  exact K.to fun _ r => XS.fload X.here hx rfl hd hl r
theorem go_floadN (X : Stand p l e R s m args below meth c T locs cells slots) (hx : p.tables.exec = Jvm.exec) {k : Fin 4} {v : UInt32} (hd : decode c.code pc = .ok (.fload_n k, 1)) (hp : pc + 1 = q) (hl : ls[k.val]? = some (.val (.float v))) (K : Go p e below s Q ce sl T (mkF m q ls (.float v :: st))) : Go p e below s Q ce sl T (mkF m pc ls st) := by
  subst hp
  exact K.to fun _ r => XS.floadN X.here hx rfl hd hl r
theorem go_fstore (X : Stand p l e R s m args below meth c T locs cells slots) (hx : p.tables.exec = Jvm.exec) {k : Nat} {v : UInt32} {l' : Array Slot} (hd : decode c.code pc = .ok (.fstore k, 2)) (hp : pc + 2 = q) (hl : storeLocals ls k (.float v) = some l') (K : Go p e below s Q ce sl T (mkF m q l' st)) : Go p e below s Q ce sl T (mkF m pc ls (.float v :: st)) := by
  subst hp
  exact K.to fun _ r => XS.fstore X.here hx rfl hd rfl hl r
theorem go_fstoreN (X : Stand p l e R s m args below meth c T locs cells slots) (hx : p.tables.exec = Jvm.exec) {k : Fin 4} {v : UInt32} {l' : Array Slot} (hd : decode c.code pc = .ok (.fstore_n k, 1)) (hp : pc + 1 = q) (hl : storeLocals ls k.val (.float v) = some l') (K : Go p e below s Q ce sl T (mkF m q l' st)) : Go p e below s Q ce sl T (mkF m pc ls (.float v :: st)) := by
  subst hp
  exact K.to fun _ r => XS.fstoreN X.here hx rfl hd rfl hl r
theorem go_aload (X : Stand p l e R s m args below meth c T locs cells slots) (hx : p.tables.exec = Jvm.exec) {k : Nat} {v : Value} (hd : decode c.code pc = .ok (.aload k, 2)) (hp : pc + 2 = q) (hl : ls[k]? = some (.val v)) (hv : v.isRef = true) (K : Go p e below s Q ce sl T (mkF m q ls (v :: st))) : Go p e below s Q ce sl T (mkF m pc ls st) := by
  subst hp
  exact K.to fun _ r => XS.aload X.here hx rfl hd hl hv r
theorem go_aloadN (X : Stand p l e R s m args below meth c T locs cells slots) (hx : p.tables.exec = Jvm.exec) {k : Fin 4} {v : Value} (hd : decode c.code pc = .ok (.aload_n k, 1)) (hp : pc + 1 = q) (hl : ls[k.val]? = some (.val v)) (hv : v.isRef = true) (K : Go p e below s Q ce sl T (mkF m q ls (v :: st))) : Go p e below s Q ce sl T (mkF m pc ls st) := by
  subst hp
  exact K.to fun _ r => XS.aloadN X.here hx rfl hd hl hv r
theorem go_astore (X : Stand p l e R s m args below meth c T locs cells slots) (hx : p.tables.exec = Jvm.exec) {k : Nat} {v : Value} {l' : Array Slot} (hd : decode c.code pc = .ok (.astore k, 2)) (hp : pc + 2 = q) (hv : v.isRef = true) (hl : storeLocals ls k v = some l') (K : Go p e below s Q ce sl T (mkF m q l' st)) : Go p e below s Q ce sl T (mkF m pc ls (v :: st)) := by
  subst hp
  exact K.to fun _ r => XS.astore X.here hx rfl hd rfl hv hl r
theorem go_astoreN (X : Stand p l e R s m args below meth c T locs cells slots) (hx : p.tables.exec = Jvm.exec) {k : Fin 4} {v : Value} {l' : Array Slot} (hd : decode c.code pc = .ok (.astore_n k, 1)) (hp : pc + 1 = q) (hv : v.isRef = true) (hl : storeLocals ls k.val v = some l') (K : Go p e below s Q ce sl T (mkF m q l' st)) : Go p e below s Q ce sl T (mkF m pc ls (v :: st)) := by
  subst hp
  exact K.to fun _ r => XS.astoreN X.here hx rfl hd rfl hv hl r
theorem go_iconst (X : Stand p l e R s m args below meth c T locs cells slots) (hx : p.tables.exec = Jvm.exec) {i : Int} {v : Int32} (hd : decode c.code pc = .ok (.iconst i, 1)) (hp : pc + 1 = q) (hv : Int32.ofInt i = v) (K : Go p e below s Q ce sl T (mkF m q ls (.int v :: st))) : Go p e below s Q ce sl T (mkF m pc ls st) := by
  subst hp
  exact K.to fun _ r => XS.iconst X.here hx rfl hd (hv ▸ r)
theorem go_bipush (X : Stand p l e R s m args below meth c T locs cells slots) (hx : p.tables.exec = Jvm.exec) {i : Int} {v : Int32} (hd : decode c.code pc = .ok (.bipush i, 2)) (hp : pc + 2 = q) (hv : (Int8.ofInt i).toInt32 = v) (K : Go p e below s Q ce sl T (mkF m q ls (.int v :: st))) : Go p e below s Q ce sl T (mkF m pc ls st) := by
  subst hp
  exact K.to fun _ r => XS.bipush X.here hx rfl hd (hv ▸ r)
theorem go_sipush (X : Stand p l e R s m args below meth c T locs cells slots) (hx : p.tables.exec = Jvm.exec) {i : Int} {v : Int32} (hd : decode c.code pc = .ok (.sipush i, 3)) (hp : pc + 3 = q) (hv : (Int16.ofInt i).toInt32 = v) (K : Go p e below s Q ce sl T (mkF m q ls (.int v :: st))) : Go p e below s Q ce sl T (mkF m pc ls st) := by
  subst hp
  exact K.to fun _ r => XS.sipush X.here hx rfl hd (hv ▸ r)
theorem go_lconst (X : Stand p l e R s m args below meth c T locs cells slots) (hx : p.tables.exec = Jvm.exec) {k : Fin 2} {v : Int64} (hd : decode c.code pc = .ok (.lconst k, 1)) (hp : pc + 1 = q) (hv : Int64.ofNat k = v) (K : Go p e below s Q ce sl T (mkF m q ls (.long v :: st))) : Go p e below s Q ce sl T (mkF m pc ls st) := by
  subst hp
  exact K.to fun _ r => XS.lconst X.here hx rfl hd (hv ▸ r)
theorem go_aconstNull (X : Stand p l e R s m args below meth c T locs cells slots) (hx : p.tables.exec = Jvm.exec)  (hd : decode c.code pc = .ok (.aconst_null, 1)) (hp : pc + 1 = q)  (K : Go p e below s Q ce sl T (mkF m q ls (.null :: st))) : Go p e below s Q ce sl T (mkF m pc ls st) := by
  subst hp
  exact K.to fun _ r => XS.aconstNull X.here hx rfl hd r
theorem go_dconst0 (X : Stand p l e R s m args below meth c T locs cells slots) (hx : p.tables.exec = Jvm.exec) {v : UInt64} (hd : decode c.code pc = .ok (.dconst 0, 1)) (hp : pc + 1 = q) (hv : FP.dconst0 = v) (K : Go p e below s Q ce sl T (mkF m q ls (.double v :: st))) : Go p e below s Q ce sl T (mkF m pc ls st) := by
  subst hp
  exact K.to fun _ r => XS.dconst0 X.here hx rfl hd hv r
theorem go_dconst1 (X : Stand p l e R s m args below meth c T locs cells slots) (hx : p.tables.exec = Jvm.exec) {v : UInt64} (hd : decode c.code pc = .ok (.dconst 1, 1)) (hp : pc + 1 = q) (hv : FP.dconst1 = v) (K : Go p e below s Q ce sl T (mkF m q ls (.double v :: st))) : Go p e below s Q ce sl T (mkF m pc ls st) := by
  subst hp
  exact K.to fun _ r => XS.dconst1 X.here hx rfl hd hv r
theorem go_iadd (X : Stand p l e R s m args below meth c T locs cells slots) (hx : p.tables.exec = Jvm.exec) {x y v : Int32} (hd : decode c.code pc = .ok (.iadd, 1)) (hp : pc + 1 = q) (hv : x + y = v) (K : Go p e below s Q ce sl T (mkF m q ls (.int v :: st))) : Go p e below s Q ce sl T (mkF m pc ls (.int y :: .int x :: st)) := by
  subst hp
  exact K.to fun _ r => XS.iadd X.here hx rfl hd rfl (hv ▸ r)
theorem go_isub (X : Stand p l e R s m args below meth c T locs cells slots) (hx : p.tables.exec = Jvm.exec) {x y v : Int32} (hd : decode c.code pc = .ok (.isub, 1)) (hp : pc + 1 = q) (hv : x - y = v) (K : Go p e below s Q ce sl T (mkF m q ls (.int v :: st))) : Go p e below s Q ce sl T (mkF m pc ls (.int y :: .int x :: st)) := by
  subst hp
  exact K.to fun _ r => XS.isub X.here hx rfl hd rfl (hv ▸ r)
theorem go_imul (X : Stand p l e R s m args below meth c T locs cells slots) (hx : p.tables.exec = Jvm.exec) {x y v : Int32} (hd : decode c.code pc = .ok (.imul, 1)) (hp : pc + 1 = q) (hv : x * y = v) (K : Go p e below s Q ce sl T (mkF m q ls (.int v :: st))) : Go p e below s Q ce sl T (mkF m pc ls (.int y :: .int x :: st)) := by
  subst hp
  exact K.to fun _ r => XS.imul X.here hx rfl hd rfl (hv ▸ r)
theorem go_iand (X : Stand p l e R s m args below meth c T locs cells slots) (hx : p.tables.exec = Jvm.exec) {x y v : Int32} (hd : decode c.code pc = .ok (.iand, 1)) (hp : pc + 1 = q) (hv : x &&& y = v) (K : Go p e below s Q ce sl T (mkF m q ls (.int v :: st))) : Go p e below s Q ce sl T (mkF m pc ls (.int y :: .int x :: st)) := by
  subst hp
  exact K.to fun _ r => XS.iand X.here hx rfl hd rfl (hv ▸ r)
theorem go_ior (X : Stand p l e R s m args below meth c T locs cells slots) (hx : p.tables.exec = Jvm.exec) {x y v : Int32} (hd : decode c.code pc = .ok (.ior, 1)) (hp : pc + 1 = q) (hv : x ||| y = v) (K : Go p e below s Q ce sl T (mkF m q ls (.int v :: st))) : Go p e below s Q ce sl T (mkF m pc ls (.int y :: .int x :: st)) := by
  subst hp
  exact K.to fun _ r => XS.ior X.here hx rfl hd rfl (hv ▸ r)
theorem go_ixor (X : Stand p l e R s m args below meth c T locs cells slots) (hx : p.tables.exec = Jvm.exec) {x y v : Int32} (hd : decode c.code pc = .ok (.ixor, 1)) (hp : pc + 1 = q) (hv : x ^^^ y = v) (K : Go p e below s Q ce sl T (mkF m q ls (.int v :: st))) : Go p e below s Q ce sl T (mkF m pc ls (.int y :: .int x :: st)) := by
  subst hp
  exact K.to fun _ r => XS.ixor X.here hx rfl hd rfl (hv ▸ r)
theorem go_ineg (X : Stand p l e R s m args below meth c T locs cells slots) (hx : p.tables.exec = Jvm.exec) {x v : Int32} (hd : decode c.code pc = .ok (.ineg, 1)) (hp : pc + 1 = q) (hv : -x = v) (K : Go p e below s Q ce sl T (mkF m q ls (.int v :: st))) : Go p e below s Q ce sl T (mkF m pc ls (.int x :: st)) := by
  subst hp
  exact K.to fun _ r => XS.ineg X.here hx rfl hd rfl (hv ▸ r)
theorem go_idiv (X : Stand p l e R s m args below meth c T locs cells slots) (hx : p.tables.exec = Jvm.exec) {x y v : Int32} (hd : decode c.code pc = .ok (.idiv, 1)) (hp : pc + 1 = q) (hy : y ≠ 0) (hv : x / y = v) (K : Go p e below s Q ce sl T (mkF m q ls (.int v :: st))) : Go p e below s Q ce sl T (mkF m pc ls (.int y :: .int x :: st)) := by
  subst hp
  exact K.to fun _ r => XS.idiv X.here hx rfl hd rfl hy (hv ▸ r)
theorem go_ladd (X : Stand p l e R s m args below meth c T locs cells slots) (hx : p.tables.exec = Jvm.exec) {x y v : Int64} (hd : decode c.code pc = .ok (.ladd, 1)) (hp : pc + 1 = q) (hv : x + y = v) (K : Go p e below s Q ce sl T (mkF m q ls (.long v :: st))) : Go p e below s Q ce sl T (mkF m pc ls (.long y :: .long x :: st)) := by
  subst hp
  exact K.to fun _ r => XS.ladd X.here hx rfl hd rfl (hv ▸ r)
theorem go_lsub (X : Stand p l e R s m args below meth c T locs cells slots) (hx : p.tables.exec = Jvm.exec) {x y v : Int64} (hd : decode c.code pc = .ok (.lsub, 1)) (hp : pc + 1 = q) (hv : x - y = v) (K : Go p e below s Q ce sl T (mkF m q ls (.long v :: st))) : Go p e below s Q ce sl T (mkF m pc ls (.long y :: .long x :: st)) := by
  subst hp
  exact K.to fun _ r => XS.lsub X.here hx rfl hd rfl (hv ▸ r)
theorem go_lmul (X : Stand p l e R s m args below meth c T locs cells slots) (hx : p.tables.exec = Jvm.exec) {x y v : Int64} (hd : decode c.code pc = .ok (.lmul, 1)) (hp : pc + 1 = q) (hv : x * y = v) (K : Go p e below s Q ce sl T (mkF m q ls (.long v :: st))) : Go p e below s Q ce sl T (mkF m pc ls (.long y :: .long x :: st)) := by
  subst hp
  exact K.to fun _ r => XS.lmul X.here hx rfl hd rfl (hv ▸ r)
theorem go_land (X : Stand p l e R s m args below meth c T locs cells slots) (hx : p.tables.exec = Jvm.exec) {x y v : Int64} (hd : decode c.code pc = .ok (.land, 1)) (hp : pc + 1 = q) (hv : x &&& y = v) (K : Go p e below s Q ce sl T (mkF m q ls (.long v :: st))) : Go p e below s Q ce sl T (mkF m pc ls (.long y :: .long x :: st)) := by
  subst hp
  exact K.to fun _ r => XS.land X.here hx rfl hd rfl (hv ▸ r)
theorem go_lor (X : Stand p l e R s m args below meth c T locs cells slots) (hx : p.tables.exec = Jvm.exec) {x y v : Int64} (hd : decode c.code pc = .ok (.lor, 1)) (hp : pc + 1 = q) (hv : x ||| y = v) (K : Go p e below s Q ce sl T (mkF m q ls (.long v :: st))) : Go p e below s Q ce sl T (mkF m pc ls (.long y :: .long x :: st)) := by
  subst hp
  exact K.to fun _ r => XS.lor X.here hx rfl hd rfl (hv ▸ r)
theorem go_lxor (X : Stand p l e R s m args below meth c T locs cells slots) (hx : p.tables.exec = Jvm.exec) {x y v : Int64} (hd : decode c.code pc = .ok (.lxor, 1)) (hp : pc + 1 = q) (hv : x ^^^ y = v) (K : Go p e below s Q ce sl T (mkF m q ls (.long v :: st))) : Go p e below s Q ce sl T (mkF m pc ls (.long y :: .long x :: st)) := by
  subst hp
  exact K.to fun _ r => XS.lxor X.here hx rfl hd rfl (hv ▸ r)
theorem go_lneg (X : Stand p l e R s m args below meth c T locs cells slots) (hx : p.tables.exec = Jvm.exec) {x v : Int64} (hd : decode c.code pc = .ok (.lneg, 1)) (hp : pc + 1 = q) (hv : -x = v) (K : Go p e below s Q ce sl T (mkF m q ls (.long v :: st))) : Go p e below s Q ce sl T (mkF m pc ls (.long x :: st)) := by
  subst hp
  exact K.to fun _ r => XS.lneg X.here hx rfl hd rfl (hv ▸ r)
theorem go_ldiv (X : Stand p l e R s m args below meth c T locs cells slots) (hx : p.tables.exec = Jvm.exec) {x y v : Int64} (hd : decode c.code pc = .ok (.ldiv, 1)) (hp : pc + 1 = q) (hy : y ≠ 0) (hv : x / y = v) (K : Go p e below s Q ce sl T (mkF m q ls (.long v :: st))) : Go p e below s Q ce sl T (mkF m pc ls (.long y :: .long x :: st)) := by
  subst hp
  exact K.to fun _ r => XS.ldiv X.here hx rfl hd rfl hy (hv ▸ r)
theorem go_irem (X : Stand p l e R s m args below meth c T locs cells slots) (hx : p.tables.exec = Jvm.exec) {x y v : Int32} (hd : decode c.code pc = .ok (.irem, 1)) (hp : pc + 1 = q) (hy : y ≠ 0) (hv : x % y = v) (K : Go p e below s Q ce sl T (mkF m q ls (.int v :: st))) : Go p e below s Q ce sl T (mkF m pc ls (.int y :: .int x :: st)) := by
  subst hp
  exact K.to fun _ r => iremM X hx rfl hd rfl hy (hv ▸ r)
theorem go_lrem (X : Stand p l e R s m args below meth c T locs cells slots) (hx : p.tables.exec = Jvm.exec) {x y v : Int64} (hd : decode c.code pc = .ok (.lrem, 1)) (hp : pc + 1 = q) (hy : y ≠ 0) (hv : x % y = v) (K : Go p e below s Q ce sl T (mkF m q ls (.long v :: st))) : Go p e below s Q ce sl T (mkF m pc ls (.long y :: .long x :: st)) := by
  subst hp
  exact K.to fun _ r => XS.lrem X.here hx rfl hd rfl hy ((lrem_mod x y).symm ▸ hv ▸ r)
theorem go_ishl (X : Stand p l e R s m args below meth c T locs cells slots) (hx : p.tables.exec = Jvm.exec) {x v : Int32} {y : Int32} (hd : decode c.code pc = .ok (.ishl, 1)) (hp : pc + 1 = q) (hv : (x <<< (y &&& 31)) = v) (K : Go p e below s Q ce sl T (mkF m q ls (.int v :: st))) : Go p e below s Q ce sl T (mkF m pc ls (.int y :: .int x :: st)) := by
  subst hp
  exact K.to fun _ r => XS.ishl X.here hx rfl hd rfl (hv ▸ r)
theorem go_ishr (X : Stand p l e R s m args below meth c T locs cells slots) (hx : p.tables.exec = Jvm.exec) {x v : Int32} {y : Int32} (hd : decode c.code pc = .ok (.ishr, 1)) (hp : pc + 1 = q) (hv : (x >>> (y &&& 31)) = v) (K : Go p e below s Q ce sl T (mkF m q ls (.int v :: st))) : Go p e below s Q ce sl T (mkF m pc ls (.int y :: .int x :: st)) := by
  subst hp
  exact K.to fun _ r => XS.ishr X.here hx rfl hd rfl (hv ▸ r)
theorem go_iushr (X : Stand p l e R s m args below meth c T locs cells slots) (hx : p.tables.exec = Jvm.exec) {x v : Int32} {y : Int32} (hd : decode c.code pc = .ok (.iushr, 1)) (hp : pc + 1 = q) (hv : ((x.toUInt32 >>> (y &&& 31).toUInt32).toInt32) = v) (K : Go p e below s Q ce sl T (mkF m q ls (.int v :: st))) : Go p e below s Q ce sl T (mkF m pc ls (.int y :: .int x :: st)) := by
  subst hp
  exact K.to fun _ r => XS.iushr X.here hx rfl hd rfl (hv ▸ r)
theorem go_lshl (X : Stand p l e R s m args below meth c T locs cells slots) (hx : p.tables.exec = Jvm.exec) {x v : Int64} {y : Int32} (hd : decode c.code pc = .ok (.lshl, 1)) (hp : pc + 1 = q) (hv : (x <<< (y &&& 0x3f).toInt64) = v) (K : Go p e below s Q ce sl T (mkF m q ls (.long v :: st))) : Go p e below s Q ce sl T (mkF m pc ls (.int y :: .long x :: st)) := by
  subst hp
  exact K.to fun _ r => XS.lshl X.here hx rfl hd rfl (hv ▸ r)
theorem go_lshr (X : Stand p l e R s m args below meth c T locs cells slots) (hx : p.tables.exec = Jvm.exec) {x v : Int64} {y : Int32} (hd : decode c.code pc = .ok (.lshr, 1)) (hp : pc + 1 = q) (hv : (x >>> (y &&& 0x3f).toInt64) = v) (K : Go p e below s Q ce sl T (mkF m q ls (.long v :: st))) : Go p e below s Q ce sl T (mkF m pc ls (.int y :: .long x :: st)) := by
  subst hp
  exact K.to fun _ r => XS.lshr X.here hx rfl hd rfl (hv ▸ r)
theorem go_lushr (X : Stand p l e R s m args below meth c T locs cells slots) (hx : p.tables.exec = Jvm.exec) {x v : Int64} {y : Int32} (hd : decode c.code pc = .ok (.lushr, 1)) (hp : pc + 1 = q) (hv : ((x.toUInt64 >>> (y &&& 0x3f).toInt64.toUInt64).toInt64) = v) (K : Go p e below s Q ce sl T (mkF m q ls (.long v :: st))) : Go p e below s Q ce sl T (mkF m pc ls (.int y :: .long x :: st)) := by
  subst hp
  exact K.to fun _ r => XS.lushr X.here hx rfl hd rfl (hv ▸ r)
theorem go_i2l (X : Stand p l e R s m args below meth c T locs cells slots) (hx : p.tables.exec = Jvm.exec) {x : Int32} {v : Int64} (hd : decode c.code pc = .ok (.i2l, 1)) (hp : pc + 1 = q) (hv : x.toInt64 = v) (K : Go p e below s Q ce sl T (mkF m q ls (.long v :: st))) : Go p e below s Q ce sl T (mkF m pc ls (.int x :: st)) := by
  subst hp
  exact K.to fun _ r => XS.i2l X.here hx rfl hd rfl (hv ▸ r)
theorem go_l2i (X : Stand p l e R s m args below meth c T locs cells slots) (hx : p.tables.exec = Jvm.exec) {x : Int64} {v : Int32} (hd : decode c.code pc = .ok (.l2i, 1)) (hp : pc + 1 = q) (hv : x.toInt32 = v) (K : Go p e below s Q ce sl T (mkF m q ls (.int v :: st))) : Go p e below s Q ce sl T (mkF m pc ls (.long x :: st)) := by
  subst hp
  exact K.to fun _ r => XS.l2i X.here hx rfl hd rfl (hv ▸ r)
theorem go_i2b (X : Stand p l e R s m args below meth c T locs cells slots) (hx : p.tables.exec = Jvm.exec) {x : Int32} {v : Int32} (hd : decode c.code pc = .ok (.i2b, 1)) (hp : pc + 1 = q) (hv : x.toInt8.toInt32 = v) (K : Go p e below s Q ce sl T (mkF m q ls (.int v :: st))) : Go p e below s Q ce sl T (mkF m pc ls (.int x :: st)) := by
  subst hp
  exact K.to fun _ r => XS.i2b X.here hx rfl hd rfl (hv ▸ r)
theorem go_i2s (X : Stand p l e R s m args below meth c T locs cells slots) (hx : p.tables.exec = Jvm.exec) {x : Int32} {v : Int32} (hd : decode c.code pc = .ok (.i2s, 1)) (hp : pc + 1 = q) (hv : x.toInt16.toInt32 = v) (K : Go p e below s Q ce sl T (mkF m q ls (.int v :: st))) : Go p e below s Q ce sl T (mkF m pc ls (.int x :: st)) := by
  subst hp
  exact K.to fun _ r => XS.i2s X.here hx rfl hd rfl (hv ▸ r)
theorem go_i2c (X : Stand p l e R s m args below meth c T locs cells slots) (hx : p.tables.exec = Jvm.exec) {x : Int32} {v : Int32} (hd : decode c.code pc = .ok (.i2c, 1)) (hp : pc + 1 = q) (hv : x.toUInt32.toUInt16.toUInt32.toInt32 = v) (K : Go p e below s Q ce sl T (mkF m q ls (.int v :: st))) : Go p e below s Q ce sl T (mkF m pc ls (.int x :: st)) := by
  subst hp
  exact K.to fun _ r => XS.i2c X.here hx rfl hd rfl (hv ▸ r)
theorem go_lcmp (X : Stand p l e R s m args below meth c T locs cells slots) (hx : p.tables.exec = Jvm.exec) {x y : Int64} (hd : decode c.code pc = .ok (.lcmp, 1)) (hp : pc + 1 = q)  (K : Go p e below s Q ce sl T (mkF m q ls (.int (lcmpW x y) :: st))) : Go p e below s Q ce sl T (mkF m pc ls (.long y :: .long x :: st)) := by
  subst hp
  exact K.to fun _ r => XS.lcmp X.here hx rfl hd rfl r
theorem go_i2d (X : Stand p l e R s m args below meth c T locs cells slots) (hx : p.tables.exec = Jvm.exec) {x : Int32} {v : UInt64} (hd : decode c.code pc = .ok (.i2d, 1)) (hp : pc + 1 = q) (hv : FP.i2d x = v) (K : Go p e below s Q ce sl T (mkF m q ls (.double v :: st))) : Go p e below s Q ce sl T (mkF m pc ls (.int x :: st)) := by
  subst hp
  exact K.to fun _ r => XS.i2dS X.here hx rfl hd rfl hv r
theorem go_l2d (X : Stand p l e R s m args below meth c T locs cells slots) (hx : p.tables.exec = Jvm.exec) {x : Int64} {v : UInt64} (hd : decode c.code pc = .ok (.l2d, 1)) (hp : pc + 1 = q) (hv : FP.l2d x = v) (K : Go p e below s Q ce sl T (mkF m q ls (.double v :: st))) : Go p e below s Q ce sl T (mkF m pc ls (.long x :: st)) := by
  subst hp
  exact K.to fun _ r => XS.l2dS X.here hx rfl hd rfl hv r
theorem go_d2l (X : Stand p l e R s m args below meth c T locs cells slots) (hx : p.tables.exec = Jvm.exec) {x : UInt64} {v : Int64} (hd : decode c.code pc = .ok (.d2l, 1)) (hp : pc + 1 = q) (hv : FP.d2l x = v) (K : Go p e below s Q ce sl T (mkF m q ls (.long v :: st))) : Go p e below s Q ce sl T (mkF m pc ls (.double x :: st)) := by
  subst hp
  exact K.to fun _ r => XS.d2lS X.here hx rfl hd rfl hv r
theorem go_i2f (X : Stand p l e R s m args below meth c T locs cells slots) (hx : p.tables.exec = Jvm.exec) {x : Int32} {v : UInt32} (hd : decode c.code pc = .ok (.i2f, 1)) (hp : pc + 1 = q) (hv : FP.i2f x = v) (K : Go p e below s Q ce sl T (mkF m q ls (.float v :: st))) : Go p e below s Q ce sl T (mkF m pc ls (.int x :: st)) := by
  subst hp
  exact K.to fun _ r => XS.i2fS X.here hx rfl hd rfl hv r
theorem go_f2d (X : Stand p l e R s m args below meth c T locs cells slots) (hx : p.tables.exec = Jvm.exec) {x : UInt32} {v : UInt64} (hd : decode c.code pc = .ok (.f2d, 1)) (hp : pc + 1 = q) (hn : Jvm.Free.Fl.NoNaN64 (FP.f2d x)) (hv : FP.f2d x = v) (K : Go p e below s Q ce sl T (mkF m q ls (.double v :: st))) : Go p e below s Q ce sl T (mkF m pc ls (.float x :: st)) := by
  subst hp
  exact K.to fun _ r => XS.f2dS X.here hx rfl hd rfl hn hv r
theorem go_dcmp (X : Stand p l e R s m args below meth c T locs cells slots) (hx : p.tables.exec = Jvm.exec) {o : CmpOp} {x y : UInt64} {v : Int32} (hd : decode c.code pc = .ok (.dcmp o, 1)) (hp : pc + 1 = q) (hv : cmpValue (FP.dcmp x y) o = v) (K : Go p e below s Q ce sl T (mkF m q ls (.int v :: st))) : Go p e below s Q ce sl T (mkF m pc ls (.double y :: .double x :: st)) := by
  subst hp
  exact K.to fun _ r => XS.dcmpS X.here hx rfl hd rfl hv r
theorem go_dadd (X : Stand p l e R s m args below meth c T locs cells slots) (hx : p.tables.exec = Jvm.exec) {x y v : UInt64} (hd : decode c.code pc = .ok (.dadd, 1)) (hp : pc + 1 = q) (hn : Jvm.Free.Fl.NoNaN64 (FP.dadd x y)) (hv : FP.dadd x y = v) (K : Go p e below s Q ce sl T (mkF m q ls (.double v :: st))) : Go p e below s Q ce sl T (mkF m pc ls (.double y :: .double x :: st)) := by
  subst hp
  exact K.to fun _ r => XS.daddS X.here hx rfl hd rfl hn hv r
theorem go_dsub (X : Stand p l e R s m args below meth c T locs cells slots) (hx : p.tables.exec = Jvm.exec) {x y v : UInt64} (hd : decode c.code pc = .ok (.dsub, 1)) (hp : pc + 1 = q) (hn : Jvm.Free.Fl.NoNaN64 (FP.dsub x y)) (hv : FP.dsub x y = v) (K : Go p e below s Q ce sl T (mkF m q ls (.double v :: st))) : Go p e below s Q ce sl T (mkF m pc ls (.double y :: .double x :: st)) := by
  subst hp
  exact K.to fun _ r => XS.dsubS X.here hx rfl hd rfl hn hv r
theorem go_dmul (X : Stand p l e R s m args below meth c T locs cells slots) (hx : p.tables.exec = Jvm.exec) {x y v : UInt64} (hd : decode c.code pc = .ok (.dmul, 1)) (hp : pc + 1 = q) (hn : Jvm.Free.Fl.NoNaN64 (FP.dmul x y)) (hv : FP.dmul x y = v) (K : Go p e below s Q ce sl T (mkF m q ls (.double v :: st))) : Go p e below s Q ce sl T (mkF m pc ls (.double y :: .double x :: st)) := by
  subst hp
  exact K.to fun _ r => XS.dmulS X.here hx rfl hd rfl hn hv r
theorem go_ddiv (X : Stand p l e R s m args below meth c T locs cells slots) (hx : p.tables.exec = Jvm.exec) {x y v : UInt64} (hd : decode c.code pc = .ok (.ddiv, 1)) (hp : pc + 1 = q) (hn : Jvm.Free.Fl.NoNaN64 (FP.ddiv x y)) (hv : FP.ddiv x y = v) (K : Go p e below s Q ce sl T (mkF m q ls (.double v :: st))) : Go p e below s Q ce sl T (mkF m pc ls (.double y :: .double x :: st)) := by
  subst hp
  exact K.to fun _ r => XS.ddivS X.here hx rfl hd rfl hn hv r
theorem go_dup (X : Stand p l e R s m args below meth c T locs cells slots) (hx : p.tables.exec = Jvm.exec) {v : Value} (hd : decode c.code pc = .ok (.dup, 1)) (hp : pc + 1 = q) (hv : v.category = 1) (K : Go p e below s Q ce sl T (mkF m q ls (v :: v :: st))) : Go p e below s Q ce sl T (mkF m pc ls (v :: st)) := by
  subst hp
  exact K.to fun _ r => XS.dup X.here hx rfl hd rfl hv r
theorem go_pop (X : Stand p l e R s m args below meth c T locs cells slots) (hx : p.tables.exec = Jvm.exec) {v : Value} (hd : decode c.code pc = .ok (.pop, 1)) (hp : pc + 1 = q) (hv : v.category = 1) (K : Go p e below s Q ce sl T (mkF m q ls st)) : Go p e below s Q ce sl T (mkF m pc ls (v :: st)) := by
  subst hp
  exact K.to fun _ r => XS.pop X.here hx rfl hd rfl hv r
theorem go_iinc (X : Stand p l e R s m args below meth c T locs cells slots) (hx : p.tables.exec = Jvm.exec) {k : Nat} {i : Int} {v : Int32} {l' : Array Slot} (hd : decode c.code pc = .ok (.iinc k i, 3)) (hp : pc + 3 = q) (hl : ls[k]? = some (.val (.int v))) (hs : storeLocals ls k (.int (v + Int32.ofInt i)) = some l') (K : Go p e below s Q ce sl T (mkF m q l' st)) : Go p e below s Q ce sl T (mkF m pc ls st) := by
  subst hp
  exact K.to fun _ r => XS.iinc X.here hx rfl hd hl hs r
theorem go_goto (X : Stand p l e R s m args below meth c T locs cells slots) (hx : p.tables.exec = Jvm.exec) {o : Int} (hd : decode c.code pc = .ok (.goto o, 3)) (ho : 0 ≤ (pc : Int) + o) (hq : ((pc : Int) + o).toNat = q) (K : Go p e below s Q ce sl T (mkF m q ls st)) : Go p e below s Q ce sl T (mkF m pc ls st) :=
  K.to fun _ r => XS.goto X.here hx rfl (pc0 := pc) rfl hd ho hq r
theorem go_icmp_lt (X : Stand p l e R s m args below meth c T locs cells slots) (hx : p.tables.exec = Jvm.exec) {x y : Int32} {o : Int} (hd : decode c.code pc = .ok (.if_icmp .lt o, 3)) (hp : pc + 3 = q) (ho : 0 ≤ (pc : Int) + o) (hq : ((pc : Int) + o).toNat = q') (KY : x < y → Go p e below s Q ce sl T (mkF m q' ls st)) (KN : ¬ x < y → Go p e below s Q ce sl T (mkF m q ls st)) : Go p e below s Q ce sl T (mkF m pc ls (.int y :: .int x :: st)) := by
  subst hp
  by_cases hc : x < y
  · exact (KY hc).to fun _ r => XS.icmpYes X.here hx rfl (pc0 := pc) rfl hd rfl (tlt hc).1 ho hq r
  · exact (KN hc).to fun _ r => XS.icmpNo X.here hx rfl hd rfl (flt hc).1 r
theorem go_if_lt (X : Stand p l e R s m args below meth c T locs cells slots) (hx : p.tables.exec = Jvm.exec) {x : Int32} {o : Int} (hd : decode c.code pc = .ok (.ifCond .lt o, 3)) (hp : pc + 3 = q) (ho : 0 ≤ (pc : Int) + o) (hq : ((pc : Int) + o).toNat = q') (KY : x < (0 : Int32) → Go p e below s Q ce sl T (mkF m q' ls st)) (KN : ¬ x < (0 : Int32) → Go p e below s Q ce sl T (mkF m q ls st)) : Go p e below s Q ce sl T (mkF m pc ls (.int x :: st)) := by
  subst hp
  by_cases hc : x < (0 : Int32)
  · exact (KY hc).to fun _ r => XS.ifYes X.here hx rfl (pc0 := pc) rfl hd rfl ((if0 _ _).trans (tlt hc).1) ho hq r
  · exact (KN hc).to fun _ r => XS.ifNo X.here hx rfl hd rfl ((if0 _ _).trans (flt hc).1) r
theorem go_lif_lt (X : Stand p l e R s m args below meth c T locs cells slots) (hx : p.tables.exec = Jvm.exec) {a b : Int64} {o : Int} (hd : decode c.code pc = .ok (.ifCond .lt o, 3)) (hp : pc + 3 = q) (ho : 0 ≤ (pc : Int) + o) (hq : ((pc : Int) + o).toNat = q') (KY : a < b → Go p e below s Q ce sl T (mkF m q' ls st)) (KN : ¬ a < b → Go p e below s Q ce sl T (mkF m q ls st)) : Go p e below s Q ce sl T (mkF m pc ls (.int (lcmpW a b) :: st)) :=
  go_if_lt X hx hd hp ho hq (fun w => KY ((lw_lt _ _).mp w)) (fun w => KN (fun z => w ((lw_lt _ _).mpr z)))
theorem go_icmp_ge (X : Stand p l e R s m args below meth c T locs cells slots) (hx : p.tables.exec = Jvm.exec) {x y : Int32} {o : Int} (hd : decode c.code pc = .ok (.if_icmp .ge o, 3)) (hp : pc + 3 = q) (ho : 0 ≤ (pc : Int) + o) (hq : ((pc : Int) + o).toNat = q') (KY : ¬ x < y → Go p e below s Q ce sl T (mkF m q' ls st)) (KN : x < y → Go p e below s Q ce sl T (mkF m q ls st)) : Go p e below s Q ce sl T (mkF m pc ls (.int y :: .int x :: st)) := by
  subst hp
  by_cases hc : x < y
  · exact (KN hc).to fun _ r => XS.icmpNo X.here hx rfl hd rfl (tlt hc).2.1 r
  · exact (KY hc).to fun _ r => XS.icmpYes X.here hx rfl (pc0 := pc) rfl hd rfl (flt hc).2.1 ho hq r
theorem go_if_ge (X : Stand p l e R s m args below meth c T locs cells slots) (hx : p.tables.exec = Jvm.exec) {x : Int32} {o : Int} (hd : decode c.code pc = .ok (.ifCond .ge o, 3)) (hp : pc + 3 = q) (ho : 0 ≤ (pc : Int) + o) (hq : ((pc : Int) + o).toNat = q') (KY : ¬ x < (0 : Int32) → Go p e below s Q ce sl T (mkF m q' ls st)) (KN : x < (0 : Int32) → Go p e below s Q ce sl T (mkF m q ls st)) : Go p e below s Q ce sl T (mkF m pc ls (.int x :: st)) := by
  subst hp
  by_cases hc : x < (0 : Int32)
  · exact (KN hc).to fun _ r => XS.ifNo X.here hx rfl hd rfl ((if0 _ _).trans (tlt hc).2.1) r
  · exact (KY hc).to fun _ r => XS.ifYes X.here hx rfl (pc0 := pc) rfl hd rfl ((if0 _ _).trans (flt hc).2.1) ho hq r
theorem go_lif_ge (X : Stand p l e R s m args below meth c T locs cells slots) (hx : p.tables.exec = Jvm.exec) {a b : Int64} {o : Int} (hd : decode c.code pc = .ok (.ifCond .ge o, 3)) (hp : pc + 3 = q) (ho : 0 ≤ (pc : Int) + o) (hq : ((pc : Int) + o).toNat = q') (KY : ¬ a < b → Go p e below s Q ce sl T (mkF m q' ls st)) (KN : a < b → Go p e below s Q ce sl T (mkF m q ls st)) : Go p e below s Q ce sl T (mkF m pc ls (.int (lcmpW a b) :: st)) :=
  go_if_ge X hx hd hp ho hq (fun w => KY (fun z => w ((lw_lt _ _).mpr z))) (fun w => KN ((lw_lt _ _).mp w))
theorem go_icmp_gt (X : Stand p l e R s m args below meth c T locs cells slots) (hx : p.tables.exec = Jvm.exec) {x y : Int32} {o : Int} (hd : decode c.code pc = .ok (.if_icmp .gt o, 3)) (hp : pc + 3 = q) (ho : 0 ≤ (pc : Int) + o) (hq : ((pc : Int) + o).toNat = q') (KY : y < x → Go p e below s Q ce sl T (mkF m q' ls st)) (KN : ¬ y < x → Go p e below s Q ce sl T (mkF m q ls st)) : Go p e below s Q ce sl T (mkF m pc ls (.int y :: .int x :: st)) := by
  subst hp
  by_cases hc : y < x
  · exact (KY hc).to fun _ r => XS.icmpYes X.here hx rfl (pc0 := pc) rfl hd rfl (tlt hc).2.2.1 ho hq r
  · exact (KN hc).to fun _ r => XS.icmpNo X.here hx rfl hd rfl (flt hc).2.2.1 r
theorem go_if_gt (X : Stand p l e R s m args below meth c T locs cells slots) (hx : p.tables.exec = Jvm.exec) {x : Int32} {o : Int} (hd : decode c.code pc = .ok (.ifCond .gt o, 3)) (hp : pc + 3 = q) (ho : 0 ≤ (pc : Int) + o) (hq : ((pc : Int) + o).toNat = q') (KY : (0 : Int32) < x → Go p e below s Q ce sl T (mkF m q' ls st)) (KN : ¬ (0 : Int32) < x → Go p e below s Q ce sl T (mkF m q ls st)) : Go p e below s Q ce sl T (mkF m pc ls (.int x :: st)) := by
  subst hp
  by_cases hc : (0 : Int32) < x
  · exact (KY hc).to fun _ r => XS.ifYes X.here hx rfl (pc0 := pc) rfl hd rfl ((if0 _ _).trans (tlt hc).2.2.1) ho hq r
  · exact (KN hc).to fun _ r => XS.ifNo X.here hx rfl hd rfl ((if0 _ _).trans (flt hc).2.2.1) r
theorem go_lif_gt (X : Stand p l e R s m args below meth c T locs cells slots) (hx : p.tables.exec = Jvm.exec) {a b : Int64} {o : Int} (hd : decode c.code pc = .ok (.ifCond .gt o, 3)) (hp : pc + 3 = q) (ho : 0 ≤ (pc : Int) + o) (hq : ((pc : Int) + o).toNat = q') (KY : b < a → Go p e below s Q ce sl T (mkF m q' ls st)) (KN : ¬ b < a → Go p e below s Q ce sl T (mkF m q ls st)) : Go p e below s Q ce sl T (mkF m pc ls (.int (lcmpW a b) :: st)) :=
  go_if_gt X hx hd hp ho hq (fun w => KY ((lw_gt _ _).mp w)) (fun w => KN (fun z => w ((lw_gt _ _).mpr z)))
theorem go_icmp_le (X : Stand p l e R s m args below meth c T locs cells slots) (hx : p.tables.exec = Jvm.exec) {x y : Int32} {o : Int} (hd : decode c.code pc = .ok (.if_icmp .le o, 3)) (hp : pc + 3 = q) (ho : 0 ≤ (pc : Int) + o) (hq : ((pc : Int) + o).toNat = q') (KY : ¬ y < x → Go p e below s Q ce sl T (mkF m q' ls st)) (KN : y < x → Go p e below s Q ce sl T (mkF m q ls st)) : Go p e below s Q ce sl T (mkF m pc ls (.int y :: .int x :: st)) := by
  subst hp
  by_cases hc : y < x
  · exact (KN hc).to fun _ r => XS.icmpNo X.here hx rfl hd rfl (tlt hc).2.2.2 r
  · exact (KY hc).to fun _ r => XS.icmpYes X.here hx rfl (pc0 := pc) rfl hd rfl (flt hc).2.2.2 ho hq r
theorem go_if_le (X : Stand p l e R s m args below meth c T locs cells slots) (hx : p.tables.exec = Jvm.exec) {x : Int32} {o : Int} (hd : decode c.code pc = .ok (.ifCond .le o, 3)) (hp : pc + 3 = q) (ho : 0 ≤ (pc : Int) + o) (hq : ((pc : Int) + o).toNat = q') (KY : ¬ (0 : Int32) < x → Go p e below s Q ce sl T (mkF m q' ls st)) (KN : (0 : Int32) < x → Go p e below s Q ce sl T (mkF m q ls st)) : Go p e below s Q ce sl T (mkF m pc ls (.int x :: st)) := by
  subst hp
  by_cases hc : (0 : Int32) < x
  · exact (KN hc).to fun _ r => XS.ifNo X.here hx rfl hd rfl ((if0 _ _).trans (tlt hc).2.2.2) r
  · exact (KY hc).to fun _ r => XS.ifYes X.here hx rfl (pc0 := pc) rfl hd rfl ((if0 _ _).trans (flt hc).2.2.2) ho hq r
theorem go_lif_le (X : Stand p l e R s m args below meth c T locs cells slots) (hx : p.tables.exec = Jvm.exec) {a b : Int64} {o : Int} (hd : decode c.code pc = .ok (.ifCond .le o, 3)) (hp : pc + 3 = q) (ho : 0 ≤ (pc : Int) + o) (hq : ((pc : Int) + o).toNat = q') (KY : ¬ b < a → Go p e below s Q ce sl T (mkF m q' ls st)) (KN : b < a → Go p e below s Q ce sl T (mkF m q ls st)) : Go p e below s Q ce sl T (mkF m pc ls (.int (lcmpW a b) :: st)) :=
  go_if_le X hx hd hp ho hq (fun w => KY (fun z => w ((lw_gt _ _).mpr z))) (fun w => KN ((lw_gt _ _).mp w))
theorem go_icmp_eq (X : Stand p l e R s m args below meth c T locs cells slots) (hx : p.tables.exec = Jvm.exec) {x y : Int32} {o : Int} (hd : decode c.code pc = .ok (.if_icmp .eq o, 3)) (hp : pc + 3 = q) (ho : 0 ≤ (pc : Int) + o) (hq : ((pc : Int) + o).toNat = q') (KY : x = y → Go p e below s Q ce sl T (mkF m q' ls st)) (KN : ¬ x = y → Go p e below s Q ce sl T (mkF m q ls st)) : Go p e below s Q ce sl T (mkF m pc ls (.int y :: .int x :: st)) := by
  subst hp
  by_cases hc : x = y
  · exact (KY hc).to fun _ r => XS.icmpYes X.here hx rfl (pc0 := pc) rfl hd rfl (teq hc).1 ho hq r
  · exact (KN hc).to fun _ r => XS.icmpNo X.here hx rfl hd rfl (feq hc).1 r
theorem go_if_eq (X : Stand p l e R s m args below meth c T locs cells slots) (hx : p.tables.exec = Jvm.exec) {x : Int32} {o : Int} (hd : decode c.code pc = .ok (.ifCond .eq o, 3)) (hp : pc + 3 = q) (ho : 0 ≤ (pc : Int) + o) (hq : ((pc : Int) + o).toNat = q') (KY : x = (0 : Int32) → Go p e below s Q ce sl T (mkF m q' ls st)) (KN : ¬ x = (0 : Int32) → Go p e below s Q ce sl T (mkF m q ls st)) : Go p e below s Q ce sl T (mkF m pc ls (.int x :: st)) := by
  subst hp
  by_cases hc : x = (0 : Int32)
  · exact (KY hc).to fun _ r => XS.ifYes X.here hx rfl (pc0 := pc) rfl hd rfl ((if0 _ _).trans (teq hc).1) ho hq r
  · exact (KN hc).to fun _ r => XS.ifNo X.here hx rfl hd rfl ((if0 _ _).trans (feq hc).1) r
theorem go_lif_eq (X : Stand p l e R s m args below meth c T locs cells slots) (hx : p.tables.exec = Jvm.exec) {a b : Int64} {o : Int} (hd : decode c.code pc = .ok (.ifCond .eq o, 3)) (hp : pc + 3 = q) (ho : 0 ≤ (pc : Int) + o) (hq : ((pc : Int) + o).toNat = q') (KY : a = b → Go p e below s Q ce sl T (mkF m q' ls st)) (KN : ¬ a = b → Go p e below s Q ce sl T (mkF m q ls st)) : Go p e below s Q ce sl T (mkF m pc ls (.int (lcmpW a b) :: st)) :=
  go_if_eq X hx hd hp ho hq (fun w => KY ((lw_eq _ _).mp w)) (fun w => KN (fun z => w ((lw_eq _ _).mpr z)))
theorem go_icmp_ne (X : Stand p l e R s m args below meth c T locs cells slots) (hx : p.tables.exec = Jvm.exec) {x y : Int32} {o : Int} (hd : decode c.code pc = .ok (.if_icmp .ne o, 3)) (hp : pc + 3 = q) (ho : 0 ≤ (pc : Int) + o) (hq : ((pc : Int) + o).toNat = q') (KY : ¬ x = y → Go p e below s Q ce sl T (mkF m q' ls st)) (KN : x = y → Go p e below s Q ce sl T (mkF m q ls st)) : Go p e below s Q ce sl T (mkF m pc ls (.int y :: .int x :: st)) := by
  subst hp
  by_cases hc : x = y
  · exact (KN hc).to fun _ r => XS.icmpNo X.here hx rfl hd rfl (teq hc).2 r
  · exact (KY hc).to fun _ r => XS.icmpYes X.here hx rfl (pc0 := pc) rfl hd rfl (feq hc).2 ho hq r
theorem go_if_ne (X : Stand p l e R s m args below meth c T locs cells slots) (hx : p.tables.exec = Jvm.exec) {x : Int32} {o : Int} (hd : decode c.code pc = .ok (.ifCond .ne o, 3)) (hp : pc + 3 = q) (ho : 0 ≤ (pc : Int) + o) (hq : ((pc : Int) + o).toNat = q') (KY : ¬ x = (0 : Int32) → Go p e below s Q ce sl T (mkF m q' ls st)) (KN : x = (0 : Int32) → Go p e below s Q ce sl T (mkF m q ls st)) : Go p e below s Q ce sl T (mkF m pc ls (.int x :: st)) := by
  subst hp
  by_cases hc : x = (0 : Int32)
  · exact (KN hc).to fun _ r => XS.ifNo X.here hx rfl hd rfl ((if0 _ _).trans (teq hc).2) r
  · exact (KY hc).to fun _ r => XS.ifYes X.here hx rfl (pc0 := pc) rfl hd rfl ((if0 _ _).trans (feq hc).2) ho hq r
theorem go_lif_ne (X : Stand p l e R s m args below meth c T locs cells slots) (hx : p.tables.exec = Jvm.exec) {a b : Int64} {o : Int} (hd : decode c.code pc = .ok (.ifCond .ne o, 3)) (hp : pc + 3 = q) (ho : 0 ≤ (pc : Int) + o) (hq : ((pc : Int) + o).toNat = q') (KY : ¬ a = b → Go p e below s Q ce sl T (mkF m q' ls st)) (KN : a = b → Go p e below s Q ce sl T (mkF m q ls st)) : Go p e below s Q ce sl T (mkF m pc ls (.int (lcmpW a b) :: st)) :=
  go_if_ne X hx hd hp ho hq (fun w => KY (fun z => w ((lw_eq _ _).mpr z))) (fun w => KN ((lw_eq _ _).mp w))
theorem go_ret (X : Stand p l e R s m args below meth c T locs cells slots) (hx : p.tables.exec = Jvm.exec) {w : Value} {t : FieldType} {i : Instr} (hret : meth.sig.returnType = some t) (hlk : meth.locks = false) (hn : narrow t w = w)
    (hi : (i = .ireturn ∧ (t = .int ∨ t = .boolean ∨ t = .byte ∨ t = .char ∨ t = .short) ∧ ∃ z, w = .int z) ∨ (i = .lreturn ∧ t = .long ∧ ∃ z, w = .long z) ∨ (i = .dreturn ∧ t = .double ∧ ∃ z, w = .double z) ∨ (i = .freturn ∧ t = .float ∧ ∃ z, w = .float z) ∨ (i = .areturn ∧ t.isReference = true ∧ w.isRef = true))
    (hd : decode c.code pc = .ok (i, 1)) (hc : cells ≤ ce) (hs : slots ≤ sl) (hQ : Q (some w) T.heap locs) : Go p e below s Q ce sl T (mkF m pc ls (w :: st)) := by
  obtain ⟨fs, hr, hrun, hended, hW, hsame⟩ := X.leave (v := some w) (fun h => by rw [hret] at h; cases h) hlk
  exact ⟨_, _, retOut X hx hret hn hi hd hr, hrun, hended, _, _, rfl, hQ, ⟨_, rfl⟩, hW, hsame.mono hc hs⟩
theorem go_retD (X : Stand p l e R s m args below meth c T locs cells slots) (hx : p.tables.exec = Jvm.exec) {v : UInt64} (hret : meth.sig.returnType = some .double) (hlk : meth.locks = false) (hd : decode c.code pc = .ok (.dreturn, 1)) (hc : cells ≤ ce) (hs : slots ≤ sl) (hQ : Q (some (.double v)) T.heap locs) : Go p e below s Q ce sl T (mkF m pc ls (.double v :: st)) :=
  go_ret X hx hret hlk rfl (Or.inr (Or.inr (Or.inl ⟨rfl, rfl, v, rfl⟩))) hd hc hs hQ
theorem go_retJ (X : Stand p l e R s m args below meth c T locs cells slots) (hx : p.tables.exec = Jvm.exec) {v : Int64} (hret : meth.sig.returnType = some .long) (hlk : meth.locks = false) (hd : decode c.code pc = .ok (.lreturn, 1)) (hc : cells ≤ ce) (hs : slots ≤ sl) (hQ : Q (some (.long v)) T.heap locs) : Go p e below s Q ce sl T (mkF m pc ls (.long v :: st)) :=
  go_ret X hx hret hlk rfl (Or.inr (Or.inl ⟨rfl, rfl, v, rfl⟩)) hd hc hs hQ
theorem go_retI (X : Stand p l e R s m args below meth c T locs cells slots) (hx : p.tables.exec = Jvm.exec) {v : Int32} (hret : meth.sig.returnType = some .int) (hlk : meth.locks = false) (hd : decode c.code pc = .ok (.ireturn, 1)) (hc : cells ≤ ce) (hs : slots ≤ sl) (hQ : Q (some (.int v)) T.heap locs) : Go p e below s Q ce sl T (mkF m pc ls (.int v :: st)) :=
  go_ret X hx hret hlk rfl (Or.inl ⟨rfl, Or.inl rfl, v, rfl⟩) hd hc hs hQ
theorem go_retA (X : Stand p l e R s m args below meth c T locs cells slots) (hx : p.tables.exec = Jvm.exec) {v : Value} {t : FieldType} (hret : meth.sig.returnType = some t) (hlk : meth.locks = false) (ht : t.isReference = true) (hv : v.isRef = true) (hn : narrow t v = v) (hd : decode c.code pc = .ok (.areturn, 1)) (hc : cells ≤ ce) (hs : slots ≤ sl) (hQ : Q (some v) T.heap locs) : Go p e below s Q ce sl T (mkF m pc ls (v :: st)) :=
  go_ret X hx hret hlk hn (Or.inr (Or.inr (Or.inr (Or.inr ⟨rfl, ht, hv⟩)))) hd hc hs hQ
theorem go_retN (X : Stand p l e R s m args below meth c T locs cells slots) (hx : p.tables.exec = Jvm.exec) {z : Int32} {t : FieldType} (ht : t = .boolean ∨ t = .byte ∨ t = .char ∨ t = .short) (hret : meth.sig.returnType = some t) (hlk : meth.locks = false) (hd : decode c.code pc = .ok (.ireturn, 1)) (hc : cells ≤ ce) (hs : slots ≤ sl) (hQ : Q (some (.int (nar t z))) T.heap locs) : Go p e below s Q ce sl T (mkF m pc ls (.int z :: st)) := by
  obtain ⟨fs, hr, hrun, hended, hW, hsame⟩ := X.leave (v := some (.int (nar t z))) (fun h => by rw [hret] at h; cases h) hlk
  exact ⟨_, _, retN X hx hret ht hd hr, hrun, hended, _, _, rfl, hQ, ⟨_, rfl⟩, hW, hsame.mono hc hs⟩
theorem go_retV (X : Stand p l e R s m args below meth c T locs cells slots) (hx : p.tables.exec = Jvm.exec) (hret : meth.sig.returnType = none) (hlk : meth.locks = false) (hd : decode c.code pc = .ok (.return_, 1)) (hc : cells ≤ ce) (hs : slots ≤ sl) (hQ : Q none T.heap locs) : Go p e below s Q ce sl T (mkF m pc ls []) := by
  obtain ⟨fs, hr, hrun, hended, hW, hsame⟩ := X.leave (v := none) (fun _ => rfl) hlk
  exact ⟨_, _, X.returnOut hx hret hd hr, hrun, hended, _, _, rfl, hQ, ⟨_, rfl⟩, hW, hsame.mono hc hs⟩
theorem go_ldcI (X : Stand p l e R s m args below meth c T locs cells slots) (hx : p.tables.exec = Jvm.exec) (hZ : Z.Warmed39 s.vm) {own : String} {index : Nat} {v : Int32} (hown : s.vm.findClass own = some m.cls) (w : (Jvm.Cond.constant own index v).before a0 Z = true) (hd : decode c.code pc = .ok (.ldc index, 2)) (hp : pc + 2 = q) (K : Go p e below s Q ce sl T (mkF m q ls (.int v :: st))) : Go p e below s Q ce sl T (mkF m pc ls st) := by
  subst hp
  exact K.to fun t r => X.ldcInt hx hown (mvT hZ w) (g := mkF m pc ls st) rfl hd t r
theorem go_ldc2J (X : Stand p l e R s m args below meth c T locs cells slots) (hx : p.tables.exec = Jvm.exec) (hZ : Z.Warmed39 s.vm) {own : String} {index : Nat} {v : Int64} (hown : s.vm.findClass own = some m.cls) (w : (Jvm.Cond.constantLong own index v).before a0 Z = true) (hd : decode c.code pc = .ok (.ldc2_w index, 3)) (hp : pc + 3 = q) (K : Go p e below s Q ce sl T (mkF m q ls (.long v :: st))) : Go p e below s Q ce sl T (mkF m pc ls st) := by
  subst hp
  exact K.to fun t r => X.ldc2Long hx hown (mvT hZ w) (g := mkF m pc ls st) rfl hd t r
theorem go_ldc2D (X : Stand p l e R s m args below meth c T locs cells slots) (hx : p.tables.exec = Jvm.exec) (hZ : Z.Warmed39 s.vm) {own : String} {index : Nat} {v : UInt64} (hown : s.vm.findClass own = some m.cls) (w : (Jvm.Cond.constantDouble own index v).before a0 Z = true) (hd : decode c.code pc = .ok (.ldc2_w index, 3)) (hp : pc + 3 = q) (K : Go p e below s Q ce sl T (mkF m q ls (.double v :: st))) : Go p e below s Q ce sl T (mkF m pc ls st) := by
  subst hp
  exact K.to fun t r => X.ldc2DoubleC hx hown (mvT hZ w) (g := mkF m pc ls st) rfl hd t r
theorem go_callS (X : Stand p l e R s m args below meth c T locs cells slots) (hx : p.tables.exec = Jvm.exec) (hZ : Z.Warmed39 s.vm) {own : String} {index : Nat} {y : MethodName} {bytes : ByteArray} {maxL : Nat} {ret : Option FieldType} {rm : Room} {W : Nat} {Qc : Option Value → Heap → List Loc → Prop} (hown : s.vm.findClass own = some m.cls) (eT : T.heap = h)
    (w1 : (Jvm.Cond.methodLink own index y).before a0 Z = true) (w2 : (Jvm.Cond.static y).before a0 Z = true) (w3 : (Jvm.Cond.initialized y.cls).before a0 Z = true) (w4 : (Jvm.Cond.code y bytes maxL ret).before a0 Z = true) (hy : y.cls ≠ "java/lang/invoke/MethodHandle" ∧ y.cls ≠ "java/lang/invoke/VarHandle")
    (argsL rest : List Value) (hM : Con l y bytes maxL ret [] rm Z argsL.toArray h Qc) (hsz : ls.size = c.maxLocals) (hst : st = argsL.reverse ++ rest) (hlen : ∀ sig, parseMethodDescriptor y.desc = some sig → argsL.length = sig.parameters.length) (hW : (rest.map fun v => v.category).sum ≤ W)
    (hf : rm.frames + 1 ≤ R.frames) (hl : W + (maxL + 11) + rm.locals ≤ R.locals) (hd : decode c.code pc = .ok (.invokestatic index, 3)) (hp : pc + 3 = q) (hc : cells + rm.cells ≤ R.cells) (hs : slots + rm.slots ≤ R.slots)
    (K : ∀ (T' : State) (L : List Loc) (v : Option Value), Stand p l e R s m args below meth c T' (locs ++ L) (cells + rm.cells) (slots + rm.slots) → Qc v T'.heap L → Go p e below s Q ce sl T' (mkF m q ls (v.toList ++ rest))) : Go p e below s Q ce sl T (mkF m pc ls st) := by
  subst hp
  obtain ⟨v, _, ⟨T', L', k', n'⟩, -, X', ⟨Lc, hQ, l1, y1, z1⟩, stp⟩ := Jvm.LawKit.callS X hx (y := y) hown (mvT hZ w1) (mvT hZ w2) (mvT hZ w3) (mvT hZ w4) hy (backOf (W := W) hM hZ w4 w3 hf hl) (g := mkF m pc ls st) rfl hsz (argsL := argsL) (rest := rest) hlen hst (by show 2 * 0 + _ ≤ _; omega) hd (fun _ _ => ⟨rfl, eT, hc, hs⟩)
  dsimp only [Pt.U, Pt.locs, Pt.cells, Pt.slots] at X' l1 y1 z1 stp hQ
  subst l1 y1 z1
  exact (K T' Lc v X' hQ).to fun t r => stp t r
theorem go_callI (X : Stand p l e R s m args below meth c T locs cells slots) (hx : p.tables.exec = Jvm.exec) (hZ : Z.Warmed39 s.vm) {own : String} {index : Nat} {y : MethodName} {bytes : ByteArray} {maxL : Nat} {rm : Room} {W : Nat} {Qc : Option Value → Heap → List Loc → Prop} (hown : s.vm.findClass own = some m.cls) (eT : T.heap = h) (hy1 : y.name = "<init>")
    (w1 : (Jvm.Cond.methodLink own index y).before a0 Z = true) (w2 : (Jvm.Cond.instanceMethod y).before a0 Z = true) (w3 : (Jvm.Cond.initialized y.cls).before a0 Z = true) (w4 : (Jvm.Cond.code y bytes maxL none).before a0 Z = true) (hy : y.cls ≠ "java/lang/invoke/MethodHandle" ∧ y.cls ≠ "java/lang/invoke/VarHandle")
    (a : Addr) (argsL rest : List Value) (hM : Con l y bytes maxL none [] rm Z (.ref a :: argsL).toArray h Qc) (hsz : ls.size = c.maxLocals) (hst : st = argsL.reverse ++ .ref a :: rest) (hlen : ∀ sig, parseMethodDescriptor y.desc = some sig → argsL.length = sig.parameters.length) (hW : (rest.map fun v => v.category).sum ≤ W)
    (hf : rm.frames + 1 ≤ R.frames) (hl : W + (maxL + 11) + rm.locals ≤ R.locals) (hd : decode c.code pc = .ok (.invokespecial index, 3)) (hp : pc + 3 = q) (hc : cells + rm.cells ≤ R.cells) (hs : slots + rm.slots ≤ R.slots)
    (K : ∀ (T' : State) (L : List Loc) (v : Option Value), Stand p l e R s m args below meth c T' (locs ++ L) (cells + rm.cells) (slots + rm.slots) → Qc v T'.heap L → Go p e below s Q ce sl T' (mkF m q ls (v.toList ++ rest))) : Go p e below s Q ce sl T (mkF m pc ls st) := by
  subst hp
  obtain ⟨v, _, ⟨T', L', k', n'⟩, -, X', ⟨Lc, hQ, l1, y1, z1⟩, stp⟩ := X.specialBack hx (y := y) hy1 hown (mvT hZ w1) (mvT hZ w2) (mvT hZ w4) hy (backOf (W := W) hM hZ w4 w3 hf hl) (g := mkF m pc ls st) rfl hsz (Steps.refl _) (a := a) (argsL := argsL) (rest := rest) hlen hst (by show 2 * 0 + _ ≤ _; omega) hd (fun _ _ => ⟨rfl, eT, hc, hs⟩)
  dsimp only [Pt.U, Pt.locs, Pt.cells, Pt.slots] at X' l1 y1 z1 stp hQ
  subst l1 y1 z1
  exact (K T' Lc v X' hQ).to fun t r => stp.trans r
theorem go_callV (X : Stand p l e R s m args below meth c T locs cells slots) (hx : p.tables.exec = Jvm.exec) (hZ : Z.Warmed39 s.vm) {own C : String} {index : Nat} {y : MethodName} {bytes : ByteArray} {maxL : Nat} {ret : Option FieldType} {rm : Room} {W : Nat} {Qc : Option Value → Heap → List Loc → Prop} {z : MethodName} (hown : s.vm.findClass own = some m.cls) (eT : T.heap = h)
    (w1 : (Jvm.Cond.methodLink own index y).before a0 Z = true) (w2 : (Jvm.Cond.declares y).before a0 Z = true) (hnf : NotFace s y) (w3 : (Jvm.Cond.selects C y z).before a0 Z = true) (w5 : (Jvm.Cond.instanceMethod z).before a0 Z = true) (w6 : (Jvm.Cond.initialized z.cls).before a0 Z = true) (w4 : (Jvm.Cond.code z bytes maxL ret).before a0 Z = true) (hy : y.cls ≠ "java/lang/invoke/MethodHandle" ∧ y.cls ≠ "java/lang/invoke/VarHandle")
    (a : Addr) (argsL rest : List Value) (E : Exa Z h a C) (hM : Con l z bytes maxL ret [] rm Z (.ref a :: argsL).toArray h Qc) (hsz : ls.size = c.maxLocals) (hst : st = argsL.reverse ++ .ref a :: rest) (hlen : ∀ sig, parseMethodDescriptor y.desc = some sig → argsL.length = sig.parameters.length) (hW : (rest.map fun v => v.category).sum ≤ W)
    (hf : rm.frames + 1 ≤ R.frames) (hl : W + (maxL + 11) + rm.locals ≤ R.locals) (hd : decode c.code pc = .ok (.invokevirtual index, 3)) (hp : pc + 3 = q) (hc : cells + rm.cells ≤ R.cells) (hs : slots + rm.slots ≤ R.slots)
    (K : ∀ (T' : State) (L : List Loc) (v : Option Value), Stand p l e R s m args below meth c T' (locs ++ L) (cells + rm.cells) (slots + rm.slots) → Qc v T'.heap L → Go p e below s Q ce sl T' (mkF m q ls (v.toList ++ rest))) : Go p e below s Q ce sl T (mkF m pc ls st) := by
  subst hp
  obtain ⟨cq, kq, qa, qb, qc⟩ := isOf hZ eT E
  obtain ⟨v, _, ⟨T', L', k', n'⟩, -, X', ⟨Lc, hQ, l1, y1, z1⟩, stp⟩ := X.virtualBack hx (y := y) (z := z) hown (mvT hZ w1) (mvT hZ w2) hnf (mvT hZ w3) (mvT hZ w5) hy (backOf (W := W) hM hZ w4 w6 hf hl) qa qc (g := mkF m pc ls st) rfl hsz (Steps.refl _) (argsL := argsL) (rest := rest) hlen hst (by show 2 * 0 + _ ≤ _; omega) hd (fun _ _ => ⟨rfl, eT, hc, hs⟩)
  dsimp only [Pt.U, Pt.locs, Pt.cells, Pt.slots] at X' l1 y1 z1 stp hQ
  subst l1 y1 z1
  exact (K T' Lc v X' hQ).to fun t r => stp.trans r
end OwnWalk

section OwnHeap
variable {p : Program} {l : Launch} {e : Env} {R : Room} {s : State} {m : MethodId} {args : Array Value} {below : List Frame} {meth : Method} {c : Code} {T : State} {locs : List Loc} {cells slots : Nat} {Z : State} {h : Heap} {Q : Option Value → Heap → List Loc → Prop} {ce sl : Nat} {pc q q' : Nat} {ls : Array Slot} {st : List Value} {a0 : Array Value} {n0 : Nat} {a : Addr}
theorem go_getS (X : Stand p l e R s m args below meth c T locs cells slots) (hx : p.tables.exec = Jvm.exec) (hZ : Z.Warmed39 s.vm) {own R0 O n d host : String} {index : Nat} (hown : s.vm.findClass own = some m.cls) (w : (Jvm.Cond.fieldLink own index R0 n d).before a0 Z = true ∨ (Jvm.Cond.fieldLinkNest own index R0 n d host).before a0 Z = true) (via : Via Z R0 O n d) (eT : T.heap = h) {v : Value} (F : Sta Z h O n d v) (hd : decode c.code pc = .ok (.getstatic index, 3)) (hp : pc + 3 = q) (K : ∀ T', Stand p l e R s m args below meth c T' locs cells slots → T'.heap = h → Go p e below s Q ce sl T' (mkF m q ls (v :: st))) : Go p e below s Q ce sl T (mkF m pc ls st) := by
  subst hp
  obtain ⟨T', X', e', st'⟩ := getS2 X hx hZ hown w via eT F (g := mkF m pc ls st) rfl hd
  exact (K T' X' e').to fun t r => st' t r
theorem go_getF (X : Stand p l e R s m args below meth c T locs cells slots) (hx : p.tables.exec = Jvm.exec) (hZ : Z.Warmed39 s.vm) {own R0 O n d host : String} {index : Nat} (hown : s.vm.findClass own = some m.cls) (w : (Jvm.Cond.fieldLink own index R0 n d).before a0 Z = true ∨ (Jvm.Cond.fieldLinkNest own index R0 n d host).before a0 Z = true) (via : Via Z R0 O n d) (eT : T.heap = h) {v : Value} (F : Fld Z h a O n d v) (hd : decode c.code pc = .ok (.getfield index, 3)) (hp : pc + 3 = q) (K : ∀ T', Stand p l e R s m args below meth c T' locs cells slots → T'.heap = h → Go p e below s Q ce sl T' (mkF m q ls (v :: st))) : Go p e below s Q ce sl T (mkF m pc ls (.ref a :: st)) := by
  subst hp
  obtain ⟨T', X', e', st'⟩ := getF X hx hZ hown w via eT F (g := mkF m pc ls (.ref a :: st)) rfl rfl hd
  exact (K T' X' e').to fun t r => st' t r
theorem go_putF (X : Stand p l e R s m args below meth c T locs cells slots) (hx : p.tables.exec = Jvm.exec) (hZ : Z.Warmed39 s.vm) {own R0 O n d host : String} {index : Nat} (hown : s.vm.findClass own = some m.cls) (w : (Jvm.Cond.fieldLink own index R0 n d).before a0 Z = true ∨ (Jvm.Cond.fieldLinkNest own index R0 n d host).before a0 Z = true) (via : Via Z R0 O n d) (eT : T.heap = h) {C : String} {kk : Nat} {ty : FieldType} {v old : Value} (F : Fld Z h a O n d old) (E : Exa Z h a C) (L : (Jvm.Cond.lays C O n d).before a0 Z = true ∨ ((Jvm.Cond.laysFinal C O n d).before a0 Z = true ∧ own = O ∧ meth.name = "<init>")) (wi : (Jvm.Cond.instantiable C kk).before a0 Z = true) (hty : parseFieldDescriptor d = some ty) (hn : narrow ty v = v) (hf : fits ty v = true) (N : Fr n0 locs) (ha : n0 ≤ a) (hd : decode c.code pc = .ok (.putfield index, 3)) (hp : pc + 3 = q)
    (K : ∀ T' h' locs', Stand p l e R s m args below meth c T' locs' cells slots → Fr n0 locs' → T'.heap = h' → Wr h h' a (Jvm.RoadKit.slotOf Z O n d) v → Go p e below s Q ce sl T' (mkF m q ls st)) : Go p e below s Q ce sl T (mkF m pc ls (v :: .ref a :: st)) := by
  subst hp
  obtain ⟨T', h', X', e', W', st'⟩ := putF X hx hZ hown w via eT F E L wi hty hn hf (g := mkF m pc ls (v :: .ref a :: st)) rfl rfl hd
  exact (K T' h' _ X' (Fr.snoc X' N ha) e' W').to fun t r => st' t r
theorem go_newO (X : Stand p l e R s m args below meth c T locs cells slots) (hx : p.tables.exec = Jvm.exec) (hZ : Z.Warmed39 s.vm) {own C : String} {index n : Nat} (hown : s.vm.findClass own = some m.cls) (w : (Jvm.Cond.classLink own index C).before a0 Z = true) (wi : (Jvm.Cond.instantiable C n).before a0 Z = true) (wz : (Jvm.Cond.initialized C).before a0 Z = true) (eT : T.heap = h) (hd : decode c.code pc = .ok (.new index, 3)) (hp : pc + 3 = q) (hc : cells + 1 ≤ R.cells) (hl : slots + n ≤ R.slots)
    (K : ∀ T' h' b, b = h.size → Stand p l e R s m args below meth c T' locs (cells + 1) (slots + n) → T'.heap = h' → Ext h h' → Exa Z h' b C → (∀ {O nm d : String} {ty : FieldType}, Laid Z a0 C O nm d → parseFieldDescriptor d = some ty → Fld Z h' b O nm d (defaultValue ty)) → Go p e below s Q ce sl T' (mkF m q ls (.ref b :: st))) : Go p e below s Q ce sl T (mkF m pc ls st) := by
  subst hp
  obtain ⟨T', h', X', e', E', A', D', -, st'⟩ := newO X hx hZ hown w wi wz eT (g := mkF m pc ls st) rfl hd hc hl
  exact (K T' h' _ rfl X' e' E' A' D').to fun t r => st' t r
theorem go_newP (X : Stand p l e R s m args below meth c T locs cells slots) (hx : p.tables.exec = Jvm.exec) (hZ : Z.Warmed39 s.vm) {aty : ArrayType} (w : (Jvm.Cond.arrayClass (newarray.typeOf aty)).before a0 Z = true) (eT : T.heap = h) (hd : decode c.code pc = .ok (.newarray aty, 2)) (hp : pc + 2 = q) {n : Int32} (hn : ¬ n < 0) (cap : Nat) (hcap : n.toNatClampNeg ≤ cap) (hb : cap * 8 ≤ 536870912) (hc : cells + 1 ≤ R.cells) (hl : slots + cap ≤ R.slots)
    (K : ∀ T' h' kc b, b = h.size → Stand p l e R s m args below meth c T' locs (cells + 1) (slots + cap) → T'.heap = h' → Ext h h' → Arv Z h' b kc (newarray.typeOf aty) n [] (defaultValue (newarray.typeOf aty)) → Go p e below s Q ce sl T' (mkF m q ls (.ref b :: st))) : Go p e below s Q ce sl T (mkF m pc ls (.int n :: st)) := by
  subst hp
  obtain ⟨T', h', kc, X', e', E', A', st'⟩ := newP X hx hZ w eT (g := mkF m pc ls (.int n :: st)) rfl hd rfl hn (cap := cap) hcap hb hc hl
  exact (K T' h' kc _ rfl X' e' E' (Arv.new A' hn)).to fun t r => st' t r
theorem go_initO (X : Stand p l e R s m args below meth c T locs cells slots) (hx : p.tables.exec = Jvm.exec) (hZ : Z.Warmed39 s.vm) {own : String} {index W : Nat} (hown : s.vm.findClass own = some m.cls) (w1 : (Jvm.Cond.methodLink own index Lib.objectInit).before a0 Z = true) (w2 : (Jvm.Cond.instanceMethod Lib.objectInit).before a0 Z = true) (w3 : (Jvm.Cond.code Lib.objectInit ⟨#[0xb1]⟩ 1 none).before a0 Z = true) (eT : T.heap = h) (hsz : ls.size = c.maxLocals) (hd : decode c.code pc = .ok (.invokespecial index, 3)) (hp : pc + 3 = q) (hf : 1 ≤ R.frames) (hW : (st.map fun v => v.category).sum ≤ W) (hl : W + 12 ≤ R.locals) (K : ∀ T', Stand p l e R s m args below meth c T' locs cells slots → T'.heap = h → Go p e below s Q ce sl T' (mkF m q ls st)) : Go p e below s Q ce sl T (mkF m pc ls (.ref a :: st)) := by
  subst hp
  obtain ⟨T', X', e', st'⟩ := initO X hx hZ hown w1 w2 w3 eT (g := mkF m pc ls (.ref a :: st)) rfl hsz rfl hd hf (W := W) (by show 2 * 0 + _ ≤ _; omega) hl
  exact (K T' X' e').to fun t r => st' t r
theorem go_iaload (X : Stand p l e R s m args below meth c T locs cells slots) (hx : p.tables.exec = Jvm.exec) (hZ : Z.Warmed39 s.vm) (eT : T.heap = h) {k : ClassId} {z j : Int32} {vs : List Value} {dv : Value} {v : Value} (F : Arv Z h a k .int z vs dv) (hj : ¬ j < 0 ∧ j < z) (hv : vs.getD j.toNatClampNeg dv = v) (hd : decode c.code pc = .ok (.iaload, 1)) (hp : pc + 1 = q) (K : Go p e below s Q ce sl T (mkF m q ls (v :: st))) : Go p e below s Q ce sl T (mkF m pc ls (.int j :: .ref a :: st)) := by
  subst hp
  obtain ⟨cl, A, -, S, -, H, -⟩ := F
  exact K.to fun t r => X.iaload hx (by rw [eT]; exact A.1) (State.isArrayOf_alike hZ.alike A.2.1) A.2.2 (inb_of S hj) (H.at (inb_of S hj) hv) (g := mkF m pc ls (.int j :: .ref a :: st)) rfl rfl hd t r
theorem go_daload (X : Stand p l e R s m args below meth c T locs cells slots) (hx : p.tables.exec = Jvm.exec) (hZ : Z.Warmed39 s.vm) (eT : T.heap = h) {k : ClassId} {z j : Int32} {vs : List Value} {dv : Value} {v : Value} (F : Arv Z h a k .double z vs dv) (hj : ¬ j < 0 ∧ j < z) (hv : vs.getD j.toNatClampNeg dv = v) (hd : decode c.code pc = .ok (.daload, 1)) (hp : pc + 1 = q) (K : Go p e below s Q ce sl T (mkF m q ls (v :: st))) : Go p e below s Q ce sl T (mkF m pc ls (.int j :: .ref a :: st)) := by
  subst hp
  obtain ⟨cl, A, -, S, -, H, -⟩ := F
  exact K.to fun t r => X.daload hx (by rw [eT]; exact A.1) (State.isArrayOf_alike hZ.alike A.2.1) A.2.2 (inb_of S hj) (H.at (inb_of S hj) hv) (g := mkF m pc ls (.int j :: .ref a :: st)) rfl rfl hd t r
theorem go_faload (X : Stand p l e R s m args below meth c T locs cells slots) (hx : p.tables.exec = Jvm.exec) (hZ : Z.Warmed39 s.vm) (eT : T.heap = h) {k : ClassId} {z j : Int32} {vs : List Value} {dv : Value} {v : Value} (F : Arv Z h a k .float z vs dv) (hj : ¬ j < 0 ∧ j < z) (hv : vs.getD j.toNatClampNeg dv = v) (hd : decode c.code pc = .ok (.faload, 1)) (hp : pc + 1 = q) (K : Go p e below s Q ce sl T (mkF m q ls (v :: st))) : Go p e below s Q ce sl T (mkF m pc ls (.int j :: .ref a :: st)) := by
  subst hp
  obtain ⟨cl, A, -, S, -, H, -⟩ := F
  exact K.to fun t r => X.faload hx (by rw [eT]; exact A.1) (State.isArrayOf_alike hZ.alike A.2.1) A.2.2 (inb_of S hj) (H.at (inb_of S hj) hv) (g := mkF m pc ls (.int j :: .ref a :: st)) rfl rfl hd t r
theorem go_baload (X : Stand p l e R s m args below meth c T locs cells slots) (hx : p.tables.exec = Jvm.exec) (hZ : Z.Warmed39 s.vm) (eT : T.heap = h) {k : ClassId} {z j : Int32} {vs : List Value} {dv : Value} {v : Value} (F : Arv Z h a k .boolean z vs dv) (hj : ¬ j < 0 ∧ j < z) (hv : vs.getD j.toNatClampNeg dv = v) (hd : decode c.code pc = .ok (.baload, 1)) (hp : pc + 1 = q) (K : Go p e below s Q ce sl T (mkF m q ls (v :: st))) : Go p e below s Q ce sl T (mkF m pc ls (.int j :: .ref a :: st)) := by
  subst hp
  obtain ⟨cl, A, -, S, -, H, -⟩ := F
  exact K.to fun t r => X.baloadBooleans hx (by rw [eT]; exact A.1) (State.isArrayOf_alike hZ.alike A.2.1) A.2.2 (inb_of S hj) (H.at (inb_of S hj) hv) (g := mkF m pc ls (.int j :: .ref a :: st)) rfl rfl hd t r
theorem go_baloadB (X : Stand p l e R s m args below meth c T locs cells slots) (hx : p.tables.exec = Jvm.exec) (hZ : Z.Warmed39 s.vm) (eT : T.heap = h) {k : ClassId} {z j : Int32} {vs : List Value} {dv : Value} {v : Value} (F : Arv Z h a k .byte z vs dv) (hj : ¬ j < 0 ∧ j < z) (hv : vs.getD j.toNatClampNeg dv = v) (hd : decode c.code pc = .ok (.baload, 1)) (hp : pc + 1 = q) (K : Go p e below s Q ce sl T (mkF m q ls (v :: st))) : Go p e below s Q ce sl T (mkF m pc ls (.int j :: .ref a :: st)) := by
  subst hp
  obtain ⟨cl, A, -, S, -, H, -⟩ := F
  exact K.to fun t r => X.baloadBytes hx (by rw [eT]; exact A.1) (State.isArrayOf_alike hZ.alike A.2.1) A.2.2 (inb_of S hj) (H.at (inb_of S hj) hv) (g := mkF m pc ls (.int j :: .ref a :: st)) rfl rfl hd t r
theorem go_caload (X : Stand p l e R s m args below meth c T locs cells slots) (hx : p.tables.exec = Jvm.exec) (hZ : Z.Warmed39 s.vm) (eT : T.heap = h) {k : ClassId} {z j : Int32} {vs : List Value} {dv : Value} {v : Value} (F : Arv Z h a k .char z vs dv) (hj : ¬ j < 0 ∧ j < z) (hv : vs.getD j.toNatClampNeg dv = v) (hd : decode c.code pc = .ok (.caload, 1)) (hp : pc + 1 = q) (K : Go p e below s Q ce sl T (mkF m q ls (v :: st))) : Go p e below s Q ce sl T (mkF m pc ls (.int j :: .ref a :: st)) := by
  subst hp
  obtain ⟨cl, A, -, S, -, H, -⟩ := F
  exact K.to fun t r => X.caload hx (by rw [eT]; exact A.1) (State.isArrayOf_alike hZ.alike A.2.1) A.2.2 (inb_of S hj) (H.at (inb_of S hj) hv) (g := mkF m pc ls (.int j :: .ref a :: st)) rfl rfl hd t r
theorem go_alen (X : Stand p l e R s m args below meth c T locs cells slots) (hx : p.tables.exec = Jvm.exec) (hZ : Z.Warmed39 s.vm) (eT : T.heap = h) {k : ClassId} {z : Int32} {vs : List Value} {dv : Value} {ty : FieldType} (F : Arv Z h a k ty z vs dv) (hd : decode c.code pc = .ok (.arraylength, 1)) (hp : pc + 1 = q) (K : Go p e below s Q ce sl T (mkF m q ls (.int z :: st))) : Go p e below s Q ce sl T (mkF m pc ls (.ref a :: st)) := by
  subst hp
  obtain ⟨cl, A, -, S, N, -, -⟩ := F
  exact K.to fun t r => X.arraylength hx (by rw [eT]; exact A.1) (State.isArrayOf_alike hZ.alike A.2.1) (g := mkF m pc ls (.ref a :: st)) rfl rfl hd t (by rw [len_of S N]; exact r)
theorem go_iastore (X : Stand p l e R s m args below meth c T locs cells slots) (hx : p.tables.exec = Jvm.exec) (hZ : Z.Warmed39 s.vm) (eT : T.heap = h) {k : ClassId} {z j : Int32} {vs : List Value} {dv : Value} {x : Int32} (F : Arv Z h a k .int z vs dv) (hj : ¬ j < 0 ∧ j < z) (i : Nat) (hi : j.toNatClampNeg = i) (hl : i < vs.length) (N : Fr n0 locs) (ha : n0 ≤ a) (hd : decode c.code pc = .ok (.iastore, 1)) (hp : pc + 1 = q)
    (K : ∀ T' h' locs', Stand p l e R s m args below meth c T' locs' cells slots → Fr n0 locs' → T'.heap = h' → Wr h h' a j.toNatClampNeg (.int x) → Arv Z h' a k .int z (vs.set i (.int x)) dv → Go p e below s Q ce sl T' (mkF m q ls st)) : Go p e below s Q ce sl T (mkF m pc ls ((.int x) :: .int j :: .ref a :: st)) := by
  subst hp
  obtain ⟨cl, A, q1, S, q3, H, G⟩ := F
  obtain ⟨T', h', X', e', W', st'⟩ := stI X hx hZ eT A (inb_of S hj) (g := mkF m pc ls ((.int x) :: .int j :: .ref a :: st)) rfl rfl hd
  exact (K T' h' _ X' (Fr.snoc X' N ha) e' W' (Arv.set A q1 S q3 H G rfl W' i hi hl)).to fun t r => st' t r
theorem go_dastore (X : Stand p l e R s m args below meth c T locs cells slots) (hx : p.tables.exec = Jvm.exec) (hZ : Z.Warmed39 s.vm) (eT : T.heap = h) {k : ClassId} {z j : Int32} {vs : List Value} {dv : Value} {x : UInt64} (F : Arv Z h a k .double z vs dv) (hj : ¬ j < 0 ∧ j < z) (i : Nat) (hi : j.toNatClampNeg = i) (hl : i < vs.length) (N : Fr n0 locs) (ha : n0 ≤ a) (hd : decode c.code pc = .ok (.dastore, 1)) (hp : pc + 1 = q)
    (K : ∀ T' h' locs', Stand p l e R s m args below meth c T' locs' cells slots → Fr n0 locs' → T'.heap = h' → Wr h h' a j.toNatClampNeg (.double x) → Arv Z h' a k .double z (vs.set i (.double x)) dv → Go p e below s Q ce sl T' (mkF m q ls st)) : Go p e below s Q ce sl T (mkF m pc ls ((.double x) :: .int j :: .ref a :: st)) := by
  subst hp
  obtain ⟨cl, A, q1, S, q3, H, G⟩ := F
  obtain ⟨T', h', X', e', W', st'⟩ := stD X hx hZ eT A (inb_of S hj) (g := mkF m pc ls ((.double x) :: .int j :: .ref a :: st)) rfl rfl hd
  exact (K T' h' _ X' (Fr.snoc X' N ha) e' W' (Arv.set A q1 S q3 H G rfl W' i hi hl)).to fun t r => st' t r
theorem go_fastore (X : Stand p l e R s m args below meth c T locs cells slots) (hx : p.tables.exec = Jvm.exec) (hZ : Z.Warmed39 s.vm) (eT : T.heap = h) {k : ClassId} {z j : Int32} {vs : List Value} {dv : Value} {x : UInt32} (F : Arv Z h a k .float z vs dv) (hj : ¬ j < 0 ∧ j < z) (i : Nat) (hi : j.toNatClampNeg = i) (hl : i < vs.length) (N : Fr n0 locs) (ha : n0 ≤ a) (hd : decode c.code pc = .ok (.fastore, 1)) (hp : pc + 1 = q)
    (K : ∀ T' h' locs', Stand p l e R s m args below meth c T' locs' cells slots → Fr n0 locs' → T'.heap = h' → Wr h h' a j.toNatClampNeg (.float x) → Arv Z h' a k .float z (vs.set i (.float x)) dv → Go p e below s Q ce sl T' (mkF m q ls st)) : Go p e below s Q ce sl T (mkF m pc ls ((.float x) :: .int j :: .ref a :: st)) := by
  subst hp
  obtain ⟨cl, A, q1, S, q3, H, G⟩ := F
  obtain ⟨T', h', X', e', W', st'⟩ := stF X hx hZ eT A (inb_of S hj) (g := mkF m pc ls ((.float x) :: .int j :: .ref a :: st)) rfl rfl hd
  exact (K T' h' _ X' (Fr.snoc X' N ha) e' W' (Arv.set A q1 S q3 H G rfl W' i hi hl)).to fun t r => st' t r
theorem go_bastore (X : Stand p l e R s m args below meth c T locs cells slots) (hx : p.tables.exec = Jvm.exec) (hZ : Z.Warmed39 s.vm) (eT : T.heap = h) {k : ClassId} {z j : Int32} {vs : List Value} {dv : Value} {x : Int32} (F : Arv Z h a k .boolean z vs dv) (hj : ¬ j < 0 ∧ j < z) (i : Nat) (hi : j.toNatClampNeg = i) (hl : i < vs.length) (N : Fr n0 locs) (ha : n0 ≤ a) (hd : decode c.code pc = .ok (.bastore, 1)) (hp : pc + 1 = q)
    (K : ∀ T' h' locs', Stand p l e R s m args below meth c T' locs' cells slots → Fr n0 locs' → T'.heap = h' → Wr h h' a j.toNatClampNeg (.int (nar .boolean x)) → Arv Z h' a k .boolean z (vs.set i (.int (nar .boolean x))) dv → Go p e below s Q ce sl T' (mkF m q ls st)) : Go p e below s Q ce sl T (mkF m pc ls ((.int x) :: .int j :: .ref a :: st)) := by
  subst hp
  obtain ⟨cl, A, q1, S, q3, H, G⟩ := F
  obtain ⟨T', h', X', e', W', st'⟩ := stZ X hx hZ eT A (inb_of S hj) (g := mkF m pc ls ((.int x) :: .int j :: .ref a :: st)) rfl rfl hd
  exact (K T' h' _ X' (Fr.snoc X' N ha) e' W' (Arv.set A q1 S q3 H G (fits_nar_bool _) W' i hi hl)).to fun t r => st' t r
theorem go_castore (X : Stand p l e R s m args below meth c T locs cells slots) (hx : p.tables.exec = Jvm.exec) (hZ : Z.Warmed39 s.vm) (eT : T.heap = h) {k : ClassId} {z j : Int32} {vs : List Value} {dv : Value} {x : Int32} (F : Arv Z h a k .char z vs dv) (hj : ¬ j < 0 ∧ j < z) (i : Nat) (hi : j.toNatClampNeg = i) (hl : i < vs.length) (N : Fr n0 locs) (ha : n0 ≤ a) (hd : decode c.code pc = .ok (.castore, 1)) (hp : pc + 1 = q)
    (K : ∀ T' h' locs', Stand p l e R s m args below meth c T' locs' cells slots → Fr n0 locs' → T'.heap = h' → Wr h h' a j.toNatClampNeg (.int (nar .char x)) → Arv Z h' a k .char z (vs.set i (.int (nar .char x))) dv → Go p e below s Q ce sl T' (mkF m q ls st)) : Go p e below s Q ce sl T (mkF m pc ls ((.int x) :: .int j :: .ref a :: st)) := by
  subst hp
  obtain ⟨cl, A, q1, S, q3, H, G⟩ := F
  obtain ⟨T', h', X', e', W', st'⟩ := stC X hx hZ eT A (inb_of S hj) (g := mkF m pc ls ((.int x) :: .int j :: .ref a :: st)) rfl rfl hd
  exact (K T' h' _ X' (Fr.snoc X' N ha) e' W' (Arv.set A q1 S q3 H G (fits_nar_char _) W' i hi hl)).to fun t r => st' t r
theorem go_bastoreB (X : Stand p l e R s m args below meth c T locs cells slots) (hx : p.tables.exec = Jvm.exec) (hZ : Z.Warmed39 s.vm) (eT : T.heap = h) {k : ClassId} {z j : Int32} {vs : List Value} {dv : Value} {x : Int32} (F : Arv Z h a k .byte z vs dv) (hj : ¬ j < 0 ∧ j < z) (i : Nat) (hi : j.toNatClampNeg = i) (hl : i < vs.length) (N : Fr n0 locs) (ha : n0 ≤ a) (hd : decode c.code pc = .ok (.bastore, 1)) (hp : pc + 1 = q)
    (K : ∀ T' h' locs', Stand p l e R s m args below meth c T' locs' cells slots → Fr n0 locs' → T'.heap = h' → Wr h h' a j.toNatClampNeg (.int (nar .byte x)) → Arv Z h' a k .byte z (vs.set i (.int (nar .byte x))) dv → Go p e below s Q ce sl T' (mkF m q ls st)) : Go p e below s Q ce sl T (mkF m pc ls ((.int x) :: .int j :: .ref a :: st)) := by
  subst hp
  obtain ⟨cl, A, q1, S, q3, H, G⟩ := F
  obtain ⟨T', h', X', e', W', st'⟩ := stB X hx hZ eT A (inb_of S hj) (g := mkF m pc ls ((.int x) :: .int j :: .ref a :: st)) rfl rfl hd
  exact (K T' h' _ X' (Fr.snoc X' N ha) e' W' (Arv.set A q1 S q3 H G (fits_nar_byte _) W' i hi hl)).to fun t r => st' t r
theorem go_acmp_eq (X : Stand p l e R s m args below meth c T locs cells slots) (hx : p.tables.exec = Jvm.exec) {x y : Value} (h1 : x.isRef = true) (h2 : y.isRef = true) {o : Int} (hd : decode c.code pc = .ok (.if_acmp .eq o, 3)) (hp : pc + 3 = q) (ho : 0 ≤ (pc : Int) + o) (hq : ((pc : Int) + o).toNat = q') (KY : x = y → Go p e below s Q ce sl T (mkF m q' ls st)) (KN : ¬ x = y → Go p e below s Q ce sl T (mkF m q ls st)) : Go p e below s Q ce sl T (mkF m pc ls (y :: x :: st)) := by
  subst hp hq
  by_cases w : x = y
  · exact (KY w).to fun t r => Jvm.RoadKit.acmp (g := mkF m pc ls (y :: x :: st)) X hx rfl h1 h2 (pc0 := pc) (same := true) rfl hd rfl (decide_eq_true w) ho rfl r
  · exact (KN w).to fun t r => Jvm.RoadKit.acmp (g := mkF m pc ls (y :: x :: st)) X hx rfl h1 h2 (pc0 := pc) (same := false) rfl hd rfl (decide_eq_false w) ho rfl r
theorem go_acmp_ne (X : Stand p l e R s m args below meth c T locs cells slots) (hx : p.tables.exec = Jvm.exec) {x y : Value} (h1 : x.isRef = true) (h2 : y.isRef = true) {o : Int} (hd : decode c.code pc = .ok (.if_acmp .ne o, 3)) (hp : pc + 3 = q) (ho : 0 ≤ (pc : Int) + o) (hq : ((pc : Int) + o).toNat = q') (KY : ¬ x = y → Go p e below s Q ce sl T (mkF m q' ls st)) (KN : x = y → Go p e below s Q ce sl T (mkF m q ls st)) : Go p e below s Q ce sl T (mkF m pc ls (y :: x :: st)) := by
  subst hp hq
  by_cases w : x = y
  · exact (KN w).to fun t r => Jvm.RoadKit.acmp (g := mkF m pc ls (y :: x :: st)) X hx rfl h1 h2 (pc0 := pc) (same := true) rfl hd rfl (decide_eq_true w) ho rfl r
  · exact (KY w).to fun t r => Jvm.RoadKit.acmp (g := mkF m pc ls (y :: x :: st)) X hx rfl h1 h2 (pc0 := pc) (same := false) rfl hd rfl (decide_eq_false w) ho rfl r
theorem go_ifnullR (X : Stand p l e R s m args below meth c T locs cells slots) (hx : p.tables.exec = Jvm.exec) {b : Addr} {o : Int} (hd : decode c.code pc = .ok (.ifnull o, 3)) (hp : pc + 3 = q) (K : Go p e below s Q ce sl T (mkF m q ls st)) : Go p e below s Q ce sl T (mkF m pc ls (.ref b :: st)) := by
  subst hp
  exact K.to fun t r => XS.ifnullNo X.here hx rfl hd rfl r
theorem go_ifnonnullR (X : Stand p l e R s m args below meth c T locs cells slots) (hx : p.tables.exec = Jvm.exec) {b : Addr} {o : Int} (hd : decode c.code pc = .ok (.ifnonnull o, 3)) (ho : 0 ≤ (pc : Int) + o) (hq : ((pc : Int) + o).toNat = q') (K : Go p e below s Q ce sl T (mkF m q' ls st)) : Go p e below s Q ce sl T (mkF m pc ls (.ref b :: st)) :=
  K.to fun t r => XS.ifnonnullYes X.here hx rfl (pc0 := pc) rfl hd rfl ho hq r
theorem go_tsw (X : Stand p l e R s m args below meth c T locs cells slots) (hx : p.tables.exec = Jvm.exec) {dflt low high off : Int} {offs : Array Int} {len : Nat} {i : Int32} (hd : decode c.code pc = .ok (.tableswitch dflt low high offs, len)) (hin : ¬ (i.toInt < low ∨ i.toInt > high)) (hoff : offs[(i.toInt - low).toNat]? = some off) (ho : 0 ≤ (pc : Int) + off) (hq : ((pc : Int) + off).toNat = q) (K : Go p e below s Q ce sl T (mkF m q ls st)) : Go p e below s Q ce sl T (mkF m pc ls (.int i :: st)) :=
  K.to fun t r => XS.tswIn X.here hx rfl (pc0 := pc) rfl hd rfl hin hoff ho hq r
theorem go_callVU (X : Stand p l e R s m args below meth c T locs cells slots) (hx : p.tables.exec = Jvm.exec) (hZ : Z.Warmed39 s.vm) {own C owner : String} {index : Nat} {y : MethodName} {bytes : ByteArray} {maxL : Nat} {ret : Option FieldType} {rm : Room} {W : Nat} {Qc : Option Value → Heap → List Loc → Prop} {z : MethodName} (hown : s.vm.findClass own = some m.cls) (eT : T.heap = h)
    (w1 : (Jvm.Cond.methodLink own index y).before a0 Z = true) (w2 : (Jvm.Cond.sameMethod y.cls owner y.name y.desc).before a0 Z = true) (w7 : (Jvm.Cond.declares ⟨owner, y.name, y.desc⟩).before a0 Z = true) (hy : owner ≠ "java/lang/invoke/MethodHandle" ∧ owner ≠ "java/lang/invoke/VarHandle") (w3 : (Jvm.Cond.selects C y z).before a0 Z = true) (w5 : (Jvm.Cond.instanceMethod z).before a0 Z = true) (w6 : (Jvm.Cond.initialized z.cls).before a0 Z = true) (w4 : (Jvm.Cond.code z bytes maxL ret).before a0 Z = true)
    (a : Addr) (argsL rest : List Value) (E : Exa Z h a C) (hM : Con l z bytes maxL ret [] rm Z (.ref a :: argsL).toArray h Qc) (hsz : ls.size = c.maxLocals) (hst : st = argsL.reverse ++ .ref a :: rest) (hlen : ∀ sig, parseMethodDescriptor y.desc = some sig → argsL.length = sig.parameters.length) (hW : (rest.map fun v => v.category).sum ≤ W)
    (hf : rm.frames + 1 ≤ R.frames) (hl : W + (maxL + 11) + rm.locals ≤ R.locals) (hd : decode c.code pc = .ok (.invokevirtual index, 3)) (hp : pc + 3 = q) (hc : cells + rm.cells ≤ R.cells) (hs : slots + rm.slots ≤ R.slots)
    (K : ∀ (T' : State) (L : List Loc) (v : Option Value), Stand p l e R s m args below meth c T' (locs ++ L) (cells + rm.cells) (slots + rm.slots) → Qc v T'.heap L → Go p e below s Q ce sl T' (mkF m q ls (v.toList ++ rest))) : Go p e below s Q ce sl T (mkF m pc ls st) := by
  subst hp
  obtain ⟨cq, kq, qa, qb, qc⟩ := isOf hZ eT E
  obtain ⟨v, _, ⟨T', L', k', n'⟩, -, X', ⟨Lc, hQ, l1, y1, z1⟩, stp⟩ := X.virtualBackUp hx (x := y) (y := z) hown (mvT hZ w1) (mvT hZ w2) (mvT hZ w7) hy (mvT hZ w3) (mvT hZ w5) (backOf (W := W) hM hZ w4 w6 hf hl) qa qc (g := mkF m pc ls st) rfl hsz (Steps.refl _) (argsL := argsL) (rest := rest) hlen hst (by show 2 * 0 + _ ≤ _; omega) hd (fun _ _ => ⟨rfl, eT, hc, hs⟩)
  dsimp only [Pt.U, Pt.locs, Pt.cells, Pt.slots] at X' l1 y1 z1 stp hQ
  subst l1 y1 z1
  exact (K T' Lc v X' hQ).to fun t r => stp.trans r
theorem go_callIB (X : Stand p l e R s m args below meth c T locs cells slots) (hx : p.tables.exec = Jvm.exec) (hZ : Z.Warmed39 s.vm) {own : String} {index : Nat} {y : MethodName} {bytes : ByteArray} {maxL : Nat} {W dc ds : Nat} {Qc : Option Value → Heap → List Loc → Prop} (hown : s.vm.findClass own = some m.cls) (eT : T.heap = h) (hy1 : y.name = "<init>")
    (w1 : (Jvm.Cond.methodLink own index y).before a0 Z = true) (w2 : (Jvm.Cond.instanceMethod y).before a0 Z = true) (w4 : (Jvm.Cond.code y bytes maxL none).before a0 Z = true) (hy : y.cls ≠ "java/lang/invoke/MethodHandle" ∧ y.cls ≠ "java/lang/invoke/VarHandle")
    (a : Addr) (argsL rest : List Value) (hK : Back l R p e below s args y 3 W (fun P b => b = (.ref a :: argsL).toArray ∧ P.U.heap = h ∧ P.cells + dc ≤ R.cells ∧ P.slots + ds ≤ R.slots) (fun P _ v B => ∃ L, Qc v B.U.heap L ∧ B.locs = P.locs ++ L ∧ B.cells = P.cells + dc ∧ B.slots = P.slots + ds)) (hsz : ls.size = c.maxLocals) (hst : st = argsL.reverse ++ .ref a :: rest) (hlen : ∀ sig, parseMethodDescriptor y.desc = some sig → argsL.length = sig.parameters.length) (hW : (rest.map fun v => v.category).sum ≤ W)
    (hd : decode c.code pc = .ok (.invokespecial index, 3)) (hp : pc + 3 = q) (hc : cells + dc ≤ R.cells) (hs : slots + ds ≤ R.slots)
    (K : ∀ (T' : State) (L : List Loc) (v : Option Value), Stand p l e R s m args below meth c T' (locs ++ L) (cells + dc) (slots + ds) → Qc v T'.heap L → Go p e below s Q ce sl T' (mkF m q ls (v.toList ++ rest))) : Go p e below s Q ce sl T (mkF m pc ls st) := by
  subst hp
  obtain ⟨v, _, ⟨T', L', k', n'⟩, -, X', ⟨Lc, hQ, l1, y1, z1⟩, stp⟩ := X.specialBack hx (y := y) hy1 hown (mvT hZ w1) (mvT hZ w2) (mvT hZ w4) hy hK (g := mkF m pc ls st) rfl hsz (Steps.refl _) (a := a) (argsL := argsL) (rest := rest) hlen hst (by show 2 * 0 + _ ≤ _; omega) hd (fun _ _ => ⟨rfl, eT, hc, hs⟩)
  dsimp only [Pt.U, Pt.locs, Pt.cells, Pt.slots] at X' l1 y1 z1 stp hQ
  subst l1 y1 z1
  exact (K T' Lc v X' hQ).to fun t r => stp.trans r
end OwnHeap

section OwnFloat
open Jvm.FP Jvm.FP.Core
/-- the datum with its exponent moved down by k -/
def sh (k : Int) : Datum → Datum
  | .fin s c q => .fin s c (q - k)
  | d => d
/-- the datum's value is i * 2^k -/
def Dy (k i : Int) (d : Datum) : Prop := Whole i (sh k d)
theorem dy_zero_iff {i : Int} {d : Datum} : Dy 0 i d ↔ Whole i d := by
  cases d <;> simp [Dy, sh]
theorem sh_sum (k : Int) (x y : Datum) : exactSum (sh k x) (sh k y) = sh k (exactSum x y) := by
  cases x <;> cases y <;> try rfl
  · rename_i a b; by_cases q : a = b <;> simp [sh, exactSum, q]
  · rename_i s c q t d r
    have e1 : min (q - k) (r - k) = min q r - k := by omega
    have e2 : q - k - (min q r - k) = q - min q r := by omega
    have e3 : r - k - (min q r - k) = r - min q r := by omega
    simp [sh, exactSum, sumUnits, inUnits, e1, e2, e3]
theorem sh_product (k l : Int) {x y : Datum} {s t : Bool} {c d : Nat} {q r : Int} (hx : x = .fin s c q) (hy : y = .fin t d r) : exactProduct (sh k x) (sh l y) = sh (k + l) (exactProduct x y) := by
  subst hx hy
  have e1 : q - k + (r - l) = q + r - (k + l) := by omega
  simp [sh, exactProduct, e1]
theorem sh_negate (k : Int) (x : Datum) : negate (sh k x) = sh k (negate x) := by cases x <;> rfl
theorem sh_order (k : Int) (x y : Datum) : order (sh k x) (sh k y) = order x y := by
  cases x <;> cases y <;> try rfl
  rename_i s c q t d r
  have e1 : min (q - k) (r - k) = min q r - k := by omega
  have e2 : q - k - (min q r - k) = q - min q r := by omega
  have e3 : r - k - (min q r - k) = r - min q r := by omega
  simp [sh, order, inUnits, e1, e2, e3]
theorem dy_fin {k i : Int} {d : Datum} (h : Dy k i d) : ∃ s c q, d = .fin s c q := by
  cases d with
  | nan => exact h.elim
  | inf s => exact h.elim
  | fin s c q => exact ⟨s, c, q, rfl⟩
theorem dy_sum {k i j : Int} {x y : Datum} (hx : Dy k i x) (hy : Dy k j y) : Dy k (i + j) (exactSum x y) := by
  unfold Dy; rw [← sh_sum]; exact whole_sum hx hy
theorem dy_negate {k i : Int} {x : Datum} (hx : Dy k i x) : Dy k (-i) (negate x) := by
  unfold Dy; rw [← sh_negate]; exact whole_negate hx
theorem dy_product {k l i j : Int} {x y : Datum} (hx : Dy k i x) (hy : Dy l j y) : Dy (k + l) (i * j) (exactProduct x y) := by
  obtain ⟨s, c, q, ex⟩ := dy_fin hx
  obtain ⟨t, d, r, ey⟩ := dy_fin hy
  unfold Dy; rw [← sh_product k l ex ey]; exact whole_product hx hy
theorem dy_order {k i j : Int} {x y : Datum} (hx : Dy k i x) (hy : Dy k j y) : order x y = some (compare i j) := by
  rw [← sh_order k]; exact order_whole hx hy
/-- c * 2^q and A * 2^k are alike: by differences, or with both exponents raised -/
theorem p2 {c A : Nat} {q k : Int} (N : Nat) (h1 : 0 ≤ q + N) (h2 : 0 ≤ k + N) : c * 2 ^ (q - k).toNat = A * 2 ^ (k - q).toNat ↔ c * 2 ^ (q + N).toNat = A * 2 ^ (k + N).toNat := by
  rcases Int.le_total q k with hqk | hqk
  · have e1 : (q - k).toNat = 0 := by omega
    have e2 : (k + N).toNat = (k - q).toNat + (q + N).toNat := by omega
    rw [e1, e2, Nat.pow_zero, Nat.mul_one, Nat.pow_add, ← Nat.mul_assoc]
    exact ⟨fun h => by rw [h], fun h => Nat.eq_of_mul_eq_mul_right (Nat.two_pow_pos _) h⟩
  · have e1 : (k - q).toNat = 0 := by omega
    have e2 : (q + N).toNat = (q - k).toNat + (k + N).toNat := by omega
    rw [e1, e2, Nat.pow_zero, Nat.mul_one, Nat.pow_add, ← Nat.mul_assoc]
    exact ⟨fun h => by rw [h], fun h => Nat.eq_of_mul_eq_mul_right (Nat.two_pow_pos _) h⟩
theorem dy_abs {k i : Int} {s : Bool} {c : Nat} {q : Int} (h : Dy k i (.fin s c q)) : c * 2 ^ (q - k).toNat = i.natAbs * 2 ^ (k - q).toNat := by
  have h' : signed s (c * 2 ^ (q - k).toNat) = i * ((2 ^ (-(q - k)).toNat : Nat) : Int) := h
  have e := congrArg Int.natAbs h'
  rw [natAbs_signed, Int.natAbs_mul, Int.natAbs_natCast, show -(q - k) = k - q by omega] at e
  exact e
theorem dy_sgn {k i : Int} {s : Bool} {c : Nat} {q : Int} (h : Dy k i (.fin s c q)) : signed s i.natAbs = i := by
  have h' : signed s (c * 2 ^ (q - k).toNat) = i * ((2 ^ (-(q - k)).toNat : Nat) : Int) := h
  rw [dy_abs h, signed_mul, show -(q - k) = k - q by omega] at h'
  exact Int.eq_of_mul_eq_mul_right (by have := Nat.two_pow_pos (k - q).toNat; omega) h'
theorem dy_mk {k i : Int} {s : Bool} {c : Nat} {q : Int} (h1 : c * 2 ^ (q - k).toNat = i.natAbs * 2 ^ (k - q).toNat) (h2 : signed s i.natAbs = i) : Dy k i (.fin s c q) := by
  show signed s (c * 2 ^ (q - k).toNat) = i * ((2 ^ (-(q - k)).toNat : Nat) : Int)
  rw [h1, signed_mul, h2, show -(q - k) = k - q by omega]
theorem dy_of_units {k i : Int} {s : Bool} {c' : Nat} {q' : Int} (hq : -1074 ≤ q') (hk : -1074 ≤ k) (e2 : inUnits c' q' (-1074) = inUnits i.natAbs k (-1074)) (h2 : signed s i.natAbs = i) : Dy k i (.fin s c' q') := by
  refine dy_mk ?_ h2
  rw [p2 1074 (by omega) (by omega)]
  unfold inUnits at e2
  rw [show q' - -1074 = q' + (1074 : Nat) by omega, show k - -1074 = k + (1074 : Nat) by omega] at e2
  exact e2
theorem dy_roundRatio {k m : Int} {S : Bool} {c d : Nat} {e : Int} (hd : 0 < d) (h : c * 2 ^ (e - k).toNat = m.natAbs * d * 2 ^ (k - e).toNat) (hm : m.natAbs < 2 ^ 53) (k1 : -1074 ≤ k) (k2 : k ≤ 971) (h2 : signed S m.natAbs = m) : Dy k m (roundRatio b64 S c d e) := by
  have hr : roundRatio b64 S c d e = round b64 (.fin S m.natAbs k) := roundRatio_congr (A := c) (B := d) (A' := m.natAbs) (B' := 1) (e := e) (e' := k) hd (by decide) (by rw [Nat.mul_one]; exact h)
  obtain ⟨c', q', e1, e2⟩ := round_exact good_b64 S (c := m.natAbs) (q := k) hm (by rw [qmin_b64]; exact k1) (by show k ≤ 971; exact k2)
  have hf : Core.fits b64 (.fin S c' q') := by rw [← e1]; exact round_fits good_b64 _
  have hq : -1074 ≤ q' := by have := hf.2.1; rw [qmin_b64] at this; exact this
  rw [hr, e1]
  rw [qmin_b64] at e2
  exact dy_of_units hq k1 e2 h2
theorem dy_round {k i : Int} {d : Datum} (h : Dy k i d) (hi : i.natAbs < 2 ^ 53) (k1 : -1074 ≤ k) (k2 : k ≤ 971) : Dy k i (round b64 d) := by
  obtain ⟨s, c, q, rfl⟩ := dy_fin h
  exact dy_roundRatio (d := 1) (by decide) (by rw [Nat.mul_one]; exact dy_abs h) hi k1 k2 (dy_sgn h)
theorem signed_xor1 (s t : Bool) (a b : Nat) : signed (s != t) (a * b) = signed s a * signed t b := signed_xor s t a b
theorem dy_quotient {k l i j m : Int} {x y : Datum} (hx : Dy k i x) (hy : Dy l j y) (hj : j ≠ 0) (hm : i = m * j) (hb : m.natAbs < 2 ^ 53) (k1 : -1074 ≤ k - l) (k2 : k - l ≤ 971) : Dy (k - l) m (quotient b64 x y) := by
  obtain ⟨s, c, q, rfl⟩ := dy_fin hx
  obtain ⟨t, d, r, rfl⟩ := dy_fin hy
  have a1 := dy_abs hx
  have a2 := dy_abs hy
  have jpos : 0 < j.natAbs := by omega
  have dpos : 0 < d := by
    rcases Nat.eq_zero_or_pos d with rfl | h
    · rw [Nat.zero_mul] at a2
      have := Nat.mul_pos jpos (Nat.two_pow_pos (l - r).toNat)
      omega
    · exact h
  have ea : i.natAbs = m.natAbs * j.natAbs := by rw [hm, Int.natAbs_mul]
  show Dy (k - l) m (if d = 0 then (if c = 0 then .nan else .inf (s != t)) else roundRatio b64 (s != t) c d (q - r))
  rw [if_neg (by omega)]
  refine dy_roundRatio dpos ?_ hb k1 k2 ?_
  · have N : Nat := 0
    obtain ⟨M, hM⟩ : ∃ M : Nat, 0 ≤ q + M ∧ 0 ≤ k + M ∧ 0 ≤ r + M ∧ 0 ≤ l + M := ⟨q.natAbs + k.natAbs + r.natAbs + l.natAbs, by omega, by omega, by omega, by omega⟩
    rw [p2 M hM.1 hM.2.1] at a1
    rw [p2 M hM.2.2.1 hM.2.2.2] at a2
    have e1 : q - r - (k - l) = (q + l) - (k + r) := by omega
    have e2 : k - l - (q - r) = (k + r) - (q + l) := by omega
    rw [e1, e2, p2 (2 * M) (by omega) (by omega)]
    have f1 : (q + l + ((2 * M : Nat) : Int)).toNat = (q + M).toNat + (l + M).toNat := by omega
    have f2 : (k + r + ((2 * M : Nat) : Int)).toNat = (k + M).toNat + (r + M).toNat := by omega
    rw [f1, f2, Nat.pow_add, Nat.pow_add]
    refine Nat.eq_of_mul_eq_mul_right jpos ?_
    calc c * (2 ^ (q + M).toNat * 2 ^ (l + M).toNat) * j.natAbs
        = (c * 2 ^ (q + M).toNat) * (j.natAbs * 2 ^ (l + M).toNat) := by ac_rfl
      _ = (i.natAbs * 2 ^ (k + M).toNat) * (d * 2 ^ (r + M).toNat) := by rw [a1, a2]
      _ = m.natAbs * d * (2 ^ (k + M).toNat * 2 ^ (r + M).toNat) * j.natAbs := by rw [ea]; ac_rfl
  · have s1 := dy_sgn hx
    have s2 := dy_sgn hy
    have s3 : signed (s != t) (i.natAbs * j.natAbs) = i * j := by rw [signed_xor, s1, s2]
    have e3 : i.natAbs * j.natAbs = m.natAbs * (j.natAbs * j.natAbs) := by rw [ea, Nat.mul_assoc]
    rw [e3, signed_mul, Int.natAbs_mul_self, hm, Int.mul_assoc] at s3
    exact Int.eq_of_mul_eq_mul_right (Int.mul_ne_zero hj hj) s3
theorem dy_scale {k i : Int} {d : Datum} (h : Dy k i d) (n : Nat) : Dy (k - n) (i * 2 ^ n) d := by
  obtain ⟨s, c, q, rfl⟩ := dy_fin h
  have a1 := dy_abs h
  have s1 := dy_sgn h
  have e0 : (i * 2 ^ n).natAbs = i.natAbs * 2 ^ n := by rw [Int.natAbs_mul, Int.natAbs_pow]; rfl
  refine dy_mk ?_ ?_
  · obtain ⟨M, h1, h2⟩ : ∃ M : Nat, 0 ≤ q + M ∧ 0 ≤ k - n + M := ⟨q.natAbs + k.natAbs + n, by omega, by omega⟩
    rw [p2 M h1 (by omega)] at a1
    rw [p2 M h1 h2, a1, e0]
    have : (k + (M : Int)).toNat = n + (k - n + M).toNat := by omega
    rw [this, Nat.pow_add, Nat.mul_assoc]
  · rw [e0, signed_mul, s1]; congr 1
/-- the double x is worth i * 2^k, and |i| is at most A -/
def DB (k : Int) (A : Nat) (i : Int) (x : UInt64) : Prop := Dy k i (val64 x) ∧ i.natAbs ≤ A
theorem DB.fin {k i : Int} {A : Nat} {x : UInt64} (h : DB k A i x) : DFin x := dy_fin h.1
theorem DB.nn {k i : Int} {A : Nat} {x : UInt64} (h : DB k A i x) : Jvm.Free.Fl.NoNaN64 x := Jvm.Free.Fl.noNaN64_no.mpr h.fin.notNaN
theorem DB.le {k i : Int} {A B : Nat} {x : UInt64} (h : DB k A i x) (hb : i.natAbs ≤ B) : DB k B i x := ⟨h.1, hb⟩
theorem DB.eqv {k i j : Int} {A : Nat} {x : UInt64} (h : DB k A i x) (e : i = j) : DB k A j x := e ▸ h
theorem db_add {k i j : Int} {A B : Nat} {x y : UInt64} (hx : DB k A i x) (hy : DB k B j y) (hA : A + B < 9007199254740992) (k1 : -1074 ≤ k) (k2 : k ≤ 971) : DB k (A + B) (i + j) (FP.dadd x y) := by
  have h1 := hx.2; have h2 := hy.2
  have hb : (i + j).natAbs ≤ A + B := by omega
  refine ⟨?_, hb⟩
  show Dy k (i + j) (val64 (Core.dadd x y))
  rw [val64_dadd]; exact dy_round (dy_sum hx.1 hy.1) (by omega) k1 k2
theorem db_sub {k i j : Int} {A B : Nat} {x y : UInt64} (hx : DB k A i x) (hy : DB k B j y) (hA : A + B < 9007199254740992) (k1 : -1074 ≤ k) (k2 : k ≤ 971) : DB k (A + B) (i - j) (FP.dsub x y) := by
  have h1 := hx.2; have h2 := hy.2
  have hb : (i - j).natAbs ≤ A + B := by omega
  refine ⟨?_, hb⟩
  show Dy k (i - j) (val64 (Core.dsub x y))
  rw [val64_dsub]; exact dy_round (by rw [Int.sub_eq_add_neg]; exact dy_sum hx.1 (dy_negate hy.1)) (by omega) k1 k2
theorem db_mul {k l i j : Int} {A B : Nat} {x y : UInt64} (hx : DB k A i x) (hy : DB l B j y) (hA : A * B < 9007199254740992) (k1 : -1074 ≤ k + l) (k2 : k + l ≤ 971) : DB (k + l) (A * B) (i * j) (FP.dmul x y) := by
  have hb : (i * j).natAbs ≤ A * B := by rw [Int.natAbs_mul]; exact Nat.mul_le_mul hx.2 hy.2
  refine ⟨?_, hb⟩
  show Dy (k + l) (i * j) (val64 (Core.dmul x y))
  rw [val64_dmul]; exact dy_round (dy_product hx.1 hy.1) (by omega) k1 k2
theorem db_div {k l i j : Int} {A B : Nat} {x y : UInt64} (m : Int) (hx : DB k A i x) (hy : DB l B j y) (hj : j ≠ 0) (hm : i = m * j) (hA : A < 9007199254740992) (k1 : -1074 ≤ k - l) (k2 : k - l ≤ 971) : DB (k - l) A m (FP.ddiv x y) := by
  have h1 : m.natAbs ≤ i.natAbs := by rw [hm, Int.natAbs_mul]; exact Nat.le_mul_of_pos_right _ (by omega)
  have h2 := hx.2
  refine ⟨?_, by omega⟩
  show Dy (k - l) m (val64 (Core.ddiv x y))
  rw [val64_ddiv]; exact dy_quotient hx.1 hy.1 hj hm (by omega) k1 k2
theorem DB.scale {k i : Int} {A : Nat} {x : UInt64} (h : DB k A i x) (n : Nat) : DB (k - n) (A * 2 ^ n) (i * 2 ^ n) x :=
  ⟨dy_scale h.1 n, by rw [Int.natAbs_mul, Int.natAbs_pow]; exact Nat.mul_le_mul_right _ h.2⟩
theorem db_i2d (v : Int32) : DB 0 2147483648 v.toInt (FP.i2d v) := ⟨dy_zero_iff.mpr (i2d_int v), by have := Int32.toInt_lt v; have := Int32.le_toInt v; omega⟩
theorem db_i2d' {v : Int32} {A : Nat} (h : v.toInt.natAbs ≤ A) : DB 0 A v.toInt (FP.i2d v) := (db_i2d v).le h
theorem db_l2d {v : Int64} {A : Nat} (h : v.toInt.natAbs ≤ A) (hA : A ≤ 9007199254740992) : DB 0 A v.toInt (FP.l2d v) := ⟨dy_zero_iff.mpr (l2d_int (by omega)), h⟩
theorem db_dcmp {k i j : Int} {A B : Nat} {x y : UInt64} (hx : DB k A i x) (hy : DB k B j y) : FP.dcmp x y = some (compare i j) := dy_order hx.1 hy.1
theorem db_cv {k i j : Int} {A B : Nat} {x y : UInt64} (hx : DB k A i x) (hy : DB k B j y) (o : CmpOp) : cmpValue (FP.dcmp x y) o = if i < j then -1 else if i = j then 0 else 1 := by
  rw [db_dcmp hx hy, compare_ite]
  by_cases h1 : i < j
  · simp [h1]; rfl
  · by_cases h2 : i = j
    · simp [h2]; rfl
    · simp [h1, h2]; rfl
theorem db_lt {k i j : Int} {A B : Nat} {x y : UInt64} (hx : DB k A i x) (hy : DB k B j y) (o : CmpOp) : cmpValue (FP.dcmp x y) o < 0 ↔ i < j := by
  rw [db_cv hx hy]
  by_cases h1 : i < j
  · simp [h1]
  · by_cases h2 : i = j
    · simp [h2]
    · simp [h1, h2]
theorem db_gt {k i j : Int} {A B : Nat} {x y : UInt64} (hx : DB k A i x) (hy : DB k B j y) (o : CmpOp) : 0 < cmpValue (FP.dcmp x y) o ↔ j < i := by
  rw [db_cv hx hy]
  by_cases h1 : i < j
  · simp [h1, show ¬ j < i by omega]
  · by_cases h2 : i = j
    · simp [h2]
    · simp [h1, h2, show j < i by omega]
theorem db_eq {k i j : Int} {A B : Nat} {x y : UInt64} (hx : DB k A i x) (hy : DB k B j y) (o : CmpOp) : cmpValue (FP.dcmp x y) o = 0 ↔ i = j := by
  rw [db_cv hx hy]
  by_cases h1 : i < j
  · simp [h1, show ¬ i = j by omega]
  · by_cases h2 : i = j
    · simp [h2]
    · simp [h1, h2]
theorem db_c0 : DB 0 0 0 0 := ⟨by rw [show val64 0 = .fin false 0 (-1074) by decide +kernel]; exact dy_mk (by simp) rfl, by decide⟩
theorem db_c1 : DB 0 1 1 4607182418800017408 := ⟨by rw [show val64 4607182418800017408 = .fin false (2 ^ 52) (-52) by decide +kernel]; exact dy_mk (by decide +kernel) rfl, by decide⟩
theorem db_c2 : DB 0 2 2 4611686018427387904 := ⟨by rw [show val64 4611686018427387904 = .fin false (2 ^ 52) (-51) by decide +kernel]; exact dy_mk (by decide +kernel) rfl, by decide⟩
end OwnFloat

section OwnFloatGo
variable {p : Program} {l : Launch} {e : Env} {R : Room} {s : State} {m : MethodId} {args : Array Value} {below : List Frame} {meth : Method} {c : Code} {T : State} {locs : List Loc} {cells slots : Nat} {Z : State} {h : Heap} {Q : Option Value → Heap → List Loc → Prop} {ce sl : Nat} {pc q q' : Nat} {ls : Array Slot} {st : List Value} {a0 : Array Value}
theorem go_i2dB (X : Stand p l e R s m args below meth c T locs cells slots) (hx : p.tables.exec = Jvm.exec) {x : Int32} {A : Nat} {i : Int} (hd : decode c.code pc = .ok (.i2d, 1)) (hp : pc + 1 = q) (hA : DB 0 A i (FP.i2d x)) (K : ∀ z, DB 0 A i z → Go p e below s Q ce sl T (mkF m q ls (.double z :: st))) : Go p e below s Q ce sl T (mkF m pc ls (.int x :: st)) :=
  go_i2d X hx hd hp rfl (K _ hA)
theorem go_l2dB (X : Stand p l e R s m args below meth c T locs cells slots) (hx : p.tables.exec = Jvm.exec) {x : Int64} {A : Nat} {i : Int} (hd : decode c.code pc = .ok (.l2d, 1)) (hp : pc + 1 = q) (hA : DB 0 A i (FP.l2d x)) (K : ∀ z, DB 0 A i z → Go p e below s Q ce sl T (mkF m q ls (.double z :: st))) : Go p e below s Q ce sl T (mkF m pc ls (.long x :: st)) :=
  go_l2d X hx hd hp rfl (K _ hA)
theorem go_f2dB (X : Stand p l e R s m args below meth c T locs cells slots) (hx : p.tables.exec = Jvm.exec) {x : UInt32} {A : Nat} {i : Int} (hd : decode c.code pc = .ok (.f2d, 1)) (hp : pc + 1 = q) (hA : DB 0 A i (FP.f2d x)) (K : ∀ z, DB 0 A i z → Go p e below s Q ce sl T (mkF m q ls (.double z :: st))) : Go p e below s Q ce sl T (mkF m pc ls (.float x :: st)) :=
  go_f2d X hx hd hp hA.nn rfl (K _ hA)
theorem go_daddB (X : Stand p l e R s m args below meth c T locs cells slots) (hx : p.tables.exec = Jvm.exec) {x y : UInt64} {k i j : Int} {A B C : Nat} (hd : decode c.code pc = .ok (.dadd, 1)) (hp : pc + 1 = q) (hA : DB k A i x) (hB : DB k B j y) (b1 : A + B < 9007199254740992) (k1 : -1074 ≤ k) (k2 : k ≤ 971) (hC : A + B = C) (K : ∀ z, DB k C (i + j) z → Go p e below s Q ce sl T (mkF m q ls (.double z :: st))) : Go p e below s Q ce sl T (mkF m pc ls (.double y :: .double x :: st)) :=
  go_dadd X hx hd hp (db_add hA hB b1 k1 k2).nn rfl (K _ (hC ▸ db_add hA hB b1 k1 k2))
theorem go_dsubB (X : Stand p l e R s m args below meth c T locs cells slots) (hx : p.tables.exec = Jvm.exec) {x y : UInt64} {k i j : Int} {A B C : Nat} (hd : decode c.code pc = .ok (.dsub, 1)) (hp : pc + 1 = q) (hA : DB k A i x) (hB : DB k B j y) (b1 : A + B < 9007199254740992) (k1 : -1074 ≤ k) (k2 : k ≤ 971) (hC : A + B = C) (K : ∀ z, DB k C (i - j) z → Go p e below s Q ce sl T (mkF m q ls (.double z :: st))) : Go p e below s Q ce sl T (mkF m pc ls (.double y :: .double x :: st)) :=
  go_dsub X hx hd hp (db_sub hA hB b1 k1 k2).nn rfl (K _ (hC ▸ db_sub hA hB b1 k1 k2))
theorem go_dmulB (X : Stand p l e R s m args below meth c T locs cells slots) (hx : p.tables.exec = Jvm.exec) {x y : UInt64} {k k' kk i j : Int} {A B C : Nat} (hd : decode c.code pc = .ok (.dmul, 1)) (hp : pc + 1 = q) (hA : DB k A i x) (hB : DB k' B j y) (b1 : A * B < 9007199254740992) (k1 : -1074 ≤ k + k') (k2 : k + k' ≤ 971) (hk : k + k' = kk) (hC : A * B = C) (K : ∀ z, DB kk C (i * j) z → Go p e below s Q ce sl T (mkF m q ls (.double z :: st))) : Go p e below s Q ce sl T (mkF m pc ls (.double y :: .double x :: st)) :=
  go_dmul X hx hd hp (db_mul hA hB b1 k1 k2).nn rfl (K _ (hC ▸ hk ▸ db_mul hA hB b1 k1 k2))
theorem go_ddivB (X : Stand p l e R s m args below meth c T locs cells slots) (hx : p.tables.exec = Jvm.exec) {x y : UInt64} {k k' kk i j w0 : Int} {A B : Nat} (hd : decode c.code pc = .ok (.ddiv, 1)) (hp : pc + 1 = q) (hA : DB k A i x) (hB : DB k' B j y) (hj : j ≠ 0) (hm : i = w0 * j) (b1 : A < 9007199254740992) (k1 : -1074 ≤ k - k') (k2 : k - k' ≤ 971) (hk : k - k' = kk) (K : ∀ z, DB kk A w0 z → Go p e below s Q ce sl T (mkF m q ls (.double z :: st))) : Go p e below s Q ce sl T (mkF m pc ls (.double y :: .double x :: st)) :=
  go_ddiv X hx hd hp (db_div w0 hA hB hj hm b1 k1 k2).nn rfl (K _ (hk ▸ db_div w0 hA hB hj hm b1 k1 k2))
theorem go_dif_lt (X : Stand p l e R s m args below meth c T locs cells slots) (hx : p.tables.exec = Jvm.exec) {x y : UInt64} {k i j : Int} {A B : Nat} {cm : CmpOp} {o : Int} (hd : decode c.code pc = .ok (.ifCond .lt o, 3)) (hp : pc + 3 = q) (ho : 0 ≤ (pc : Int) + o) (hq : ((pc : Int) + o).toNat = q') (hA : DB k A i x) (hB : DB k B j y) (KY : i < j → Go p e below s Q ce sl T (mkF m q' ls st)) (KN : ¬ i < j → Go p e below s Q ce sl T (mkF m q ls st)) : Go p e below s Q ce sl T (mkF m pc ls (.int (cmpValue (FP.dcmp x y) cm) :: st)) :=
  go_if_lt X hx hd hp ho hq (fun w => KY ((db_lt hA hB _).mp w)) (fun w => KN (fun z => w ((db_lt hA hB _).mpr z)))
theorem go_dif_ge (X : Stand p l e R s m args below meth c T locs cells slots) (hx : p.tables.exec = Jvm.exec) {x y : UInt64} {k i j : Int} {A B : Nat} {cm : CmpOp} {o : Int} (hd : decode c.code pc = .ok (.ifCond .ge o, 3)) (hp : pc + 3 = q) (ho : 0 ≤ (pc : Int) + o) (hq : ((pc : Int) + o).toNat = q') (hA : DB k A i x) (hB : DB k B j y) (KY : ¬ i < j → Go p e below s Q ce sl T (mkF m q' ls st)) (KN : i < j → Go p e below s Q ce sl T (mkF m q ls st)) : Go p e below s Q ce sl T (mkF m pc ls (.int (cmpValue (FP.dcmp x y) cm) :: st)) :=
  go_if_ge X hx hd hp ho hq (fun w => KY (fun z => w ((db_lt hA hB _).mpr z))) (fun w => KN ((db_lt hA hB _).mp w))
theorem go_dif_gt (X : Stand p l e R s m args below meth c T locs cells slots) (hx : p.tables.exec = Jvm.exec) {x y : UInt64} {k i j : Int} {A B : Nat} {cm : CmpOp} {o : Int} (hd : decode c.code pc = .ok (.ifCond .gt o, 3)) (hp : pc + 3 = q) (ho : 0 ≤ (pc : Int) + o) (hq : ((pc : Int) + o).toNat = q') (hA : DB k A i x) (hB : DB k B j y) (KY : j < i → Go p e below s Q ce sl T (mkF m q' ls st)) (KN : ¬ j < i → Go p e below s Q ce sl T (mkF m q ls st)) : Go p e below s Q ce sl T (mkF m pc ls (.int (cmpValue (FP.dcmp x y) cm) :: st)) :=
  go_if_gt X hx hd hp ho hq (fun w => KY ((db_gt hA hB _).mp w)) (fun w => KN (fun z => w ((db_gt hA hB _).mpr z)))
theorem go_dif_le (X : Stand p l e R s m args below meth c T locs cells slots) (hx : p.tables.exec = Jvm.exec) {x y : UInt64} {k i j : Int} {A B : Nat} {cm : CmpOp} {o : Int} (hd : decode c.code pc = .ok (.ifCond .le o, 3)) (hp : pc + 3 = q) (ho : 0 ≤ (pc : Int) + o) (hq : ((pc : Int) + o).toNat = q') (hA : DB k A i x) (hB : DB k B j y) (KY : ¬ j < i → Go p e below s Q ce sl T (mkF m q' ls st)) (KN : j < i → Go p e below s Q ce sl T (mkF m q ls st)) : Go p e below s Q ce sl T (mkF m pc ls (.int (cmpValue (FP.dcmp x y) cm) :: st)) :=
  go_if_le X hx hd hp ho hq (fun w => KY (fun z => w ((db_gt hA hB _).mpr z))) (fun w => KN ((db_gt hA hB _).mp w))
theorem go_dif_eq (X : Stand p l e R s m args below meth c T locs cells slots) (hx : p.tables.exec = Jvm.exec) {x y : UInt64} {k i j : Int} {A B : Nat} {cm : CmpOp} {o : Int} (hd : decode c.code pc = .ok (.ifCond .eq o, 3)) (hp : pc + 3 = q) (ho : 0 ≤ (pc : Int) + o) (hq : ((pc : Int) + o).toNat = q') (hA : DB k A i x) (hB : DB k B j y) (KY : i = j → Go p e below s Q ce sl T (mkF m q' ls st)) (KN : ¬ i = j → Go p e below s Q ce sl T (mkF m q ls st)) : Go p e below s Q ce sl T (mkF m pc ls (.int (cmpValue (FP.dcmp x y) cm) :: st)) :=
  go_if_eq X hx hd hp ho hq (fun w => KY ((db_eq hA hB _).mp w)) (fun w => KN (fun z => w ((db_eq hA hB _).mpr z)))
theorem go_dif_ne (X : Stand p l e R s m args below meth c T locs cells slots) (hx : p.tables.exec = Jvm.exec) {x y : UInt64} {k i j : Int} {A B : Nat} {cm : CmpOp} {o : Int} (hd : decode c.code pc = .ok (.ifCond .ne o, 3)) (hp : pc + 3 = q) (ho : 0 ≤ (pc : Int) + o) (hq : ((pc : Int) + o).toNat = q') (hA : DB k A i x) (hB : DB k B j y) (KY : ¬ i = j → Go p e below s Q ce sl T (mkF m q' ls st)) (KN : i = j → Go p e below s Q ce sl T (mkF m q ls st)) : Go p e below s Q ce sl T (mkF m pc ls (.int (cmpValue (FP.dcmp x y) cm) :: st)) :=
  go_if_ne X hx hd hp ho hq (fun w => KY (fun z => w ((db_eq hA hB _).mpr z))) (fun w => KN ((db_eq hA hB _).mp w))
end OwnFloatGo

theorem own_0 : DB (-2) 0 0 0 := ⟨by rw [show FP.Core.val64 0 = .fin false 0 (-1074) by decide +kernel]; exact dy_mk (by simp) rfl, by decide⟩
theorem own_c4 : DB 2 1 1 4616189618054758400 := ⟨by rw [show FP.Core.val64 4616189618054758400 = .fin false (2 ^ 52) (-50) by decide +kernel]; exact dy_mk (by decide +kernel) rfl, by decide⟩
theorem own_4 {u : Int32} (h : 0 ≤ u.toInt ∧ u.toInt ≤ 1048575) : ((4 : Int32) * u).toInt = 4 * u.toInt := by
  have h1 := c_imul 4 u; have h2 := rng32 (4 * u); have e2 : (4 : Int32).toInt = 4 := rfl
  rw [e2] at h1; omega
theorem own_mx {mm sp : Int32} (h : 0 ≤ mm.toInt ∧ mm.toInt ≤ 1048575) (hs : sp.toInt = 4 * mm.toInt) : 0 ≤ (if sp - (1 : Int32) < (0 : Int32) then (0 : Int32) else sp - (1 : Int32)).toInt ∧ (if sp - (1 : Int32) < (0 : Int32) then (0 : Int32) else sp - (1 : Int32)).toInt ≤ sp.toInt := by
  have h1 := c_isub sp 1; have h2 := rng32 (sp - 1); have e1 : (1 : Int32).toInt = 1 := rfl
  have e0 : (0 : Int32).toInt = 0 := rfl
  by_cases q : sp - (1 : Int32) < (0 : Int32)
  · rw [if_pos q]; omega
  · rw [if_neg q]; rw [Int32.lt_iff_toInt_lt] at q; omega
theorem own_sp1 {mm sp : Int32} (h : 0 ≤ mm.toInt ∧ mm.toInt ≤ 1048575) (hs : sp.toInt = 4 * mm.toInt) : sp + (1 : Int32) ≠ 0 := fun q => by
  have h1 := c_iadd sp 1; have e1 : (1 : Int32).toInt = 1 := rfl
  have e0 : (0 : Int32).toInt = 0 := rfl
  rw [q] at h1; omega
theorem own_rem {mm sp y : Int32} (h : 0 ≤ mm.toInt ∧ mm.toInt ≤ 1048575) (hs : sp.toInt = 4 * mm.toInt) : 0 ≤ ((y &&& (2147483647 : Int32)) % (sp + (1 : Int32))).toInt ∧ ((y &&& (2147483647 : Int32)) % (sp + (1 : Int32))).toInt ≤ sp.toInt := by
  have h1 := c_iadd sp 1; have e1 : (1 : Int32).toInt = 1 := rfl
  have h2 := rng32 (sp + 1); have h3 := c_and y 2147483647 (by decide); have h4 := (c_iremV (y &&& 2147483647) (sp + 1)).1 h3.1 (by omega)
  omega
theorem own_ch (y : Int32) : 0 ≤ ((y &&& (255 : Int32)).toUInt32.toUInt16.toUInt32.toInt32).toInt ∧ ((y &&& (255 : Int32)).toUInt32.toUInt16.toUInt32.toInt32).toInt ≤ 255 := by
  have h1 := c_and y 255 (by decide); have h2 := c_i2c (y &&& 255); have e1 : (255 : Int32).toInt = 255 := rfl
  omega
theorem own_narc {b : Int32} (h : 0 ≤ b.toInt ∧ b.toInt ≤ 255) : nar .char b = b := by
  have h2 := c_i2c b
  refine Int32.toInt_inj.mp ?_
  show b.toUInt32.toUInt16.toUInt32.toInt32.toInt = b.toInt
  omega
theorem own_lat {b : Int32} (h : 0 ≤ b.toInt ∧ b.toInt ≤ 255) : ¬ b < 0 ∧ ¬ (255 : Int32) < b := by
  rw [Int32.lt_iff_toInt_lt, Int32.lt_iff_toInt_lt]; have e1 : (255 : Int32).toInt = 255 := rfl
  have e0 : (0 : Int32).toInt = 0 := rfl
  omega

theorem pd_0 : parseMethodDescriptor "(II)I" = some ⟨[.int, .int], some .int⟩ := by decide +kernel
theorem pd_1 : parseMethodDescriptor "([C)V" = some ⟨[(.array .char)], none⟩ := by decide +kernel
theorem pd_2 : parseMethodDescriptor "(DDLjava/lang/String;)D" = some ⟨[.double, .double, (.object "java/lang/String")], some .double⟩ := by decide +kernel
theorem d1_0 : decode jdk_29_method_65_code 0 = .ok (.iload_n 0, 1) := by decide +kernel
theorem d1_1 : decode jdk_29_method_65_code 1 = .ok (.iload_n 1, 1) := by decide +kernel
theorem d1_2 : decode jdk_29_method_65_code 2 = .ok (.if_icmp .lt 7, 3) := by decide +kernel
theorem d1_5 : decode jdk_29_method_65_code 5 = .ok (.iload_n 0, 1) := by decide +kernel
theorem d1_6 : decode jdk_29_method_65_code 6 = .ok (.goto 4, 3) := by decide +kernel
theorem d1_9 : decode jdk_29_method_65_code 9 = .ok (.iload_n 1, 1) := by decide +kernel
theorem d1_10 : decode jdk_29_method_65_code 10 = .ok (.ireturn, 1) := by decide +kernel
theorem ef_1 (m : MethodId) (x0 : Int32) (x1 : Int32) : entryFrame m #[(.int x0), (.int x1)] 2 = mkF m 0 #[.val (.int x0), .val (.int x1)] [] := by first | (simp [entryFrame, mkF, argsToLocals, Value.category]; done) | rfl
set_option maxRecDepth 65536 in
set_option maxHeartbeats 40000000 in
theorem rm1 (l : Launch) (Z : State) (a0 : Array Value) (hw : ∀ d ∈ tables_1, d.before a0 Z = true) (ws : List Jvm.Cond) (p_ : Int32) (q_ : Int32)  (h0 : Heap)  :
    Con l (⟨"java/lang/Math", "max", "(II)I"⟩ : MethodName) jdk_29_method_65_code 2 (some .int) ws ({ frames := 0, cells := 0, slots := 0, locals := 0 } : Room) Z #[(.int p_), (.int q_)] h0 (fun v h L => (∀ n, Fr n L) ∧ v = some (.int (if p_ < q_ then q_ else p_)) ∧ h = h0) := by
  refine con_of (Jvm.Free.JP.mathPlain rfl (by decide +kernel)) ?_
  intro p e s m below meth c s₁ X0 hx hby hml hret hlk hown hnm hZ e0
  refine Go.cast (ef_1 m p_ q_) ?_
  refine go_iloadN (q := 1) X0 hx (hb hby d1_0) rfl rfl ?_
  refine go_iloadN (q := 2) X0 hx (hb hby d1_1) rfl rfl ?_
  refine go_icmp_lt (q := 5) (q' := 9) X0 hx (hb hby d1_2) rfl (by decide) rfl (fun hc2 => ?_) (fun hc2 => ?_)
  · refine go_iloadN (q := 10) X0 hx (hb hby d1_9) rfl rfl ?_
    exact go_retI X0 hx hret hlk (hb hby d1_10) (by decide) (by decide) ⟨fun _ => Fr.nil _, by rw [if_pos hc2], e0⟩
  · refine go_iloadN (q := 6) X0 hx (hb hby d1_5) rfl rfl ?_
    refine go_goto (q := 10) X0 hx (hb hby d1_6) (by decide) rfl ?_
    exact go_retI X0 hx hret hlk (hb hby d1_10) (by decide) (by decide) ⟨fun _ => Fr.nil _, by rw [if_neg hc2], e0⟩
theorem d8_0 : decode prog_44_method_2_code 0 = .ok (.dload_n 0, 1) := by decide +kernel
theorem d8_1 : decode prog_44_method_2_code 1 = .ok (.dconst 0, 1) := by decide +kernel
theorem d8_2 : decode prog_44_method_2_code 2 = .ok (.dcmp .l, 1) := by decide +kernel
theorem d8_3 : decode prog_44_method_2_code 3 = .ok (.ifCond .lt 9, 3) := by decide +kernel
theorem d8_6 : decode prog_44_method_2_code 6 = .ok (.dload_n 0, 1) := by decide +kernel
theorem d8_7 : decode prog_44_method_2_code 7 = .ok (.dload_n 2, 1) := by decide +kernel
theorem d8_8 : decode prog_44_method_2_code 8 = .ok (.dcmp .g, 1) := by decide +kernel
theorem d8_9 : decode prog_44_method_2_code 9 = .ok (.ifCond .le 21, 3) := by decide +kernel
theorem d8_30 : decode prog_44_method_2_code 30 = .ok (.dload_n 0, 1) := by decide +kernel
theorem d8_31 : decode prog_44_method_2_code 31 = .ok (.dreturn, 1) := by decide +kernel
theorem pn_8 : plainName "com/example/ply4/ply4/Points" = true := by first | (simp [plainName, overriddenIn]; done) | decide +kernel
theorem ef_8 (m : MethodId) (x0 : UInt64) (x1 : UInt64) (x2 : Addr) : entryFrame m #[(.double x0), (.double x1), (.ref x2)] 5 = mkF m 0 #[.val (.double x0), .second, .val (.double x1), .second, .val (.ref x2)] [] := by first | (simp [entryFrame, mkF, argsToLocals, Value.category]; done) | rfl
set_option maxRecDepth 65536 in
set_option maxHeartbeats 40000000 in
theorem rm8 (l : Launch) (Z : State) (a0 : Array Value) (hw : ∀ d ∈ tables_1, d.before a0 Z = true) (ws : List Jvm.Cond) (d0 : UInt64) (d1 : UInt64) (an : Addr) (i0 i1 : Int) (h0 : Heap) (F0 : DB (-2) 4194300 i0 d0) (F1 : DB (-2) 4194300 i1 d1) (p0 : 0 ≤ i0) (p1 : i0 ≤ i1) :
    Con l (⟨"com/example/ply4/ply4/Points", "inRange", "(DDLjava/lang/String;)D"⟩ : MethodName) prog_44_method_2_code 5 (some .double) ws ({ frames := 0, cells := 0, slots := 0, locals := 0 } : Room) Z #[(.double d0), (.double d1), (.ref an)] h0 (fun v h L => (∀ n, Fr n L) ∧ v = some (.double d0) ∧ h = h0) := by
  refine con_of (plainFor_of_name pn_8) ?_
  intro p e s m below meth c s₁ X0 hx hby hml hret hlk hown hnm hZ e0
  refine Go.cast (ef_8 m d0 d1 an) ?_
  refine go_dloadN (q := 1) X0 hx (hb hby d8_0) rfl rfl ?_
  refine go_dconst0 (q := 2) (v := (0 : UInt64)) X0 hx (hb hby d8_1) rfl rfl ?_
  refine go_dcmp (q := 3) X0 hx (hb hby d8_2) rfl rfl ?_
  refine go_dif_lt (q := 6) (q' := 12) X0 hx (hb hby d8_3) rfl (by decide) rfl F0 own_0 (fun hc3 => ?_) (fun hc3 => ?_)
  · exact absurd hc3 (by omega)
  · refine go_dloadN (q := 7) X0 hx (hb hby d8_6) rfl rfl ?_
    refine go_dloadN (q := 8) X0 hx (hb hby d8_7) rfl rfl ?_
    refine go_dcmp (q := 9) X0 hx (hb hby d8_8) rfl rfl ?_
    refine go_dif_le (q := 12) (q' := 30) X0 hx (hb hby d8_9) rfl (by decide) rfl F0 F1 (fun hc9 => ?_) (fun hc9 => ?_)
    · refine go_dloadN (q := 31) X0 hx (hb hby d8_30) rfl rfl ?_
      exact go_retD X0 hx hret hlk (hb hby d8_31) (by decide) (by decide) ⟨fun _ => Fr.nil _, rfl, e0⟩
    · exact absurd hc9 (by omega)
theorem pn_0 : plainName "com/example/ply4/ply4/PointsInRangePinLaw" = true := by first | (simp [plainName, overriddenIn]; done) | decide +kernel
theorem ef_0 (m : MethodId) (x0 : Int32) (x1 : Int32) (x2 : Int32) (x3 : Int32) : entryFrame m #[(.int x0), (.int x1), (.int x2), (.int x3)] maxLocals = mkF m 0 #[.val (.int x0), .val (.int x1), .val (.int x2), .val (.int x3), .unset, .unset, .unset, .unset, .unset, .unset, .unset, .unset, .unset, .unset, .unset, .unset] [] := by first | (simp [entryFrame, mkF, argsToLocals, Value.category, maxLocals]; done) | rfl
set_option maxRecDepth 65536 in
set_option maxHeartbeats 40000000 in
theorem rm0 (l : Launch) (Z : State) (a0 : Array Value) (hw : ∀ d ∈ tables_1, d.before a0 Z = true) (ws : List Jvm.Cond) (m_ : Int32) (p_ : Int32) (s_ : Int32) (c_ : Int32) (cs : Int32) (h0 : Heap) (hcs : ¬ cs = 0) (S_ : Sta Z h0 "java/lang/String" "COMPACT_STRINGS" "Z" (.int cs)) :
    Con l x code maxLocals ret ws room_1 Z #[(.int m_), (.int p_), (.int s_), (.int c_)] h0 (fun v h L => v = some (.int (1 : Int32)) ∧ Fr h0.size L) := by
  refine con_of (plainFor_of_name pn_0) ?_
  intro p e s m below meth c s₁ X0 hx hby hml hret hlk hown hnm hZ e0
  refine Go.cast (ef_0 m m_ p_ s_ c_) ?_
  have N0 := Fr.nil h0.size
  have hsz : h0.size ≤ h0.size := (Nat.le_refl _)
  have hws : ∀ d ∈ StrChars.Road.words, d.before a0 Z = true := fun d hd => hw d ((by decide +kernel : ∀ d ∈ StrChars.Road.words, d ∈ tables_1) d hd)
  refine go_iloadN (q := 1) X0 hx (hb hby at_0) rfl rfl ?_
  refine go_ldcI (q := 3) (v := (1048575 : Int32)) X0 hx hZ hown (hw _ (List.mem_of_getElem? (i := 0) rfl)) (hb hby at_1) rfl ?_
  refine go_iand (q := 4) (v := (m_ &&& (1048575 : Int32))) X0 hx (hb hby at_3) rfl rfl ?_
  refine go_istore (q := 6) (l' := #[.val (.int m_), .val (.int p_), .val (.int s_), .val (.int c_), .val (.int (m_ &&& (1048575 : Int32))), .unset, .unset, .unset, .unset, .unset, .unset, .unset, .unset, .unset, .unset, .unset]) X0 hx (hb hby at_4) rfl rfl ?_
  suffices Hmm : ∀ mm : Int32, mm = (m_ &&& (1048575 : Int32)) → Go p e below s (fun v h L => v = some (.int (1 : Int32)) ∧ Fr h0.size L) room_1.cells room_1.slots s₁ (mkF m 6 #[.val (.int m_), .val (.int p_), .val (.int s_), .val (.int c_), .val (.int mm), .unset, .unset, .unset, .unset, .unset, .unset, .unset, .unset, .unset, .unset, .unset] []) from Hmm _ rfl
  intro mm emm
  have hmm : 0 ≤ mm.toInt ∧ mm.toInt ≤ 1048575 := by rw [emm]; exact c_and _ _ (by decide)
  refine go_iconst (q := 7) (v := (4 : Int32)) X0 hx (hb hby at_6) rfl rfl ?_
  refine go_iload (q := 9) X0 hx (hb hby at_7) rfl rfl ?_
  refine go_imul (q := 10) (v := ((4 : Int32) * mm)) X0 hx (hb hby at_9) rfl rfl ?_
  refine go_istore (q := 12) (l' := #[.val (.int m_), .val (.int p_), .val (.int s_), .val (.int c_), .val (.int mm), .val (.int ((4 : Int32) * mm)), .unset, .unset, .unset, .unset, .unset, .unset, .unset, .unset, .unset, .unset]) X0 hx (hb hby at_10) rfl rfl ?_
  suffices Hsp : ∀ sp : Int32, sp = ((4 : Int32) * mm) → Go p e below s (fun v h L => v = some (.int (1 : Int32)) ∧ Fr h0.size L) room_1.cells room_1.slots s₁ (mkF m 12 #[.val (.int m_), .val (.int p_), .val (.int s_), .val (.int c_), .val (.int mm), .val (.int sp), .unset, .unset, .unset, .unset, .unset, .unset, .unset, .unset, .unset, .unset] []) from Hsp _ rfl
  intro sp esp
  have hsp : sp.toInt = 4 * mm.toInt := by rw [esp]; exact own_4 hmm
  refine go_iloadN (q := 13) X0 hx (hb hby at_12) rfl rfl ?_
  refine go_iconst (q := 14) (v := (3 : Int32)) X0 hx (hb hby at_13) rfl rfl ?_
  refine go_iand (q := 15) (v := (s_ &&& (3 : Int32))) X0 hx (hb hby at_14) rfl rfl ?_
  refine go_istore (q := 17) (l' := #[.val (.int m_), .val (.int p_), .val (.int s_), .val (.int c_), .val (.int mm), .val (.int sp), .val (.int (s_ &&& (3 : Int32))), .unset, .unset, .unset, .unset, .unset, .unset, .unset, .unset, .unset]) X0 hx (hb hby at_15) rfl rfl ?_
  suffices Hsl : ∀ sl : Int32, sl = (s_ &&& (3 : Int32)) → Go p e below s (fun v h L => v = some (.int (1 : Int32)) ∧ Fr h0.size L) room_1.cells room_1.slots s₁ (mkF m 17 #[.val (.int m_), .val (.int p_), .val (.int s_), .val (.int c_), .val (.int mm), .val (.int sp), .val (.int sl), .unset, .unset, .unset, .unset, .unset, .unset, .unset, .unset, .unset] []) from Hsl _ rfl
  intro sl esl
  refine go_iload (q := 19) X0 hx (hb hby at_17) rfl rfl ?_
  suffices J : ∀ (T9 : State) (l9 : List Loc), Stand p l e room_1 s m #[(.int m_), (.int p_), (.int s_), (.int c_)] below meth c T9 l9 0 0 → Fr h0.size l9 → T9.heap = h0 → ∀ q_ : Int32, (0 ≤ q_.toInt ∧ q_.toInt ≤ sp.toInt) → Go p e below s (fun v h L => v = some (.int (1 : Int32)) ∧ Fr h0.size L) room_1.cells room_1.slots T9 (mkF m 71 #[.val (.int m_), .val (.int p_), .val (.int s_), .val (.int c_), .val (.int mm), .val (.int sp), .val (.int sl), .val (.int q_), .unset, .unset, .unset, .unset, .unset, .unset, .unset, .unset] []) by
    refine go_if_ne (q := 22) (q' := 28) X0 hx (hb hby at_19) rfl (by decide) rfl (fun hc19 => ?_) (fun hc19 => ?_)
    · refine go_iload (q := 30) X0 hx (hb hby at_28) rfl rfl ?_
      refine go_iconst (q := 31) (v := (1 : Int32)) X0 hx (hb hby at_30) rfl rfl ?_
      refine go_icmp_ne (q := 34) (q' := 41) X0 hx (hb hby at_31) rfl (by decide) rfl (fun hc31 => ?_) (fun hc31 => ?_)
      · refine go_iload (q := 43) X0 hx (hb hby at_41) rfl rfl ?_
        refine go_iconst (q := 44) (v := (2 : Int32)) X0 hx (hb hby at_43) rfl rfl ?_
        refine go_icmp_ne (q := 47) (q' := 60) X0 hx (hb hby at_44) rfl (by decide) rfl (fun hc44 => ?_) (fun hc44 => ?_)
        · refine go_iloadN (q := 61) X0 hx (hb hby at_60) rfl rfl ?_
          refine go_ldcI (q := 63) (v := (2147483647 : Int32)) X0 hx hZ hown (hw _ (List.mem_of_getElem? (i := 40) rfl)) (hb hby at_61) rfl ?_
          refine go_iand (q := 64) (v := (p_ &&& (2147483647 : Int32))) X0 hx (hb hby at_63) rfl rfl ?_
          refine go_iload (q := 66) X0 hx (hb hby at_64) rfl rfl ?_
          refine go_iconst (q := 67) (v := (1 : Int32)) X0 hx (hb hby at_66) rfl rfl ?_
          refine go_iadd (q := 68) (v := (sp + (1 : Int32))) X0 hx (hb hby at_67) rfl rfl ?_
          refine go_irem (q := 69) (v := ((p_ &&& (2147483647 : Int32)) % (sp + (1 : Int32)))) X0 hx (hb hby at_68) rfl (own_sp1 hmm hsp) rfl ?_
          refine go_istore (q := 71) (l' := #[.val (.int m_), .val (.int p_), .val (.int s_), .val (.int c_), .val (.int mm), .val (.int sp), .val (.int sl), .val (.int ((p_ &&& (2147483647 : Int32)) % (sp + (1 : Int32)))), .unset, .unset, .unset, .unset, .unset, .unset, .unset, .unset]) X0 hx (hb hby at_69) rfl rfl ?_
          exact J s₁ _ X0 N0 e0 _ (own_rem hmm hsp)
        · refine go_iload (q := 49) X0 hx (hb hby at_47) rfl rfl ?_
          refine go_iconst (q := 50) (v := (1 : Int32)) X0 hx (hb hby at_49) rfl rfl ?_
          refine go_isub (q := 51) (v := (sp - (1 : Int32))) X0 hx (hb hby at_50) rfl rfl ?_
          refine go_iconst (q := 52) (v := (0 : Int32)) X0 hx (hb hby at_51) rfl rfl ?_
          suffices Hs1 : ∀ s1 : Int32, s1 = (sp - (1 : Int32)) → Go p e below s (fun v h L => v = some (.int (1 : Int32)) ∧ Fr h0.size L) room_1.cells room_1.slots s₁ (mkF m 52 #[.val (.int m_), .val (.int p_), .val (.int s_), .val (.int c_), .val (.int mm), .val (.int sp), .val (.int sl), .unset, .unset, .unset, .unset, .unset, .unset, .unset, .unset, .unset] [(.int (0 : Int32)), (.int s1)]) from Hs1 _ rfl
          intro s1 es1
          refine go_callS (q := 55) (W := 0) X0 hx hZ hown e0 (hw _ (List.mem_of_getElem? (i := 1) rfl)) (hw _ (List.mem_of_getElem? (i := 2) rfl)) (hw _ (List.mem_of_getElem? (i := 3) rfl)) (hw _ (List.mem_of_getElem? (i := 4) rfl)) (by decide) [(.int s1), (.int (0 : Int32))] [] (rm1 l Z a0 hw [] s1 (0 : Int32) h0) (by rw [hml]; rfl) rfl (lenOf pd_0 rfl) (Nat.le_of_eq rfl) (by decide) (by decide) (hb hby at_52) rfl (by decide) (by decide) ?_
          rintro T1 L1 v1 X1 ⟨Np1, rfl, e1⟩
          have N1 := Fr.app N0 (Np1 _)
          show Go p e below s (fun v h L => v = some (.int (1 : Int32)) ∧ Fr h0.size L) room_1.cells room_1.slots T1 (mkF m 55 #[.val (.int m_), .val (.int p_), .val (.int s_), .val (.int c_), .val (.int mm), .val (.int sp), .val (.int sl), .unset, .unset, .unset, .unset, .unset, .unset, .unset, .unset, .unset] [(.int (if s1 < (0 : Int32) then (0 : Int32) else s1))])
          suffices Hmx : ∀ mx : Int32, mx = (if s1 < (0 : Int32) then (0 : Int32) else s1) → Go p e below s (fun v h L => v = some (.int (1 : Int32)) ∧ Fr h0.size L) room_1.cells room_1.slots T1 (mkF m 55 #[.val (.int m_), .val (.int p_), .val (.int s_), .val (.int c_), .val (.int mm), .val (.int sp), .val (.int sl), .unset, .unset, .unset, .unset, .unset, .unset, .unset, .unset, .unset] [(.int mx)]) from Hmx _ rfl
          intro mx emx
          refine go_istore (q := 57) (l' := #[.val (.int m_), .val (.int p_), .val (.int s_), .val (.int c_), .val (.int mm), .val (.int sp), .val (.int sl), .val (.int mx), .unset, .unset, .unset, .unset, .unset, .unset, .unset, .unset]) X1 hx (hb hby at_55) rfl rfl ?_
          refine go_goto (q := 71) X1 hx (hb hby at_57) (by decide) rfl ?_
          exact J T1 _ X1 N1 e1 _ (by rw [emx, es1]; exact own_mx hmm hsp)
      · refine go_iload (q := 36) X0 hx (hb hby at_34) rfl rfl ?_
        refine go_istore (q := 38) (l' := #[.val (.int m_), .val (.int p_), .val (.int s_), .val (.int c_), .val (.int mm), .val (.int sp), .val (.int sl), .val (.int sp), .unset, .unset, .unset, .unset, .unset, .unset, .unset, .unset]) X0 hx (hb hby at_36) rfl rfl ?_
        refine go_goto (q := 71) X0 hx (hb hby at_38) (by decide) rfl ?_
        exact J s₁ _ X0 N0 e0 _ (by omega)
    · refine go_iconst (q := 23) (v := (0 : Int32)) X0 hx (hb hby at_22) rfl rfl ?_
      refine go_istore (q := 25) (l' := #[.val (.int m_), .val (.int p_), .val (.int s_), .val (.int c_), .val (.int mm), .val (.int sp), .val (.int sl), .val (.int (0 : Int32)), .unset, .unset, .unset, .unset, .unset, .unset, .unset, .unset]) X0 hx (hb hby at_23) rfl rfl ?_
      refine go_goto (q := 71) X0 hx (hb hby at_25) (by decide) rfl ?_
      exact J s₁ _ X0 N0 e0 _ (by rw [show (0 : Int32).toInt = 0 from rfl]; omega)
  intro T9 l9 X9 N9 e9 q_ hq
  refine go_iload (q := 73) X9 hx (hb hby at_71) rfl rfl ?_
  refine go_i2dB (q := 74) X9 hx (hb hby at_73) rfl (db_i2d' (A := 1048575) (by omega)) (fun zm_ hzm_ => ?_)
  have hms : DB (-2) 4194300 (mm.toInt * 4) zm_ := hzm_.scale 2
  refine go_dstore (q := 76) (l' := #[.val (.int m_), .val (.int p_), .val (.int s_), .val (.int c_), .val (.int mm), .val (.int sp), .val (.int sl), .val (.int q_), .val (.double zm_), .second, .unset, .unset, .unset, .unset, .unset, .unset]) X9 hx (hb hby at_74) rfl rfl ?_
  refine go_iload (q := 78) X9 hx (hb hby at_76) rfl rfl ?_
  refine go_i2dB (q := 79) X9 hx (hb hby at_78) rfl (db_i2d' (A := 4194300) (by omega)) (fun zq hzq => ?_)
  refine go_ldc2D (q := 82) (v := (4616189618054758400 : UInt64)) X9 hx hZ hown (hw _ (List.mem_of_getElem? (i := 5) rfl)) (hb hby at_79) rfl ?_
  refine go_ddivB (q := 83) (kk := (-2)) (w0 := q_.toInt) X9 hx (hb hby at_82) rfl hzq own_c4 (by decide) (by omega) (by decide) (by decide) (by decide) rfl (fun pt hpt => ?_)
  refine go_dstore (q := 85) (l' := #[.val (.int m_), .val (.int p_), .val (.int s_), .val (.int c_), .val (.int mm), .val (.int sp), .val (.int sl), .val (.int q_), .val (.double zm_), .second, .val (.double pt), .second, .unset, .unset, .unset, .unset]) X9 hx (hb hby at_83) rfl rfl ?_
  refine go_iconst (q := 86) (v := (2 : Int32)) X9 hx (hb hby at_85) rfl rfl ?_
  refine go_newP (q := 88) X9 hx hZ (hw _ (List.mem_of_getElem? (i := 6) rfl)) e9 (hb hby at_86) rfl (by decide) 2 (by decide) (by decide) (by decide) (by decide) (fun T2 h2 k_bc bc eb2 X2 e2 E2 V_bc => ?_)
  have g_bc : h0.size ≤ bc := Nat.le_trans hsz (Nat.le_of_eq eb2.symm)
  replace S_ := S_.ext E2
  replace hsz := Nat.le_trans hsz E2.1
  replace V_bc : Arv Z h2 bc k_bc .char (2 : Int32) [(.int (0 : Int32)), (.int (0 : Int32))] (.int (0 : Int32)) := V_bc.pad (pad_rep [] (.int (0 : Int32)) 2)
  refine go_astore (q := 90) (l' := #[.val (.int m_), .val (.int p_), .val (.int s_), .val (.int c_), .val (.int mm), .val (.int sp), .val (.int sl), .val (.int q_), .val (.double zm_), .second, .val (.double pt), .second, .val (.ref bc), .unset, .unset, .unset]) X2 hx (hb hby at_88) rfl rfl rfl ?_
  refine go_aload (q := 92) X2 hx (hb hby at_90) rfl rfl rfl ?_
  refine go_iconst (q := 93) (v := (0 : Int32)) X2 hx (hb hby at_92) rfl rfl ?_
  refine go_iloadN (q := 94) X2 hx (hb hby at_93) rfl rfl ?_
  refine go_sipush (q := 97) (v := (255 : Int32)) X2 hx (hb hby at_94) rfl rfl ?_
  refine go_iand (q := 98) (v := (c_ &&& (255 : Int32))) X2 hx (hb hby at_97) rfl rfl ?_
  refine go_i2c (q := 99) (v := ((c_ &&& (255 : Int32)).toUInt32.toUInt16.toUInt32.toInt32)) X2 hx (hb hby at_98) rfl rfl ?_
  suffices Hch0 : ∀ ch0 : Int32, ch0 = ((c_ &&& (255 : Int32)).toUInt32.toUInt16.toUInt32.toInt32) → Go p e below s (fun v h L => v = some (.int (1 : Int32)) ∧ Fr h0.size L) room_1.cells room_1.slots T2 (mkF m 99 #[.val (.int m_), .val (.int p_), .val (.int s_), .val (.int c_), .val (.int mm), .val (.int sp), .val (.int sl), .val (.int q_), .val (.double zm_), .second, .val (.double pt), .second, .val (.ref bc), .unset, .unset, .unset] [(.int ch0), (.int (0 : Int32)), (.ref bc)]) from Hch0 _ rfl
  intro ch0 ech0
  have hch0 : 0 ≤ ch0.toInt ∧ ch0.toInt ≤ 255 := by rw [ech0]; exact own_ch _
  refine go_castore (q := 100) X2 hx hZ e2 V_bc ⟨by decide, by decide⟩ 0 rfl (Nat.le_of_ble_eq_true rfl) N9 g_bc (hb hby at_99) rfl (fun T3 h3 l3 X3 N3 e3 W3 V3 => ?_)
  replace S_ := S_.wr W3
  replace hsz := Nat.le_trans hsz (Nat.le_of_eq W3.size.symm)
  replace V_bc : Arv Z h3 bc k_bc .char (2 : Int32) [(.int (nar .char ch0)), (.int (0 : Int32))] (.int (0 : Int32)) := V3
  rw [own_narc hch0] at V_bc
  refine go_aload (q := 102) X3 hx (hb hby at_100) rfl rfl rfl ?_
  refine go_iconst (q := 103) (v := (1 : Int32)) X3 hx (hb hby at_102) rfl rfl ?_
  refine go_iloadN (q := 104) X3 hx (hb hby at_103) rfl rfl ?_
  refine go_bipush (q := 106) (v := (8 : Int32)) X3 hx (hb hby at_104) rfl rfl ?_
  refine go_iushr (q := 107) (v := ((c_.toUInt32 >>> ((8 : Int32) &&& 31).toUInt32).toInt32)) X3 hx (hb hby at_106) rfl rfl ?_
  refine go_sipush (q := 110) (v := (255 : Int32)) X3 hx (hb hby at_107) rfl rfl ?_
  refine go_iand (q := 111) (v := (((c_.toUInt32 >>> ((8 : Int32) &&& 31).toUInt32).toInt32) &&& (255 : Int32))) X3 hx (hb hby at_110) rfl rfl ?_
  refine go_i2c (q := 112) (v := ((((c_.toUInt32 >>> ((8 : Int32) &&& 31).toUInt32).toInt32) &&& (255 : Int32)).toUInt32.toUInt16.toUInt32.toInt32)) X3 hx (hb hby at_111) rfl rfl ?_
  suffices Hch1 : ∀ ch1 : Int32, ch1 = ((((c_.toUInt32 >>> ((8 : Int32) &&& 31).toUInt32).toInt32) &&& (255 : Int32)).toUInt32.toUInt16.toUInt32.toInt32) → Go p e below s (fun v h L => v = some (.int (1 : Int32)) ∧ Fr h0.size L) room_1.cells room_1.slots T3 (mkF m 112 #[.val (.int m_), .val (.int p_), .val (.int s_), .val (.int c_), .val (.int mm), .val (.int sp), .val (.int sl), .val (.int q_), .val (.double zm_), .second, .val (.double pt), .second, .val (.ref bc), .unset, .unset, .unset] [(.int ch1), (.int (1 : Int32)), (.ref bc)]) from Hch1 _ rfl
  intro ch1 ech1
  have hch1 : 0 ≤ ch1.toInt ∧ ch1.toInt ≤ 255 := by rw [ech1]; exact own_ch _
  refine go_castore (q := 113) X3 hx hZ e3 V_bc ⟨by decide, by decide⟩ 1 rfl (Nat.le_of_ble_eq_true rfl) N3 g_bc (hb hby at_112) rfl (fun T4 h4 l4 X4 N4 e4 W4 V4 => ?_)
  replace S_ := S_.wr W4
  replace hsz := Nat.le_trans hsz (Nat.le_of_eq W4.size.symm)
  replace V_bc : Arv Z h4 bc k_bc .char (2 : Int32) [(.int ch0), (.int (nar .char ch1))] (.int (0 : Int32)) := V4
  rw [own_narc hch1] at V_bc
  have hlat : ∀ c ∈ [ch0, ch1], ¬ c < 0 ∧ ¬ (255 : Int32) < c := by
    intro c hc
    simp only [List.mem_cons, List.not_mem_nil, or_false] at hc
    rcases hc with rfl | rfl
    · exact own_lat hch0
    · exact own_lat hch1
  refine go_newO (q := 116) X4 hx hZ hown (hw _ (List.mem_of_getElem? (i := 7) rfl)) (hw _ (List.mem_of_getElem? (i := 8) rfl)) (hw _ (List.mem_of_getElem? (i := 9) rfl)) e4 (hb hby at_113) rfl (by decide) (by decide) (fun T5 h5 bs eb5 X5 e5 E5 A5 D5 => ?_)
  have g_bs : h0.size ≤ bs := Nat.le_trans hsz (Nat.le_of_eq eb5.symm)
  have ne_bc_bs : bc ≠ bs := Nat.ne_of_lt (Nat.lt_of_lt_of_eq V_bc.lt eb5.symm)
  replace S_ := S_.ext E5
  replace V_bc := V_bc.ext E5
  replace hsz := Nat.le_trans hsz E5.1
  have E_bs := A5
  have F_coder_bs : Fld Z h5 bs "java/lang/String" "coder" "B" (.int (0 : Int32)) := D5 (Or.inr (hw _ (List.mem_of_getElem? (i := 33) rfl))) (ty := .byte) (by decide)
  have F_value_bs : Fld Z h5 bs "java/lang/String" "value" "[B" .null := D5 (Or.inr (hw _ (List.mem_of_getElem? (i := 35) rfl))) (ty := (.array .byte)) (by decide)
  refine go_dup (q := 117) X5 hx (hb hby at_116) rfl rfl ?_
  refine go_aload (q := 119) X5 hx (hb hby at_117) rfl rfl rfl ?_
  refine go_callIB (q := 122) (W := 1) X5 hx hZ hown e5 rfl (hw _ (List.mem_of_getElem? (i := 10) rfl)) (hw _ (List.mem_of_getElem? (i := 11) rfl)) (hw _ (List.mem_of_getElem? (i := 12) rfl)) (by decide) bs [(.ref bc)] [(.ref bs)] (StrChars.Road.backV (W := 1) hZ hws (kI := 4) (hw _ (List.mem_of_getElem? (i := 8) rfl)) (cs := [ch0, ch1]) (bs := [ch0.toInt8.toInt32, ch1.toInt8.toInt32]) (n := 2) g_bs hsz E_bs F_value_bs F_coder_bs V_bc S_ hcs rfl rfl (by decide) (by decide) hlat rfl (by decide) (by decide)) (by rw [hml]; rfl) rfl (lenOf pd_1 rfl) (Nat.le_of_eq rfl) (hb hby at_119) rfl (by decide) (by decide) ?_
  rintro T6 L6 v6 X6 ⟨rfl, Nq6, K6, -, -, -⟩
  have N6 := Fr.app N4 Nq6
  show Go p e below s (fun v h L => v = some (.int (1 : Int32)) ∧ Fr h0.size L) room_1.cells room_1.slots T6 (mkF m 122 #[.val (.int m_), .val (.int p_), .val (.int s_), .val (.int c_), .val (.int mm), .val (.int sp), .val (.int sl), .val (.int q_), .val (.double zm_), .second, .val (.double pt), .second, .val (.ref bc), .unset, .unset, .unset] [(.ref bs)])
  refine go_astore (q := 124) (l' := #[.val (.int m_), .val (.int p_), .val (.int s_), .val (.int c_), .val (.int mm), .val (.int sp), .val (.int sl), .val (.int q_), .val (.double zm_), .second, .val (.double pt), .second, .val (.ref bc), .val (.ref bs), .unset, .unset]) X6 hx (hb hby at_122) rfl rfl rfl ?_
  refine go_dload (q := 126) X6 hx (hb hby at_124) rfl rfl ?_
  refine go_dload (q := 128) X6 hx (hb hby at_126) rfl rfl ?_
  refine go_aload (q := 130) X6 hx (hb hby at_128) rfl rfl rfl ?_
  refine go_callS (q := 133) (W := 0) X6 hx hZ hown rfl (hw _ (List.mem_of_getElem? (i := 36) rfl)) (hw _ (List.mem_of_getElem? (i := 37) rfl)) (hw _ (List.mem_of_getElem? (i := 38) rfl)) (hw _ (List.mem_of_getElem? (i := 39) rfl)) (by decide) [(.double pt), (.double zm_), (.ref bs)] [] (rm8 l Z a0 hw [] pt zm_ bs _ _ T6.heap hpt hms hq.1 (by omega)) (by rw [hml]; rfl) rfl (lenOf pd_2 rfl) (Nat.le_of_eq rfl) (by decide) (by decide) (hb hby at_130) rfl (by decide) (by decide) ?_
  rintro T7 L7 v7 X7 ⟨Np7, rfl, e7⟩
  have N7 := Fr.app N6 (Np7 _)
  show Go p e below s (fun v h L => v = some (.int (1 : Int32)) ∧ Fr h0.size L) room_1.cells room_1.slots T7 (mkF m 133 #[.val (.int m_), .val (.int p_), .val (.int s_), .val (.int c_), .val (.int mm), .val (.int sp), .val (.int sl), .val (.int q_), .val (.double zm_), .second, .val (.double pt), .second, .val (.ref bc), .val (.ref bs), .unset, .unset] [(.double pt)])
  refine go_dstore (q := 135) (l' := #[.val (.int m_), .val (.int p_), .val (.int s_), .val (.int c_), .val (.int mm), .val (.int sp), .val (.int sl), .val (.int q_), .val (.double zm_), .second, .val (.double pt), .second, .val (.ref bc), .val (.ref bs), .val (.double pt), .second]) X7 hx (hb hby at_133) rfl rfl ?_
  refine go_dload (q := 137) X7 hx (hb hby at_135) rfl rfl ?_
  refine go_dload (q := 139) X7 hx (hb hby at_137) rfl rfl ?_
  refine go_dcmp (q := 140) X7 hx (hb hby at_139) rfl rfl ?_
  refine go_dif_ne (q := 143) (q' := 162) X7 hx (hb hby at_140) rfl (by decide) rfl hpt hpt (fun hc140 => ?_) (fun hc140 => ?_)
  · exact absurd rfl hc140
  · refine go_dload (q := 145) X7 hx (hb hby at_143) rfl rfl ?_
    refine go_dconst0 (q := 146) (v := (0 : UInt64)) X7 hx (hb hby at_145) rfl rfl ?_
    refine go_dcmp (q := 147) X7 hx (hb hby at_146) rfl rfl ?_
    refine go_dif_lt (q := 150) (q' := 162) X7 hx (hb hby at_147) rfl (by decide) rfl hpt own_0 (fun hc147 => ?_) (fun hc147 => ?_)
    · exact absurd hc147 (by omega)
    · refine go_dload (q := 152) X7 hx (hb hby at_150) rfl rfl ?_
      refine go_dload (q := 154) X7 hx (hb hby at_152) rfl rfl ?_
      refine go_dcmp (q := 155) X7 hx (hb hby at_154) rfl rfl ?_
      refine go_dif_gt (q := 158) (q' := 162) X7 hx (hb hby at_155) rfl (by decide) rfl hpt hms (fun hc155 => ?_) (fun hc155 => ?_)
      · exact absurd hc155 (by omega)
      · refine go_iconst (q := 159) (v := (1 : Int32)) X7 hx (hb hby at_158) rfl rfl ?_
        refine go_goto (q := 163) X7 hx (hb hby at_159) (by decide) rfl ?_
        exact go_retN X7 hx (by simp) hret hlk (hb hby at_163) (by decide) (by decide) ⟨rfl, N7⟩
set_option maxRecDepth 65536 in
set_option maxHeartbeats 40000000 in
theorem comes_1 {Post : Tables → Env → Array Value → State → Outcome → State → Prop} (hpost : ∀ tb e args s v u, (limb_1_1.after args s (.returned v) u = true ∧ limb_1_2.after args s (.returned v) u = true ∧ True) → FrameEnd s (.returned v) u (Jvm.fieldLocs frame_1_writes args s ++ Jvm.arrayLocs frame_1_arrays args s ++ Jvm.staticLocs frame_1_statics s) 16 128 → Post tb e args s (.returned v) u) :
    ArmFor flags0 classFile x code maxLocals ret World_1 tables_1 room_1 Calls_1 rest_1 Pre_1 Post := by
  intro l hfl _ _ p e ha hc hk s m args below hf hA hF happ hP
  obtain ⟨hcalls, hrest, hpre⟩ := hP
  obtain ⟨-, -, -, hnamed, -, -, -, hat⟩ := (Spec.applies_iff hf).mp happ
  obtain ⟨hg, hn⟩ := and_e (Cond.before_iff.mp (show (Jvm.Cond.and given_1 narrow_1).before args s = true from hpre))
  obtain ⟨hcnt, hg0⟩ := and_e hg
  obtain ⟨ha0, hg1⟩ := and_e hg0
  obtain ⟨ha1, hg2⟩ := and_e hg1
  obtain ⟨ha2, hg3⟩ := and_e hg2
  have ha3 := hg3
  obtain ⟨w0, w1, w2, w3, rfl⟩ : ∃ w0 w1 w2 w3 : Value, args = #[w0, w1, w2, w3] := by
    have hs : args.size = 4 := by simpa [Cond.value, given_1] using hcnt
    obtain ⟨L⟩ := args
    match L, hs with
    | [w0, w1, w2, w3], _ => exact ⟨w0, w1, w2, w3, rfl⟩
  have hw := fun d (hd : d ∈ tables_1) => atoms_spec (ws := Jvm.Cond.code x code maxLocals ret :: tables_1) hat d (List.mem_cons_of_mem _ hd)
  obtain ⟨i0, ei0⟩ := is_v ha0
  obtain rfl : w0 = (.int i0) := Option.some.inj ei0
  obtain ⟨i1, ei1⟩ := is_v ha1
  obtain rfl : w1 = (.int i1) := Option.some.inj ei1
  obtain ⟨i2, ei2⟩ := is_v ha2
  obtain rfl : w2 = (.int i2) := Option.some.inj ei2
  obtain ⟨i3, ei3⟩ := is_v ha3
  obtain rfl : w3 = (.int i3) := Option.some.inj ei3
  obtain ⟨hsets, hown0⟩ := atoms_of _ (rest_1_c_eq ▸ (show rest_1_c.before _ s = true from hrest))
  have n3 := not_v (Cond.before_iff.mp (hsets _ (List.mem_of_getElem? (i := 2) rfl)))
  obtain ⟨cs, e6⟩ := is_v (Cond.before_iff.mp (hsets _ (List.mem_of_getElem? (i := 1) rfl)))
  have S8 : Sta s s.heap "java/lang/String" "COMPACT_STRINGS" "Z" (.int cs) := Sta.start e6 (Or.inl (hsets _ (List.mem_of_getElem? (i := 0) rfl)))
  have c9 : ¬ (cs = (0 : Int32)) := gotF (Cond.eq_ints e6 (Term.int_eval (0))) n3
  obtain ⟨n, o, h1, h2, h3, _, L, rfl, ⟨rfl, N⟩, hq⟩ := rm0 l s _ hw tables_1 i0 i1 i2 i3 cs s.heap c9 S8 p e ha hc hk s m _ below hf ((Spec.applies_iff_loose hf).mp happ).1 ⟨rfl, State.Warmed39.refl s, rfl⟩ trivial
  refine ⟨n, _, h1, h2, h3, hpost _ _ _ _ _ _ ⟨Cond.after_iff.mpr rfl, Cond.after_iff.mpr (eq_i res_at (Term.int_eval (1)) rfl), trivial⟩ ⟨hq.1, hq.2.1, (hq.2.2.sift fun y hy => Or.inr (N y hy)).mono (by decide) (by decide)⟩⟩
theorem main_1_1 : Claimed_1_1 := comes_1 fun _ _ _ _ _ _ h hF => ⟨h.1, hF⟩
theorem main_1_2 : Claimed_1_2 := comes_1 fun _ _ _ _ _ _ h hF => ⟨h.2.1, hF⟩

end Jvm.Pilot.@@N@@
namespace Jvm.Pilot.@@N@@
open Jvm Jvm.ClassFile Sem Op Lib Jvm.Free Jvm.Stand Jvm.Pilot.@@N@@.Jvm.D
/-! MADE BY PROGRAM (witnessworld.py) out of the Statement's table words and the real class files: 21 classes; the members and pool entries that the words name. The judged class is class 1, her method 1. -/
namespace start1
open Jvm.ClassFile
def u (s : String) : CpInfo := .utf8 (stringToUtf16 s)
/-- a pool by its gaps: so many unusable entries, then the entry; so many at the end -/
def gap : Nat → List CpInfo → List CpInfo
  | 0, r => r
  | n + 1, r => .unusable :: gap n r
def poolList (es : List (Nat × CpInfo)) (last : Nat) : List CpInfo := es.foldr (fun e r => gap e.1 (e.2 :: r)) (gap last [])
def pool (es : List (Nat × CpInfo)) (last : Nat) : Array CpInfo := ⟨poolList es last⟩
def fileOf (pool : Array CpInfo) (this : Nat) (attrs : Array Attribute := #[]) (ms : Array MethodInfo := #[]) (fl : Nat := 33) (sup : Nat := 0) (ifs : Array Nat := #[]) (fds : Array FieldInfo := #[]) : ClassFile where
  minorVersion := 0
  majorVersion := 65
  constantPool := pool
  accessFlags := fl
  thisClass := this
  superClass := sup
  interfaces := ifs
  fields := fds
  methods := ms
  attributes := attrs
def plain (name : String) (sup : Option ClassId) : Class where
  name := name
  kind := .ordinary
  loader := none
  accessFlags := 33
  super := sup
  interfaces := #[]
  cf := none
  fields := #[]
  methods := #[]
  instanceTypes := #[]
  staticTypes := #[]
  resolved := #[]
  callSites := []
  init := .initialized
  statics := none
  mirror := none

def pool0 : Array CpInfo := pool [(5, u "<init>"), (0, u "()V"), (1, .class_ 10), (1, u "java/lang/Object")] 113

def k0c0 : Code := { maxStack := 0, maxLocals := 1, code := object_method_1_code, exceptionTable := #[], attributes := #[] }
def k0m0 : Method := { name := "<init>", desc := "()V", sig := { parameters := [], returnType := none }, accessFlags := 1, code := some k0c0 }
/-- java/lang/Object -/
def k0 : Class := { plain "java/lang/Object" none with
  accessFlags := 33
  interfaces := #[]
  cf := some (fileOf pool0 8 #[] #[{ accessFlags := 1, nameIndex := 5, descriptorIndex := 6, attributes := #[] }] 33 0 #[] #[])
  fields := #[]
  methods := #[k0m0]
  instanceTypes := #[]
  staticTypes := #[]
  resolved := Array.replicate 124 none
  statics := none }

def pool1 : Array CpInfo := pool [(2, .class_ 4), (1, u "java/lang/Object"), (0, u "<init>"), (0, u "()V"), (0, .integer 1048575), (0, .methodref 9 10), (0, .class_ 11), (0, .nameAndType 12 13), (0, u "java/lang/Math"), (0, u "max"), (0, u "(II)I"), (0, .integer 2147483647), (0, .double 4616189618054758400), (1, .class_ 18), (0, u "java/lang/String"), (0, .methodref 17 20), (0, .nameAndType 5 21), (0, u "([C)V"), (0, .methodref 23 24), (0, .class_ 25), (0, .nameAndType 26 27), (0, u "com/example/ply4/ply4/Points"), (0, u "inRange"), (0, u "(DDLjava/lang/String;)D"), (0, .class_ 29), (0, u "com/example/ply4/ply4/PointsInRangePinLaw"), (2, u "law"), (0, u "(IIII)Z")] 5

def k1m0 : Method := { name := "<init>", desc := "()V", sig := { parameters := [], returnType := none }, accessFlags := 1, code := none }
def k1c1 : Code := { maxStack := 5, maxLocals := 16, code := code, exceptionTable := #[], attributes := #[] }
def k1m1 : Method := { name := "law", desc := "(IIII)Z", sig := { parameters := [.int, .int, .int, .int], returnType := some .boolean }, accessFlags := 9, code := some k1c1 }
/-- com/example/ply4/ply4/PointsInRangePinLaw -/
def k1 : Class := { plain "com/example/ply4/ply4/PointsInRangePinLaw" (some 0) with
  accessFlags := 49
  interfaces := #[]
  cf := some (fileOf pool1 28 #[] #[{ accessFlags := 1, nameIndex := 5, descriptorIndex := 6, attributes := #[] }, { accessFlags := 9, nameIndex := 32, descriptorIndex := 33, attributes := #[] }] 49 2 #[] #[])
  fields := #[]
  methods := #[k1m0, k1m1]
  instanceTypes := #[]
  staticTypes := #[]
  resolved := Array.replicate 39 none
  statics := none }

def pool2 : Array CpInfo := pool [(1, .class_ 2), (0, u "java/lang/Math"), (1, .class_ 6), (1, u "java/lang/Object"), (0, u "<init>"), (0, u "()V"), (89, .class_ 100), (1, u "java/lang/Math$RandomNumberGeneratorHolder"), (71, u "negativeZeroFloatBits"), (0, u "J"), (2, u "negativeZeroDoubleBits"), (21, u "max"), (46, u "$assertionsDisabled"), (0, u "Z"), (88, u "(II)I"), (2, u "twoToTheDoubleScaleDown"), (0, u "D"), (4, u "twoToTheDoubleScaleUp"), (9, u "E"), (3, u "PI"), (2, u "TAU"), (2, u "DEGREES_TO_RADIANS"), (0, u "RADIANS_TO_DEGREES")] 94

def k2m0 : Method := { name := "<init>", desc := "()V", sig := { parameters := [], returnType := none }, accessFlags := 2, code := none }
def k2c1 : Code := { maxStack := 2, maxLocals := 2, code := jdk_29_method_65_code, exceptionTable := #[], attributes := #[] }
def k2m1 : Method := { name := "max", desc := "(II)I", sig := { parameters := [.int, .int], returnType := some .int }, accessFlags := 9, code := some k2c1 }
/-- java/lang/Math -/
def k2 : Class := { plain "java/lang/Math" (some 0) with
  accessFlags := 49
  interfaces := #[]
  cf := some (fileOf pool2 1 #[.nestMembers #[98]] #[{ accessFlags := 2, nameIndex := 7, descriptorIndex := 8, attributes := #[] }, { accessFlags := 9, nameIndex := 198, descriptorIndex := 335, attributes := #[] }] 49 4 #[] #[{ accessFlags := 25, nameIndex := 354, descriptorIndex := 339, attributes := #[] }, { accessFlags := 25, nameIndex := 358, descriptorIndex := 339, attributes := #[] }, { accessFlags := 25, nameIndex := 361, descriptorIndex := 339, attributes := #[] }, { accessFlags := 26, nameIndex := 364, descriptorIndex := 339, attributes := #[] }, { accessFlags := 26, nameIndex := 365, descriptorIndex := 339, attributes := #[] }, { accessFlags := 26, nameIndex := 172, descriptorIndex := 173, attributes := #[] }, { accessFlags := 26, nameIndex := 176, descriptorIndex := 173, attributes := #[] }, { accessFlags := 8, nameIndex := 344, descriptorIndex := 339, attributes := #[] }, { accessFlags := 8, nameIndex := 338, descriptorIndex := 339, attributes := #[] }, { accessFlags := 4120, nameIndex := 245, descriptorIndex := 246, attributes := #[] }])
  fields := #[{ name := "E", type := .double, accessFlags := 25, slot := 0, constantValue := 0 }, { name := "PI", type := .double, accessFlags := 25, slot := 1, constantValue := 0 }, { name := "TAU", type := .double, accessFlags := 25, slot := 2, constantValue := 0 }, { name := "DEGREES_TO_RADIANS", type := .double, accessFlags := 26, slot := 3, constantValue := 0 }, { name := "RADIANS_TO_DEGREES", type := .double, accessFlags := 26, slot := 4, constantValue := 0 }, { name := "negativeZeroFloatBits", type := .long, accessFlags := 26, slot := 5, constantValue := 0 }, { name := "negativeZeroDoubleBits", type := .long, accessFlags := 26, slot := 6, constantValue := 0 }, { name := "twoToTheDoubleScaleUp", type := .double, accessFlags := 8, slot := 7, constantValue := 0 }, { name := "twoToTheDoubleScaleDown", type := .double, accessFlags := 8, slot := 8, constantValue := 0 }, { name := "$assertionsDisabled", type := .boolean, accessFlags := 4120, slot := 9, constantValue := 0 }]
  methods := #[k2m0, k2m1]
  instanceTypes := #[]
  staticTypes := #[.double, .double, .double, .double, .double, .long, .long, .double, .double, .boolean]
  resolved := Array.replicate 460 none
  statics := none }

def pool3 : Array CpInfo := pool [(1, .class_ 2), (0, u "java/io/Serializable"), (0, .class_ 4), (0, u "java/lang/Object")] 2

/-- java/io/Serializable -/
def k3 : Class := { plain "java/io/Serializable" (some 0) with
  accessFlags := 1537
  interfaces := #[]
  cf := some (fileOf pool3 1 #[] #[] 1537 3 #[] #[])
  fields := #[]
  methods := #[]
  instanceTypes := #[]
  staticTypes := #[]
  resolved := Array.replicate 7 none
  statics := none }

def pool4 : Array CpInfo := pool [(1, .class_ 2), (0, u "java/lang/Comparable"), (0, .class_ 4), (0, u "java/lang/Object")] 7

/-- java/lang/Comparable -/
def k4 : Class := { plain "java/lang/Comparable" (some 0) with
  accessFlags := 1537
  interfaces := #[]
  cf := some (fileOf pool4 1 #[] #[] 1537 3 #[] #[])
  fields := #[]
  methods := #[]
  instanceTypes := #[]
  staticTypes := #[]
  resolved := Array.replicate 12 none
  statics := none }

def pool5 : Array CpInfo := pool [(2, .class_ 4), (1, u "java/lang/CharSequence"), (42, .class_ 48), (0, u "java/lang/CharSequence$1CodePointIterator"), (10, .class_ 60), (0, u "java/lang/CharSequence$1CharIterator"), (5, .class_ 67), (0, u "java/lang/Object")] 63

/-- java/lang/CharSequence -/
def k5 : Class := { plain "java/lang/CharSequence" (some 0) with
  accessFlags := 1537
  interfaces := #[]
  cf := some (fileOf pool5 2 #[.nestMembers #[47, 59]] #[] 1537 66 #[] #[])
  fields := #[]
  methods := #[]
  instanceTypes := #[]
  staticTypes := #[]
  resolved := Array.replicate 131 none
  statics := none }

def pool6 : Array CpInfo := pool [(1, .class_ 2), (0, u "java/lang/constant/Constable"), (0, .class_ 4), (0, u "java/lang/Object")] 6

/-- java/lang/constant/Constable -/
def k6 : Class := { plain "java/lang/constant/Constable" (some 0) with
  accessFlags := 1537
  interfaces := #[]
  cf := some (fileOf pool6 1 #[] #[] 1537 3 #[] #[])
  fields := #[]
  methods := #[]
  instanceTypes := #[]
  staticTypes := #[]
  resolved := Array.replicate 11 none
  statics := none }

def pool7 : Array CpInfo := pool [(1, .class_ 2), (0, u "java/lang/constant/ConstantDesc"), (0, .class_ 4), (0, u "java/lang/Object")] 32

/-- java/lang/constant/ConstantDesc -/
def k7 : Class := { plain "java/lang/constant/ConstantDesc" (some 0) with
  accessFlags := 1537
  interfaces := #[]
  cf := some (fileOf pool7 1 #[] #[] 1537 3 #[] #[])
  fields := #[]
  methods := #[]
  instanceTypes := #[]
  staticTypes := #[]
  resolved := Array.replicate 37 none
  statics := none }

def pool8 : Array CpInfo := pool [(1, .methodref 2 3), (0, .class_ 4), (0, .nameAndType 5 6), (0, u "java/lang/Object"), (0, u "<init>"), (0, u "()V"), (2, .fieldref 10 11), (0, .class_ 12), (0, .nameAndType 13 14), (0, u "java/lang/String"), (0, u "value"), (0, u "[B"), (0, .fieldref 10 16), (0, .nameAndType 17 18), (0, u "coder"), (0, u "B"), (2, u "hash"), (0, u "I"), (2, u "hashIsZero"), (0, u "Z"), (0, .methodref 10 28), (0, .nameAndType 5 29), (0, u "([CIILjava/lang/Void;)V"), (8, .fieldref 10 39), (0, .nameAndType 40 26), (0, u "COMPACT_STRINGS"), (1, .class_ 44), (1, u "java/lang/StringUTF16"), (0, u "compress"), (1, .methodref 42 48), (0, .nameAndType 49 50), (0, u "coderFromArrayLen"), (0, u "([BI)B"), (126, .methodref 42 178), (0, .nameAndType 45 179), (0, u "([CII)[B"), (395, .class_ 576), (0, u "java/lang/CharSequence"), (22, u "CASE_INSENSITIVE_ORDER"), (0, u "Ljava/util/Comparator;"), (409, u "([C)V"), (90, u "serialPersistentFields"), (0, u "[Ljava/io/ObjectStreamField;"), (0, .class_ 1104), (0, u "java/lang/String$CaseInsensitiveComparator"), (1, .class_ 1107), (0, u "java/io/Serializable"), (0, .class_ 1109), (0, u "java/lang/Comparable"), (0, .class_ 1111), (0, u "java/lang/constant/Constable"), (0, .class_ 1113), (0, u "java/lang/constant/ConstantDesc"), (2, u "serialVersionUID"), (0, u "J"), (3, u "REPL"), (0, u "C"), (2, u "LATIN1"), (1, u "UTF16")] 323

def k8m0 : Method := { name := "<init>", desc := "()V", sig := { parameters := [], returnType := none }, accessFlags := 1, code := none }
def k8c1 : Code := { maxStack := 5, maxLocals := 2, code := jdk_42_method_3_code, exceptionTable := #[], attributes := #[] }
def k8m1 : Method := { name := "<init>", desc := "([C)V", sig := { parameters := [(.array .char)], returnType := none }, accessFlags := 1, code := some k8c1 }
def k8c2 : Code := { maxStack := 4, maxLocals := 6, code := jdk_42_method_149_code, exceptionTable := #[], attributes := #[] }
def k8m2 : Method := { name := "<init>", desc := "([CIILjava/lang/Void;)V", sig := { parameters := [(.array .char), .int, .int, (.object "java/lang/Void")], returnType := none }, accessFlags := 2, code := some k8c2 }
/-- java/lang/String -/
def k8 : Class := { plain "java/lang/String" (some 0) with
  accessFlags := 49
  interfaces := #[3, 4, 5, 6, 7]
  cf := some (fileOf pool8 10 #[.nestMembers #[1103]] #[{ accessFlags := 1, nameIndex := 5, descriptorIndex := 6, attributes := #[] }, { accessFlags := 1, nameIndex := 5, descriptorIndex := 1010, attributes := #[] }, { accessFlags := 2, nameIndex := 5, descriptorIndex := 29, attributes := #[] }] 49 2 #[1106, 1108, 575, 1110, 1112] #[{ accessFlags := 18, nameIndex := 13, descriptorIndex := 14, attributes := #[] }, { accessFlags := 18, nameIndex := 17, descriptorIndex := 18, attributes := #[] }, { accessFlags := 2, nameIndex := 21, descriptorIndex := 22, attributes := #[] }, { accessFlags := 2, nameIndex := 25, descriptorIndex := 26, attributes := #[] }, { accessFlags := 26, nameIndex := 1116, descriptorIndex := 1117, attributes := #[] }, { accessFlags := 24, nameIndex := 40, descriptorIndex := 26, attributes := #[] }, { accessFlags := 26, nameIndex := 1101, descriptorIndex := 1102, attributes := #[] }, { accessFlags := 26, nameIndex := 1121, descriptorIndex := 1122, attributes := #[] }, { accessFlags := 25, nameIndex := 599, descriptorIndex := 600, attributes := #[] }, { accessFlags := 24, nameIndex := 1125, descriptorIndex := 18, attributes := #[] }, { accessFlags := 24, nameIndex := 1127, descriptorIndex := 18, attributes := #[] }])
  fields := #[{ name := "value", type := (.array .byte), accessFlags := 18, slot := 0, constantValue := 0 }, { name := "coder", type := .byte, accessFlags := 18, slot := 1, constantValue := 0 }, { name := "hash", type := .int, accessFlags := 2, slot := 2, constantValue := 0 }, { name := "hashIsZero", type := .boolean, accessFlags := 2, slot := 3, constantValue := 0 }, { name := "serialVersionUID", type := .long, accessFlags := 26, slot := 0, constantValue := 0 }, { name := "COMPACT_STRINGS", type := .boolean, accessFlags := 24, slot := 1, constantValue := 0 }, { name := "serialPersistentFields", type := (.array (.object "java/io/ObjectStreamField")), accessFlags := 26, slot := 2, constantValue := 0 }, { name := "REPL", type := .char, accessFlags := 26, slot := 3, constantValue := 0 }, { name := "CASE_INSENSITIVE_ORDER", type := (.object "java/util/Comparator"), accessFlags := 25, slot := 4, constantValue := 0 }, { name := "LATIN1", type := .byte, accessFlags := 24, slot := 5, constantValue := 0 }, { name := "UTF16", type := .byte, accessFlags := 24, slot := 6, constantValue := 0 }]
  methods := #[k8m0, k8m1, k8m2]
  instanceTypes := #[(.array .byte), .byte, .int, .boolean]
  staticTypes := #[.long, .boolean, (.array (.object "java/io/ObjectStreamField")), .char, (.object "java/util/Comparator"), .byte, .byte]
  resolved := Array.replicate 1451 none
  statics := some 0 }

def pool9 : Array CpInfo := pool [(6, .class_ 8), (1, u "java/lang/Object"), (0, u "<init>"), (0, u "()V"), (1, .class_ 14), (1, u "java/lang/StringUTF16"), (31, u "$assertionsDisabled"), (0, u "Z"), (13, u "HI_BYTE_SHIFT"), (0, u "I"), (2, u "LO_BYTE_SHIFT"), (49, .methodref 12 116), (0, .nameAndType 117 118), (0, u "compress"), (0, u "([CI[BII)I"), (3, u "([CII)[B"), (138, u "coderFromArrayLen"), (0, u "([BI)B"), (106, .class_ 371), (1, u "java/lang/StringUTF16$LinesSpliterator"), (58, u "MAX_LENGTH"), (196, .class_ 628), (0, u "java/lang/StringUTF16$CodePointsSpliterator"), (0, .class_ 630), (0, u "java/lang/StringUTF16$CharsSpliterator")] 4

def k9m0 : Method := { name := "<init>", desc := "()V", sig := { parameters := [], returnType := none }, accessFlags := 0, code := none }
def k9c1 : Code := { maxStack := 2, maxLocals := 2, code := jdk_52_method_15_code, exceptionTable := #[], attributes := #[] }
def k9m1 : Method := { name := "coderFromArrayLen", desc := "([BI)B", sig := { parameters := [(.array .byte), .int], returnType := some .byte }, accessFlags := 8, code := some k9c1 }
def k9c2 : Code := { maxStack := 5, maxLocals := 6, code := jdk_52_method_16_code, exceptionTable := #[], attributes := #[] }
def k9m2 : Method := { name := "compress", desc := "([CII)[B", sig := { parameters := [(.array .char), .int, .int], returnType := some (.array .byte) }, accessFlags := 9, code := some k9c2 }
def k9c3 : Code := { maxStack := 3, maxLocals := 7, code := jdk_52_method_21_code, exceptionTable := #[], attributes := #[] }
def k9m3 : Method := { name := "compress", desc := "([CI[BII)I", sig := { parameters := [(.array .char), .int, (.array .byte), .int, .int], returnType := some .int }, accessFlags := 9, code := some k9c3 }
/-- java/lang/StringUTF16 -/
def k9 : Class := { plain "java/lang/StringUTF16" (some 0) with
  accessFlags := 48
  interfaces := #[]
  cf := some (fileOf pool9 12 #[.nestMembers #[627, 629, 369]] #[{ accessFlags := 0, nameIndex := 9, descriptorIndex := 10, attributes := #[] }, { accessFlags := 8, nameIndex := 261, descriptorIndex := 262, attributes := #[] }, { accessFlags := 9, nameIndex := 117, descriptorIndex := 122, attributes := #[] }, { accessFlags := 9, nameIndex := 117, descriptorIndex := 118, attributes := #[] }] 48 6 #[] #[{ accessFlags := 26, nameIndex := 61, descriptorIndex := 62, attributes := #[] }, { accessFlags := 26, nameIndex := 65, descriptorIndex := 62, attributes := #[] }, { accessFlags := 24, nameIndex := 430, descriptorIndex := 62, attributes := #[] }, { accessFlags := 4120, nameIndex := 46, descriptorIndex := 47, attributes := #[] }])
  fields := #[{ name := "HI_BYTE_SHIFT", type := .int, accessFlags := 26, slot := 0, constantValue := 0 }, { name := "LO_BYTE_SHIFT", type := .int, accessFlags := 26, slot := 1, constantValue := 0 }, { name := "MAX_LENGTH", type := .int, accessFlags := 24, slot := 2, constantValue := 0 }, { name := "$assertionsDisabled", type := .boolean, accessFlags := 4120, slot := 3, constantValue := 0 }]
  methods := #[k9m0, k9m1, k9m2, k9m3]
  instanceTypes := #[]
  staticTypes := #[.int, .int, .int, .boolean]
  resolved := Array.replicate 635 none
  statics := none }

def pool10 : Array CpInfo := pool [(2, .class_ 4), (1, u "java/lang/Object"), (0, u "<init>"), (0, u "()V"), (9, .class_ 17), (0, u "com/example/ply4/ply4/Points"), (2, u "inRange"), (0, u "(DDLjava/lang/String;)D")] 18

def k10m0 : Method := { name := "<init>", desc := "()V", sig := { parameters := [], returnType := none }, accessFlags := 2, code := none }
def k10c1 : Code := { maxStack := 7, maxLocals := 5, code := prog_44_method_2_code, exceptionTable := #[], attributes := #[] }
def k10m1 : Method := { name := "inRange", desc := "(DDLjava/lang/String;)D", sig := { parameters := [.double, .double, (.object "java/lang/String")], returnType := some .double }, accessFlags := 8, code := some k10c1 }
/-- com/example/ply4/ply4/Points -/
def k10 : Class := { plain "com/example/ply4/ply4/Points" (some 0) with
  accessFlags := 48
  interfaces := #[]
  cf := some (fileOf pool10 16 #[] #[{ accessFlags := 2, nameIndex := 5, descriptorIndex := 6, attributes := #[] }, { accessFlags := 8, nameIndex := 20, descriptorIndex := 21, attributes := #[] }] 48 2 #[] #[])
  fields := #[]
  methods := #[k10m0, k10m1]
  instanceTypes := #[]
  staticTypes := #[]
  resolved := Array.replicate 40 none
  statics := none }

def pool11 : Array CpInfo := pool [(4, .class_ 6), (1, u "java/lang/Object"), (0, u "<init>"), (0, u "()V"), (5, .class_ 16), (1, u "java/lang/StringLatin1"), (104, u "$assertionsDisabled"), (0, u "Z"), (98, .class_ 223), (1, u "java/lang/StringLatin1$LinesSpliterator"), (166, .class_ 391), (0, u "java/lang/StringLatin1$CharsSpliterator")] 3

def k11m0 : Method := { name := "<init>", desc := "()V", sig := { parameters := [], returnType := none }, accessFlags := 0, code := none }
/-- java/lang/StringLatin1 -/
def k11 : Class := { plain "java/lang/StringLatin1" (some 0) with
  accessFlags := 48
  interfaces := #[]
  cf := some (fileOf pool11 14 #[.nestMembers #[390, 221]] #[{ accessFlags := 0, nameIndex := 7, descriptorIndex := 8, attributes := #[] }] 48 4 #[] #[{ accessFlags := 4120, nameIndex := 121, descriptorIndex := 122, attributes := #[] }])
  fields := #[{ name := "$assertionsDisabled", type := .boolean, accessFlags := 4120, slot := 0, constantValue := 0 }]
  methods := #[k11m0]
  instanceTypes := #[]
  staticTypes := #[.boolean]
  resolved := Array.replicate 395 none
  statics := none }

def pool12 : Array CpInfo := pool [(2, .class_ 4), (1, u "java/lang/Object"), (0, u "<init>"), (0, u "()V"), (17, .class_ 26), (1, u "jdk/internal/util/Preconditions"), (28, .class_ 56), (0, u "jdk/internal/util/Preconditions$4"), (57, .class_ 115), (0, u "jdk/internal/util/Preconditions$1"), (7, u "SIOOBE_FORMATTER"), (0, u "Ljava/util/function/BiFunction;"), (0, .class_ 126), (0, u "jdk/internal/util/Preconditions$2"), (3, u "AIOOBE_FORMATTER"), (0, .class_ 132), (0, u "jdk/internal/util/Preconditions$3"), (3, u "IOOBE_FORMATTER")] 57

def k12m0 : Method := { name := "<init>", desc := "()V", sig := { parameters := [], returnType := none }, accessFlags := 1, code := none }
/-- jdk/internal/util/Preconditions -/
def k12 : Class := { plain "jdk/internal/util/Preconditions" (some 0) with
  accessFlags := 33
  interfaces := #[]
  cf := some (fileOf pool12 24 #[.nestMembers #[55, 131, 125, 114]] #[{ accessFlags := 1, nameIndex := 5, descriptorIndex := 6, attributes := #[] }] 33 2 #[] #[{ accessFlags := 25, nameIndex := 123, descriptorIndex := 124, attributes := #[] }, { accessFlags := 25, nameIndex := 130, descriptorIndex := 124, attributes := #[] }, { accessFlags := 25, nameIndex := 136, descriptorIndex := 124, attributes := #[] }])
  fields := #[{ name := "SIOOBE_FORMATTER", type := (.object "java/util/function/BiFunction"), accessFlags := 25, slot := 0, constantValue := 0 }, { name := "AIOOBE_FORMATTER", type := (.object "java/util/function/BiFunction"), accessFlags := 25, slot := 1, constantValue := 0 }, { name := "IOOBE_FORMATTER", type := (.object "java/util/function/BiFunction"), accessFlags := 25, slot := 2, constantValue := 0 }]
  methods := #[k12m0]
  instanceTypes := #[]
  staticTypes := #[(.object "java/util/function/BiFunction"), (.object "java/util/function/BiFunction"), (.object "java/util/function/BiFunction")]
  resolved := Array.replicate 194 none
  statics := some 1 }

def pool13 : Array CpInfo := pool [(9, u "<init>"), (6, .class_ 18), (1, u "java/lang/Object"), (0, u "()V"), (1, .class_ 23), (1, u "jdk/internal/util/ArraysSupport"), (0, u "LOG2_ARRAY_LONG_INDEX_SCALE"), (0, u "I"), (2, u "U"), (0, u "Ljdk/internal/misc/Unsafe;"), (8, u "BIG_ENDIAN"), (0, u "Z"), (8, u "LOG2_BYTE_BIT_SIZE"), (4, u "LOG2_ARRAY_INT_INDEX_SCALE"), (54, u "JLA"), (0, u "Ljdk/internal/access/JavaLangAccess;"), (11, u "LOG2_ARRAY_BOOLEAN_INDEX_SCALE"), (9, u "LOG2_ARRAY_BYTE_INDEX_SCALE"), (5, u "LOG2_ARRAY_CHAR_INDEX_SCALE"), (5, u "LOG2_ARRAY_SHORT_INDEX_SCALE"), (18, u "LOG2_ARRAY_FLOAT_INDEX_SCALE"), (24, u "LOG2_ARRAY_DOUBLE_INDEX_SCALE"), (89, u "T_BOOLEAN"), (2, u "T_CHAR"), (1, u "T_FLOAT"), (1, u "T_DOUBLE"), (1, u "T_BYTE"), (1, u "T_SHORT"), (1, u "T_INT"), (1, u "T_LONG"), (1, u "SOFT_MAX_ARRAY_LENGTH")] 83

def k13m0 : Method := { name := "<init>", desc := "()V", sig := { parameters := [], returnType := none }, accessFlags := 2, code := none }
/-- jdk/internal/util/ArraysSupport -/
def k13 : Class := { plain "jdk/internal/util/ArraysSupport" (some 0) with
  accessFlags := 33
  interfaces := #[]
  cf := some (fileOf pool13 21 #[] #[{ accessFlags := 2, nameIndex := 9, descriptorIndex := 19, attributes := #[] }] 33 16 #[] #[{ accessFlags := 24, nameIndex := 28, descriptorIndex := 29, attributes := #[] }, { accessFlags := 26, nameIndex := 38, descriptorIndex := 39, attributes := #[] }, { accessFlags := 25, nameIndex := 121, descriptorIndex := 25, attributes := #[] }, { accessFlags := 25, nameIndex := 131, descriptorIndex := 25, attributes := #[] }, { accessFlags := 25, nameIndex := 137, descriptorIndex := 25, attributes := #[] }, { accessFlags := 25, nameIndex := 143, descriptorIndex := 25, attributes := #[] }, { accessFlags := 25, nameIndex := 53, descriptorIndex := 25, attributes := #[] }, { accessFlags := 25, nameIndex := 24, descriptorIndex := 25, attributes := #[] }, { accessFlags := 25, nameIndex := 162, descriptorIndex := 25, attributes := #[] }, { accessFlags := 25, nameIndex := 187, descriptorIndex := 25, attributes := #[] }, { accessFlags := 26, nameIndex := 48, descriptorIndex := 25, attributes := #[] }, { accessFlags := 25, nameIndex := 277, descriptorIndex := 25, attributes := #[] }, { accessFlags := 25, nameIndex := 280, descriptorIndex := 25, attributes := #[] }, { accessFlags := 25, nameIndex := 282, descriptorIndex := 25, attributes := #[] }, { accessFlags := 25, nameIndex := 284, descriptorIndex := 25, attributes := #[] }, { accessFlags := 25, nameIndex := 286, descriptorIndex := 25, attributes := #[] }, { accessFlags := 25, nameIndex := 288, descriptorIndex := 25, attributes := #[] }, { accessFlags := 25, nameIndex := 290, descriptorIndex := 25, attributes := #[] }, { accessFlags := 25, nameIndex := 292, descriptorIndex := 25, attributes := #[] }, { accessFlags := 26, nameIndex := 108, descriptorIndex := 109, attributes := #[] }, { accessFlags := 25, nameIndex := 294, descriptorIndex := 25, attributes := #[] }])
  fields := #[{ name := "U", type := (.object "jdk/internal/misc/Unsafe"), accessFlags := 24, slot := 0, constantValue := 0 }, { name := "BIG_ENDIAN", type := .boolean, accessFlags := 26, slot := 1, constantValue := 0 }, { name := "LOG2_ARRAY_BOOLEAN_INDEX_SCALE", type := .int, accessFlags := 25, slot := 2, constantValue := 0 }, { name := "LOG2_ARRAY_BYTE_INDEX_SCALE", type := .int, accessFlags := 25, slot := 3, constantValue := 0 }, { name := "LOG2_ARRAY_CHAR_INDEX_SCALE", type := .int, accessFlags := 25, slot := 4, constantValue := 0 }, { name := "LOG2_ARRAY_SHORT_INDEX_SCALE", type := .int, accessFlags := 25, slot := 5, constantValue := 0 }, { name := "LOG2_ARRAY_INT_INDEX_SCALE", type := .int, accessFlags := 25, slot := 6, constantValue := 0 }, { name := "LOG2_ARRAY_LONG_INDEX_SCALE", type := .int, accessFlags := 25, slot := 7, constantValue := 0 }, { name := "LOG2_ARRAY_FLOAT_INDEX_SCALE", type := .int, accessFlags := 25, slot := 8, constantValue := 0 }, { name := "LOG2_ARRAY_DOUBLE_INDEX_SCALE", type := .int, accessFlags := 25, slot := 9, constantValue := 0 }, { name := "LOG2_BYTE_BIT_SIZE", type := .int, accessFlags := 26, slot := 10, constantValue := 0 }, { name := "T_BOOLEAN", type := .int, accessFlags := 25, slot := 11, constantValue := 0 }, { name := "T_CHAR", type := .int, accessFlags := 25, slot := 12, constantValue := 0 }, { name := "T_FLOAT", type := .int, accessFlags := 25, slot := 13, constantValue := 0 }, { name := "T_DOUBLE", type := .int, accessFlags := 25, slot := 14, constantValue := 0 }, { name := "T_BYTE", type := .int, accessFlags := 25, slot := 15, constantValue := 0 }, { name := "T_SHORT", type := .int, accessFlags := 25, slot := 16, constantValue := 0 }, { name := "T_INT", type := .int, accessFlags := 25, slot := 17, constantValue := 0 }, { name := "T_LONG", type := .int, accessFlags := 25, slot := 18, constantValue := 0 }, { name := "JLA", type := (.object "jdk/internal/access/JavaLangAccess"), accessFlags := 26, slot := 19, constantValue := 0 }, { name := "SOFT_MAX_ARRAY_LENGTH", type := .int, accessFlags := 25, slot := 20, constantValue := 0 }]
  methods := #[k13m0]
  instanceTypes := #[]
  staticTypes := #[(.object "jdk/internal/misc/Unsafe"), .boolean, .int, .int, .int, .int, .int, .int, .int, .int, .int, .int, .int, .int, .int, .int, .int, .int, .int, (.object "jdk/internal/access/JavaLangAccess"), .int]
  resolved := Array.replicate 378 none
  statics := none }

def pool14 : Array CpInfo := pool [(1, u "java/lang/Cloneable"), (0, .class_ 1), (0, u "java/lang/Object"), (0, .class_ 3)] 3

/-- java/lang/Cloneable -/
def k14 : Class := { plain "java/lang/Cloneable" (some 0) with
  accessFlags := 1537
  interfaces := #[]
  cf := some (fileOf pool14 2 #[] #[] 1537 4 #[] #[])
  fields := #[]
  methods := #[]
  instanceTypes := #[]
  staticTypes := #[]
  resolved := Array.replicate 8 none
  statics := none }

/-- the primitive byte -/
def k15 : Class := { plain "byte" none with kind := .primitive 'B', accessFlags := 0x411 }
/-- [B -/
def k16 : Class := { plain "[B" (some 0) with kind := .array 15 .byte, interfaces := #[14, 3], accessFlags := 1041 }

/-- the primitive char -/
def k17 : Class := { plain "char" none with kind := .primitive 'C', accessFlags := 0x411 }
/-- [C -/
def k18 : Class := { plain "[C" (some 0) with kind := .array 17 .char, interfaces := #[14, 3], accessFlags := 1041 }

/-- the primitive int -/
def k19 : Class := { plain "int" none with kind := .primitive 'I', accessFlags := 0x411 }
/-- [I -/
def k20 : Class := { plain "[I" (some 0) with kind := .array 19 .int, interfaces := #[14, 3], accessFlags := 1041 }

def heap : Heap := #[{ cls := 8, slots := #[.long 0, .int 1, .null, .int 0, .null, .int 0, .int 0], vm := .statics 8 },
  { cls := 12, slots := #[.null, .null, .null], vm := .statics 12 }]
def classes : Array Class := #[k0, k1, k2, k3, k4, k5, k6, k7, k8, k9, k10, k11, k12, k13, k14, k15, k16, k17, k18, k19, k20]
def interned : List (Array UInt16 × Addr) := []
def slotsUsed : Nat := 10
def theMethod : MethodId := ⟨1, 1⟩
def args0 : Array Value := #[.int 5, .int 7, .int 3, .int 16705]
def aboutOver (below : List Frame) : State where
  vm := { classes := classes, interned := interned.toArray }
  heap := heap
  slotsUsed := slotsUsed
  threads := #[{ frames := .invoking theMethod args0 :: below }]
def below0 : List Frame := [.native { method := ⟨0, 0⟩, args := #[] }]
def about1 : State := aboutOver below0
def p0 : Program := .bare "" "" ""
def e0 : Env := launch0.env 0 0 0
theorem w_frames : about1.frames = Frame.invoking theMethod args0 :: below0 := rfl
set_option maxRecDepth 65536 in
theorem w_args : argsFit about1.vm theMethod args0 = true := by decide +kernel
set_option maxRecDepth 65536 in
theorem w_heap : heapFits about1 = true := by decide +kernel
set_option maxRecDepth 65536 in
theorem w_runnable : about1.curStatus? = some .runnable := by decide +kernel
set_option maxRecDepth 65536 in
theorem w_alone : about1.alone = true := by decide +kernel
set_option maxRecDepth 65536 in
theorem w_named : about1.methodNamed? x = some theMethod := by decide +kernel
set_option maxRecDepth 65536 in
theorem w_hears : about1.hears theMethod below0 = true := by decide +kernel
set_option maxRecDepth 65536 in
theorem w_ripe : about1.ripe theMethod args0 below0 = true := by decide +kernel
theorem w_running : about1.status = .running := rfl
set_option maxRecDepth 65536 in
theorem w_room : about1.hasRoom e0.platform room_1 = true :=
  launch0.hasRoom_least _ room_1 (by decide +kernel) (by decide +kernel) (by decide +kernel) (by decide +kernel) (by decide +kernel) (by decide +kernel)
theorem allAtoms_all (ts : List Jvm.Cond) (a : Array Jvm.Value) (st : Jvm.State) : (allAtoms ts).before a st = ts.all (fun c => c.before a st) := by
  induction ts with
  | nil => rfl
  | cons c t ih =>
    show (Jvm.Cond.and c (allAtoms t)).before a st = _
    rw [Jvm.Cond.before_and, ih, List.all_cons]
def words1 : List Jvm.Cond := Jvm.Cond.code x code maxLocals ret :: tables_1
/-- a 'code' word, met by the world's own term for the bytes: nothing is compared byte by byte -/
theorem code_word {y : MethodName} {bytes : ByteArray} {mx : Nat} {rt : Option FieldType} {a : Array Value} {s : State} {m : MethodId} {meth : Method} {c : Code} (h1 : s.methodNamed? y = some m) (h2 : s.vm.method? m = some meth) (h3 : meth.code = some c) (h4 : c.code = bytes)
    (h5 : (c.maxLocals == mx && c.exceptionTable.isEmpty && decide (c.maxStack ≤ mostOperands) && decide (meth.sig.returnType = rt) && !meth.locks && decide (parseMethodDescriptor y.desc = some meth.sig)) = true) : (Jvm.Cond.code y bytes mx rt).before a s = true := by
  simp only [Bool.and_eq_true, beq_iff_eq, Bool.not_eq_true', decide_eq_true_eq] at h5
  obtain ⟨⟨⟨⟨⟨g1, g2⟩, g3⟩, g4⟩, g5⟩, g6⟩ := h5
  simp [Cond.before, Cond.holds, Cond.value, h1, h2, h3, h4, g1, g2, g3, g4, g5, g6]
def isCode : Jvm.Cond → Bool
  | .code _ _ _ _ => true
  | _ => false
theorem all_split {L : List Jvm.Cond} {P : Jvm.Cond → Bool} (h1 : L.all (fun c => isCode c || P c) = true) (h2 : ∀ c ∈ L.filter isCode, P c = true) : L.all P = true := by
  refine List.all_eq_true.mpr fun c hc => ?_
  have h := List.all_eq_true.mp h1 c hc
  rcases Bool.eq_false_or_eq_true (isCode c) with hi | hi
  · exact h2 c (List.mem_filter.mpr ⟨hc, hi⟩)
  · simpa [hi] using h
set_option maxRecDepth 65536 in
theorem w_c0 : (Jvm.Cond.code x code maxLocals ret).before args0 about1 = true := code_word (m := ⟨1, 1⟩) (meth := k1m1) (c := k1c1) (by decide +kernel) rfl rfl rfl (by decide +kernel)
set_option maxRecDepth 65536 in
theorem w_c1 : (Jvm.Cond.code ({ cls := "java/lang/Math", name := "max", desc := "(II)I" } : Jvm.MethodName) jdk_29_method_65_code (2 : Nat) (Option.some Jvm.ClassFile.FieldType.int)).before args0 about1 = true := code_word (m := ⟨2, 1⟩) (meth := k2m1) (c := k2c1) (by decide +kernel) rfl rfl rfl (by decide +kernel)
set_option maxRecDepth 65536 in
theorem w_c2 : (Jvm.Cond.code ({ cls := "java/lang/String", name := "<init>", desc := "([C)V" } : Jvm.MethodName) jdk_42_method_3_code (2 : Nat) (Option.none : Option Jvm.ClassFile.FieldType)).before args0 about1 = true := code_word (m := ⟨8, 1⟩) (meth := k8m1) (c := k8c1) (by decide +kernel) rfl rfl rfl (by decide +kernel)
set_option maxRecDepth 65536 in
theorem w_c3 : (Jvm.Cond.code ({ cls := "java/lang/String", name := "<init>", desc := "([CIILjava/lang/Void;)V" } : Jvm.MethodName) jdk_42_method_149_code (6 : Nat) (Option.none : Option Jvm.ClassFile.FieldType)).before args0 about1 = true := code_word (m := ⟨8, 2⟩) (meth := k8m2) (c := k8c2) (by decide +kernel) rfl rfl rfl (by decide +kernel)
set_option maxRecDepth 65536 in
theorem w_c4 : (Jvm.Cond.code ({ cls := "java/lang/Object", name := "<init>", desc := "()V" } : Jvm.MethodName) object_method_1_code (1 : Nat) (Option.none : Option Jvm.ClassFile.FieldType)).before args0 about1 = true := code_word (m := ⟨0, 0⟩) (meth := k0m0) (c := k0c0) (by decide +kernel) rfl rfl rfl (by decide +kernel)
set_option maxRecDepth 65536 in
theorem w_c5 : (Jvm.Cond.code ({ cls := "java/lang/StringUTF16", name := "compress", desc := "([CII)[B" } : Jvm.MethodName) jdk_52_method_16_code (6 : Nat) (Option.some (Jvm.ClassFile.FieldType.array Jvm.ClassFile.FieldType.byte))).before args0 about1 = true := code_word (m := ⟨9, 2⟩) (meth := k9m2) (c := k9c2) (by decide +kernel) rfl rfl rfl (by decide +kernel)
set_option maxRecDepth 65536 in
theorem w_c6 : (Jvm.Cond.code ({ cls := "java/lang/StringUTF16", name := "compress", desc := "([CI[BII)I" } : Jvm.MethodName) jdk_52_method_21_code (7 : Nat) (Option.some Jvm.ClassFile.FieldType.int)).before args0 about1 = true := code_word (m := ⟨9, 3⟩) (meth := k9m3) (c := k9c3) (by decide +kernel) rfl rfl rfl (by decide +kernel)
set_option maxRecDepth 65536 in
theorem w_c7 : (Jvm.Cond.code ({ cls := "java/lang/StringUTF16", name := "coderFromArrayLen", desc := "([BI)B" } : Jvm.MethodName) jdk_52_method_15_code (2 : Nat) (Option.some Jvm.ClassFile.FieldType.byte)).before args0 about1 = true := code_word (m := ⟨9, 1⟩) (meth := k9m1) (c := k9c1) (by decide +kernel) rfl rfl rfl (by decide +kernel)
set_option maxRecDepth 65536 in
theorem w_c8 : (Jvm.Cond.code ({ cls := "com/example/ply4/ply4/Points", name := "inRange", desc := "(DDLjava/lang/String;)D" } : Jvm.MethodName) prog_44_method_2_code (5 : Nat) (Option.some Jvm.ClassFile.FieldType.double)).before args0 about1 = true := code_word (m := ⟨10, 1⟩) (meth := k10m1) (c := k10c1) (by decide +kernel) rfl rfl rfl (by decide +kernel)
def codes1 : List Jvm.Cond := [Jvm.Cond.code x code maxLocals ret, Jvm.Cond.code ({ cls := "java/lang/Math", name := "max", desc := "(II)I" } : Jvm.MethodName) jdk_29_method_65_code (2 : Nat) (Option.some Jvm.ClassFile.FieldType.int), Jvm.Cond.code ({ cls := "java/lang/String", name := "<init>", desc := "([C)V" } : Jvm.MethodName) jdk_42_method_3_code (2 : Nat) (Option.none : Option Jvm.ClassFile.FieldType), Jvm.Cond.code ({ cls := "java/lang/String", name := "<init>", desc := "([CIILjava/lang/Void;)V" } : Jvm.MethodName) jdk_42_method_149_code (6 : Nat) (Option.none : Option Jvm.ClassFile.FieldType), Jvm.Cond.code ({ cls := "java/lang/Object", name := "<init>", desc := "()V" } : Jvm.MethodName) object_method_1_code (1 : Nat) (Option.none : Option Jvm.ClassFile.FieldType), Jvm.Cond.code ({ cls := "java/lang/StringUTF16", name := "compress", desc := "([CII)[B" } : Jvm.MethodName) jdk_52_method_16_code (6 : Nat) (Option.some (Jvm.ClassFile.FieldType.array Jvm.ClassFile.FieldType.byte)), Jvm.Cond.code ({ cls := "java/lang/StringUTF16", name := "compress", desc := "([CI[BII)I" } : Jvm.MethodName) jdk_52_method_21_code (7 : Nat) (Option.some Jvm.ClassFile.FieldType.int), Jvm.Cond.code ({ cls := "java/lang/StringUTF16", name := "coderFromArrayLen", desc := "([BI)B" } : Jvm.MethodName) jdk_52_method_15_code (2 : Nat) (Option.some Jvm.ClassFile.FieldType.byte), Jvm.Cond.code ({ cls := "com/example/ply4/ply4/Points", name := "inRange", desc := "(DDLjava/lang/String;)D" } : Jvm.MethodName) prog_44_method_2_code (5 : Nat) (Option.some Jvm.ClassFile.FieldType.double)]
set_option maxRecDepth 65536 in
theorem codes_eq : words1.filter isCode = codes1 := rfl
theorem w_codes : ∀ c ∈ words1.filter isCode, c.before args0 about1 = true := by
  rw [codes_eq]
  intro c hc
  simp only [codes1, List.mem_cons, List.not_mem_nil, or_false] at hc
  rcases hc with rfl | rfl | rfl | rfl | rfl | rfl | rfl | rfl | rfl
  · exact w_c0
  · exact w_c1
  · exact w_c2
  · exact w_c3
  · exact w_c4
  · exact w_c5
  · exact w_c6
  · exact w_c7
  · exact w_c8
set_option maxRecDepth 65536 in
theorem w_t1 : (words1.take 24).all (fun c => isCode c || c.before args0 about1) = true := by decide +kernel
set_option maxRecDepth 65536 in
theorem w_t2 : (words1.drop 24).all (fun c => isCode c || c.before args0 about1) = true := by decide +kernel
theorem w_tables : (allAtoms (Jvm.Cond.code x code maxLocals ret :: tables_1)).before args0 about1 = true := by
  rw [allAtoms_all]
  show words1.all (fun c => c.before args0 about1) = true
  refine all_split ?_ w_codes
  rw [← List.take_append_drop 24 words1, List.all_append, w_t1, w_t2]
  rfl
set_option maxRecDepth 65536 in
theorem w_rest : rest_1_c.before args0 about1 = true := by decide +kernel
set_option maxRecDepth 65536 in
theorem w_case : (Jvm.Cond.and given_1 narrow_1).before args0 about1 = true := by decide +kernel
theorem w_applies : (headSpec (Jvm.Cond.code x code maxLocals ret :: tables_1) room_1).applies x e0.platform about1 = true :=
  (Spec.applies_iff w_frames).mpr ⟨w_running, w_runnable, w_alone, w_named, w_hears, w_ripe, w_room, w_tables⟩
theorem atStart : AtStart classFile x code maxLocals ret World_1 tables_1 room_1 Calls_1 rest_1 Pre_1 launch0 p0 e0 about1 theMethod args0 below0 :=
  ⟨lists_1, trivial, launch0.admits_env _ _ _, launch0.least_env, fairChoices_fair.cas, fairChoices_fair.clock, w_frames, w_args, w_heap, w_applies, trivial, w_rest, w_case⟩
end start1
theorem witness_1 : WitnessClaimed_1 := ⟨start1.p0, start1.e0, start1.about1, start1.theMethod, start1.args0, start1.below0, start1.atStart⟩
end Jvm.Pilot.@@N@@
