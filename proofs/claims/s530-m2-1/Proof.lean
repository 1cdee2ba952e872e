import JvmDerived
import JvmDerived.Pilot.@@N@@Statement
import JvmDerived.Pilot.@@N@@Code
set_option linter.unusedVariables false
set_option linter.unusedSimpArgs false
/- laws to paste: Road.backV (cut by pick.py; bodies as the Statement names them) -/
namespace Jvm.Pilot.@@N@@
namespace StrChars
open Jvm Sem ClassFile Op Lib Jvm.Stand Jvm.Free.XT Jvm.Free.ALB Jvm.Free.JM Jvm.Free
open Jvm.Lib.Cold (StaticIs)
/-- a char array whose places are chars -/
def Ch (a : Addr) (A : Cell) (U : State) : Prop := Arr .char a A U ∧ Typed .char A
theorem Ch.mv {a : Addr} {A : Cell} {U U' : State} (h : Ch a A U) (hal : U.vm.Alike U'.vm) (hh : U'.heap = U.heap) : Ch a A U' := ⟨h.1.mv hal hh, h.2⟩
theorem Ch.keep {a : Addr} {A : Cell} {U U' : State} (h : Ch a A U) (hal : U.vm.Alike U'.vm) (hk : U'.heap[a]? = some A) : Ch a A U' := ⟨h.1.keep hal hk, h.2⟩
/-- what place i of a char[]'s cell holds -/
def cv (A : Cell) (i : Nat) : Int32 := match A.slots[i]? with | some (.int x) => x | _ => 0
theorem Ch.get {a : Addr} {A : Cell} {U : State} (h : Ch a A U) {i : Nat} (hi : i < A.slots.size) : A.slots[i]? = some (.int (cv A i)) := by
  have e := Array.getElem?_eq_getElem hi
  have f := h.2 i _ e
  unfold cv; rw [e]
  generalize A.slots[i] = v at f
  cases v <;> simp [fits] at f ⊢
/-- the byte that i2b leaves of a char -/
def lo8 (x : Int32) : Int32 := x.toInt8.toInt32
theorem fits_lo8 (y : Int32) : fits .byte (.int (lo8 y)) = true := by
  have h1 := y.toInt8.le_toInt
  have h2 := y.toInt8.toInt_lt
  simp only [lo8, fits, Bool.and_eq_true, decide_eq_true_eq, Int32.le_iff_toInt_le, Int8.toInt_toInt32, show (-128 : Int32).toInt = -128 from by decide, show (127 : Int32).toInt = 127 from by decide]
  omega
/-- A' is A but that each place j of lo .. hi - 1 holds f j -/
def Laid (A A' : Cell) (lo hi : Nat) (f : Nat → Value) : Prop := A'.cls = A.cls ∧ A'.vm = A.vm ∧ A'.slots.size = A.slots.size ∧ ∀ i, A'.slots[i]? = if lo ≤ i ∧ i < hi then some (f i) else A.slots[i]?
theorem Laid.zero (A : Cell) (lo : Nat) (f : Nat → Value) : Laid A A lo (lo + 0) f := ⟨rfl, rfl, rfl, fun i => by rw [if_neg (by omega)]⟩
theorem Laid.step {A Ak : Cell} {lo k : Nat} {f : Nat → Value} {v : Value} (h : Laid A Ak lo k f) (hlo : lo ≤ k) (hk : k < Ak.slots.size) (hv : v = f k) : Laid A (Ak.setSlot k v) lo (k + 1) f := by
  refine ⟨h.1, h.2.1, by simpa [Cell.setSlot] using h.2.2.1, fun i => ?_⟩
  by_cases e : k = i
  · subst e; rw [Cell.slots_setSlot_self v hk, if_pos (by omega), hv]
  · rw [Cell.slots_setSlot_ne v e, h.2.2.2 i]
    by_cases q : lo ≤ i ∧ i < k
    · rw [if_pos q, if_pos (by omega)]
    · rw [if_neg q, if_neg (by omega)]
def U16 : String := "java/lang/StringUTF16"
namespace Cmp5
def yN : MethodName := ⟨"java/lang/StringUTF16", "compress", "([CI[BII)I"⟩
abbrev yB : ByteArray := jdk_52_method_21_code
theorem d0 : decode yB 0 = .ok (.iconst 0, 1) := by decide +kernel
theorem d1 : decode yB 1 = .ok (.istore 5, 2) := by decide +kernel
theorem d3 : decode yB 3 = .ok (.iload 5, 2) := by decide +kernel
theorem d5 : decode yB 5 = .ok (.iload 4, 2) := by decide +kernel
theorem d7 : decode yB 7 = .ok (.if_icmp (.ge) 37, 3) := by decide +kernel
theorem d10 : decode yB 10 = .ok (.aload_n 0, 1) := by decide +kernel
theorem d11 : decode yB 11 = .ok (.iload_n 1, 1) := by decide +kernel
theorem d12 : decode yB 12 = .ok (.caload, 1) := by decide +kernel
theorem d13 : decode yB 13 = .ok (.istore 6, 2) := by decide +kernel
theorem d15 : decode yB 15 = .ok (.iload 6, 2) := by decide +kernel
theorem d17 : decode yB 17 = .ok (.sipush 255, 3) := by decide +kernel
theorem d20 : decode yB 20 = .ok (.if_icmp (.le) 6, 3) := by decide +kernel
theorem d26 : decode yB 26 = .ok (.aload_n 2, 1) := by decide +kernel
theorem d27 : decode yB 27 = .ok (.iload_n 3, 1) := by decide +kernel
theorem d28 : decode yB 28 = .ok (.iload 6, 2) := by decide +kernel
theorem d30 : decode yB 30 = .ok (.i2b, 1) := by decide +kernel
theorem d31 : decode yB 31 = .ok (.bastore, 1) := by decide +kernel
theorem d32 : decode yB 32 = .ok (.iinc 1 1, 3) := by decide +kernel
theorem d35 : decode yB 35 = .ok (.iinc 3 1, 3) := by decide +kernel
theorem d38 : decode yB 38 = .ok (.iinc 5 1, 3) := by decide +kernel
theorem d41 : decode yB 41 = .ok (.goto (-38), 3) := by decide +kernel
theorem d44 : decode yB 44 = .ok (.iload 4, 2) := by decide +kernel
theorem d46 : decode yB 46 = .ok (.ireturn, 1) := by decide +kernel
def site : List Cond := []
def tab : Cond := tabOf yN yB 7 (some .int) site
def P (b : Addr) (A : Cell) (d : Addr) (B : Cell) (o q len : Nat) (args : Array Value) (s : State) : Prop := args = #[.ref b, .int (Int32.ofNat o), .ref d, .int (Int32.ofNat q), .int (Int32.ofNat len)] ∧ Ch b A s ∧ Arr .byte d B s ∧ b ≠ d ∧ o + len ≤ A.slots.size ∧ q + len ≤ B.slots.size ∧ ∀ i, i < len → ¬ 255 < cv A (o + i)
def E (b : Addr) (A : Cell) (d : Addr) (B : Cell) (o q len : Nat) (r : Option Value) (s u : State) : Prop := r = some (.int (Int32.ofNat len)) ∧ ∃ B', Put d B' s u ∧ Laid B B' q (q + len) (fun j => Value.int (lo8 (cv A (o + (j - q)))))
/-- no char of the range above 255: len; the places written hold each char's low byte -/
theorem law (l : Launch) (b : Addr) (A : Cell) (d : Addr) (B : Cell) (o q len : Nat) : Law l yN 5 5 0 0 yB 7 (some .int) site (P b A d B o q len) (E b A d B o q len) (copyLocs d q len) 0 0 := by
  refine Law.of_walk (plainFor_of_name (by decide +kernel)) (by decide +kernel) (by decide +kernel) (by decide) (fun _ _ h => by rw [h.1]; rfl) (fun _ U U' hal hh h => ⟨h.1, h.2.1.mv hal hh, h.2.2.1.mv hal hh, h.2.2.2⟩) (fun r U U' V V' h1 hal h2 h => ⟨h.1, h.2.elim fun B' q => ⟨B', q.1.mv h1 h2, q.2⟩⟩) ?_
  intro p e s m args below meth c s₁ X0 hexec hbytes hml hret hlk hnm hown hh0 W hP
  obtain ⟨rfl, hA, hB, hne, l1, l2, hp⟩ := hP
  have c1 : Steps p.tables e below (s₁.setTop (entryFrame m #[.ref b, .int (Int32.ofNat o), .ref d, .int (Int32.ofNat q), .int (Int32.ofNat len)] 7)) (s₁.setTop (mkF m 0 #[.val (.ref b), .val (.int (Int32.ofNat o)), .val (.ref d), .val (.int (Int32.ofNat q)), .val (.int (Int32.ofNat len)), .unset, .unset] [])) := entry rfl
  have hA0 := hA.1.mv X0.warmed.alike hh0
  have hB0 := hB.mv X0.warmed.alike hh0
  have a31 := hA.1.2.2.2
  have c2 : Steps p.tables e below (s₁.setTop (entryFrame m #[.ref b, .int (Int32.ofNat o), .ref d, .int (Int32.ofNat q), .int (Int32.ofNat len)] 7)) (s₁.setTop (mkF m 3 #[.val (.ref b), .val (.int (Int32.ofNat o)), .val (.ref d), .val (.int (Int32.ofNat q)), .val (.int (Int32.ofNat len)), .val (.int 0), .unset] [])) := c1.trans (by
    refine iconstV X0.here hexec rfl 0 (hb hbytes d0) (by decide) ?_
    refine XS.istore X0.here hexec rfl (hb hbytes d1) rfl rfl ?_
    exact Steps.refl _)
  have loop : ∀ (r i : Nat), i + r = len → ∀ (z : Slot), (z = .unset ∨ ∃ w, z = .val w ∧ w.category = 1) → ∀ (Tl : State) (Bk : Cell), Stand p l e { frames := 0, locals := 0, cells := 0, slots := 0 } s m #[.ref b, .int (Int32.ofNat o), .ref d, .int (Int32.ofNat q), .int (Int32.ofNat len)] below meth c Tl ([] ++ copyLocs d q i) 0 0 → Put d Bk s₁ Tl → Laid B Bk q (q + i) (fun j => Value.int (lo8 (cv A (o + (j - q))))) →
      Steps p.tables e below (s₁.setTop (entryFrame m #[.ref b, .int (Int32.ofNat o), .ref d, .int (Int32.ofNat q), .int (Int32.ofNat len)] 7)) (Tl.setTop (mkF m 3 #[.val (.ref b), .val (.int (Int32.ofNat (o + i))), .val (.ref d), .val (.int (Int32.ofNat (q + i))), .val (.int (Int32.ofNat len)), .val (.int (Int32.ofNat i)), z] [])) → ∃ (T' : State) (B' : Cell) (z' : Slot), Stand p l e { frames := 0, locals := 0, cells := 0, slots := 0 } s m #[.ref b, .int (Int32.ofNat o), .ref d, .int (Int32.ofNat q), .int (Int32.ofNat len)] below meth c T' ([] ++ copyLocs d q len) 0 0 ∧ Put d B' s₁ T' ∧ Laid B B' q (q + len) (fun j => Value.int (lo8 (cv A (o + (j - q))))) ∧
      Steps p.tables e below (s₁.setTop (entryFrame m #[.ref b, .int (Int32.ofNat o), .ref d, .int (Int32.ofNat q), .int (Int32.ofNat len)] 7)) (T'.setTop (mkF m 3 #[.val (.ref b), .val (.int (Int32.ofNat (o + len))), .val (.ref d), .val (.int (Int32.ofNat (q + len))), .val (.int (Int32.ofNat len)), .val (.int (Int32.ofNat len)), z'] [])) := by
    intro r
    induction r with
    | zero =>
      intro i hi z hz Tl Bk Xl pl fl cl
      have hil : i = len := by omega
      rw [hil] at Xl fl cl
      exact ⟨Tl, Bk, z, Xl, pl, fl, cl⟩
    | succ r ih =>
      intro i hi z hz Tl Bk Xl pl fl cl
      have all := X0.warmed.alike.symm.trans Xl.warmed.alike
      have hAl := hA0.keep all (pl.other hne hA0.1)
      have hBk := hB0.like all pl.1 fl.1 fl.2.1 fl.2.2.1
      have hlt : q + i < Bk.slots.size := by rw [fl.2.2.1]; omega
      have c3 : Steps p.tables e below (s₁.setTop (entryFrame m #[.ref b, .int (Int32.ofNat o), .ref d, .int (Int32.ofNat q), .int (Int32.ofNat len)] 7)) (Tl.setTop (mkF m 12 #[.val (.ref b), .val (.int (Int32.ofNat (o + i))), .val (.ref d), .val (.int (Int32.ofNat (q + i))), .val (.int (Int32.ofNat len)), .val (.int (Int32.ofNat i)), z] [.int (Int32.ofNat (o + i)), .ref b])) := cl.trans (by
        refine XS.iload Xl.here hexec rfl (hb hbytes d3) rfl ?_
        refine XS.iload Xl.here hexec rfl (hb hbytes d5) rfl ?_
        refine XS.icmpNo Xl.here hexec rfl (hb hbytes d7) rfl (ii_ge_f (lt32 (by omega) (by omega))) ?_
        refine XS.aloadN Xl.here hexec rfl (hb hbytes d10) rfl rfl ?_
        refine XS.iloadN Xl.here hexec rfl (hb hbytes d11) rfl ?_
        exact Steps.refl _)
      have c4 : Steps p.tables e below (s₁.setTop (entryFrame m #[.ref b, .int (Int32.ofNat o), .ref d, .int (Int32.ofNat q), .int (Int32.ofNat len)] 7)) (Tl.setTop (mkF m 13 #[.val (.ref b), .val (.int (Int32.ofNat (o + i))), .val (.ref d), .val (.int (Int32.ofNat (q + i))), .val (.int (Int32.ofNat len)), .val (.int (Int32.ofNat i)), z] [.int (cv A (o + i))])) := c3.trans (by
        refine Xl.aget hexec hAl rfl (hA.get (i := o + i) (by omega)) rfl rfl (hb hbytes d12) ?_
        exact Steps.refl _)
      have c5 : Steps p.tables e below (s₁.setTop (entryFrame m #[.ref b, .int (Int32.ofNat o), .ref d, .int (Int32.ofNat q), .int (Int32.ofNat len)] 7)) (Tl.setTop (mkF m 15 #[.val (.ref b), .val (.int (Int32.ofNat (o + i))), .val (.ref d), .val (.int (Int32.ofNat (q + i))), .val (.int (Int32.ofNat len)), .val (.int (Int32.ofNat i)), .val (.int (cv A (o + i)))] [])) := c4.trans (by
        refine XS.istoreS Xl.here hexec rfl (hb hbytes d13) rfl rfl hz ?_
        exact Steps.refl _)
      have c6 : Steps p.tables e below (s₁.setTop (entryFrame m #[.ref b, .int (Int32.ofNat o), .ref d, .int (Int32.ofNat q), .int (Int32.ofNat len)] 7)) (Tl.setTop (mkF m 31 #[.val (.ref b), .val (.int (Int32.ofNat (o + i))), .val (.ref d), .val (.int (Int32.ofNat (q + i))), .val (.int (Int32.ofNat len)), .val (.int (Int32.ofNat i)), .val (.int (cv A (o + i)))] [.int (lo8 (cv A (o + i))), .int (Int32.ofNat (q + i)), .ref d])) := c5.trans (by
        refine XS.iload Xl.here hexec rfl (hb hbytes d15) rfl ?_
        refine sipushV Xl.here hexec rfl 255 (hb hbytes d17) (by decide) ?_
        refine XS.icmpYes Xl.here hexec rfl (pc0 := 20) rfl (hb hbytes d20) rfl (ii_le_t (hp i (by omega))) (by decide) rfl ?_
        refine XS.aloadN Xl.here hexec rfl (hb hbytes d26) rfl rfl ?_
        refine XS.iloadN Xl.here hexec rfl (hb hbytes d27) rfl ?_
        refine XS.iload Xl.here hexec rfl (hb hbytes d28) rfl ?_
        refine i2b Xl.here hexec rfl (hb hbytes d30) rfl ?_
        exact Steps.refl _)
      obtain ⟨T7, X7, p7, st7⟩ := Xl.aput hexec hBk rfl hlt rfl (fits_lo8 (cv A (o + i))) (g := (mkF m 31 #[.val (.ref b), .val (.int (Int32.ofNat (o + i))), .val (.ref d), .val (.int (Int32.ofNat (q + i))), .val (.int (Int32.ofNat len)), .val (.int (Int32.ofNat i)), .val (.int (cv A (o + i)))] [.int (lo8 (cv A (o + i))), .int (Int32.ofNat (q + i)), .ref d])) rfl (rest := []) rfl (hb hbytes d31)
      have c8 : Steps p.tables e below (s₁.setTop (entryFrame m #[.ref b, .int (Int32.ofNat o), .ref d, .int (Int32.ofNat q), .int (Int32.ofNat len)] 7)) (T7.setTop (mkF m 32 #[.val (.ref b), .val (.int (Int32.ofNat (o + i))), .val (.ref d), .val (.int (Int32.ofNat (q + i))), .val (.int (Int32.ofNat len)), .val (.int (Int32.ofNat i)), .val (.int (cv A (o + i)))] [])) := c6.trans (st7 _ (Steps.refl _))
      have c9 : Steps p.tables e below (s₁.setTop (entryFrame m #[.ref b, .int (Int32.ofNat o), .ref d, .int (Int32.ofNat q), .int (Int32.ofNat len)] 7)) (T7.setTop (mkF m 3 #[.val (.ref b), .val (.int (Int32.ofNat (o + i) + 1)), .val (.ref d), .val (.int (Int32.ofNat (q + i) + 1)), .val (.int (Int32.ofNat len)), .val (.int (Int32.ofNat i + 1)), .val (.int (cv A (o + i)))] [])) := c8.trans (by
        refine iincV X7.here hexec rfl 1 (hb hbytes d32) (by decide) rfl rfl ?_
        refine iincV X7.here hexec rfl 1 (hb hbytes d35) (by decide) rfl rfl ?_
        refine iincV X7.here hexec rfl 1 (hb hbytes d38) (by decide) rfl rfl ?_
        refine XS.goto X7.here hexec rfl (pc0 := 41) rfl (hb hbytes d41) (by decide) rfl ?_
        exact Steps.refl _)
      have c10 : Steps p.tables e below (s₁.setTop (entryFrame m #[.ref b, .int (Int32.ofNat o), .ref d, .int (Int32.ofNat q), .int (Int32.ofNat len)] 7)) (T7.setTop (mkF m 3 #[.val (.ref b), .val (.int (Int32.ofNat (o + (i + 1)))), .val (.ref d), .val (.int (Int32.ofNat (q + (i + 1)))), .val (.int (Int32.ofNat len)), .val (.int (Int32.ofNat (i + 1))), .val (.int (cv A (o + i)))] [])) := by
        have := c9
        rw [succ32, succ32, succ32] at this
        exact this
      exact ih (i + 1) (by omega) _ (Or.inr ⟨_, rfl, rfl⟩) T7 _ (by rw [copyLocs_step, ← List.append_assoc]; exact X7) (pl.trans p7) (fl.step (by omega) hlt (by simp)) c10
  obtain ⟨T9, B9, z9, X9, p9, f9, g9⟩ := loop len 0 (by omega) .unset (Or.inl rfl) s₁ B (by simpa [copyLocs] using X0) ⟨hB0.1, fun _ _ => rfl, rfl⟩ (Laid.zero _ _ _) c2
  have c11 : Steps p.tables e below (s₁.setTop (entryFrame m #[.ref b, .int (Int32.ofNat o), .ref d, .int (Int32.ofNat q), .int (Int32.ofNat len)] 7)) (T9.setTop (mkF m 46 #[.val (.ref b), .val (.int (Int32.ofNat (o + len))), .val (.ref d), .val (.int (Int32.ofNat (q + len))), .val (.int (Int32.ofNat len)), .val (.int (Int32.ofNat len)), z9] [.int (Int32.ofNat len)])) := g9.trans (by
    refine XS.iload X9.here hexec rfl (hb hbytes d3) rfl ?_
    refine XS.iload X9.here hexec rfl (hb hbytes d5) rfl ?_
    refine XS.icmpYes X9.here hexec rfl (pc0 := 7) rfl (hb hbytes d7) rfl (ii_ge_t (nlt32 (by omega) (Nat.le_refl _))) (by decide) rfl ?_
    refine XS.iload X9.here hexec rfl (hb hbytes d44) rfl ?_
    exact Steps.refl _)
  exact ⟨T9, some (.int (Int32.ofNat len)), _, _, _, X9, by simp, rfl, rfl, (fun h => by cases h), ⟨rfl, B9, p9.from hh0, f9⟩, fun fs hl => c11.trans (X9.ireturnOut hexec hret rfl (Or.inl rfl) (hb hbytes d46) hl)⟩
end Cmp5
namespace Cmp3
def yN : MethodName := ⟨"java/lang/StringUTF16", "compress", "([CII)[B"⟩
abbrev yB : ByteArray := jdk_52_method_16_code
theorem d0 : decode yB 0 = .ok (.iload_n 2, 1) := by decide +kernel
theorem d1 : decode yB 1 = .ok (.newarray .byte, 2) := by decide +kernel
theorem d3 : decode yB 3 = .ok (.astore_n 3, 1) := by decide +kernel
theorem d4 : decode yB 4 = .ok (.aload_n 0, 1) := by decide +kernel
theorem d5 : decode yB 5 = .ok (.iload_n 1, 1) := by decide +kernel
theorem d6 : decode yB 6 = .ok (.aload_n 3, 1) := by decide +kernel
theorem d7 : decode yB 7 = .ok (.iconst 0, 1) := by decide +kernel
theorem d8 : decode yB 8 = .ok (.iload_n 2, 1) := by decide +kernel
theorem d9 : decode yB 9 = .ok (.invokestatic 115, 3) := by decide +kernel
theorem d12 : decode yB 12 = .ok (.istore 4, 2) := by decide +kernel
theorem d14 : decode yB 14 = .ok (.iload 4, 2) := by decide +kernel
theorem d16 : decode yB 16 = .ok (.iload_n 2, 1) := by decide +kernel
theorem d17 : decode yB 17 = .ok (.if_icmp (.eq) 40, 3) := by decide +kernel
theorem d57 : decode yB 57 = .ok (.aload_n 3, 1) := by decide +kernel
theorem d58 : decode yB 58 = .ok (.areturn, 1) := by decide +kernel
def site : List Cond := [.arrayClass .byte, Cmp5.tab] ++ staticW U16 115 Cmp5.yN
def tab : Cond := tabOf yN yB 6 (some (.array .byte)) site
def P (b : Addr) (A : Cell) (o len : Nat) (args : Array Value) (s : State) : Prop := args = #[.ref b, .int (Int32.ofNat o), .int (Int32.ofNat len)] ∧ Ch b A s ∧ o + len ≤ A.slots.size ∧ len ≤ 536870912 ∧ ∀ i, i < len → ¬ 255 < cv A (o + i)
def E (b : Addr) (A : Cell) (o len : Nat) (r : Option Value) (s u : State) : Prop := NewArr .byte "[B" len (fun j => .int (lo8 (cv A (o + j)))) r s u ∧ u.heap.size = s.heap.size + 1
/-- no char of the range above 255: a new byte[] of their low bytes -/
theorem law (l : Launch) (b : Addr) (A : Cell) (o len : Nat) : Law l yN 3 3 1 18 yB 6 (some (.array .byte)) site (P b A o len) (E b A o len) [] 1 len := by
  refine Law.of_walk (plainFor_of_name (by decide +kernel)) (by decide +kernel) (by decide +kernel) (by decide) (fun _ _ h => by rw [h.1]; rfl) (fun _ U U' hal hh h => ⟨h.1, h.2.1.mv hal hh, h.2.2⟩) (fun r U U' V V' h1 hal h2 h => ⟨NewArr.mv r U U' V V' h1 hal h2 h.1, by rw [h1, h2]; exact h.2⟩) ?_
  intro p e s m args below meth c s₁ X0 hexec hbytes hml hret hlk hnm hown hh0 W hP
  obtain ⟨rfl, hA, l1, l2, hp⟩ := hP
  have a31 := hA.1.2.2.2
  have c1 : Steps p.tables e below (s₁.setTop (entryFrame m #[.ref b, .int (Int32.ofNat o), .int (Int32.ofNat len)] 6)) (s₁.setTop (mkF m 0 #[.val (.ref b), .val (.int (Int32.ofNat o)), .val (.int (Int32.ofNat len)), .unset, .unset, .unset] [])) := entry rfl
  have c2 : Steps p.tables e below (s₁.setTop (entryFrame m #[.ref b, .int (Int32.ofNat o), .int (Int32.ofNat len)] 6)) (s₁.setTop (mkF m 1 #[.val (.ref b), .val (.int (Int32.ofNat o)), .val (.int (Int32.ofNat len)), .unset, .unset, .unset] [.int (Int32.ofNat len)])) := c1.trans (by
    refine XS.iloadN X0.here hexec rfl (hb hbytes d0) rfl ?_
    exact Steps.refl _)
  obtain ⟨T3, B3, X3, ba3, bs3, bv3, bh3, bf3, st3⟩ := X0.anew hexec (atype := .byte) (wk W (.arrayClass .byte)) rfl (by show len * 1 ≤ _; omega) (by omega) (g := (mkF m 1 #[.val (.ref b), .val (.int (Int32.ofNat o)), .val (.int (Int32.ofNat len)), .unset, .unset, .unset] [.int (Int32.ofNat len)])) rfl (hb hbytes d1) (rest := []) rfl (Nat.le_refl _) (by show 0 + len ≤ len; omega)
  rw [hh0] at ba3 st3
  have kp3 : XT.Kept s T3 := (XT.Kept.of_eq hh0).push bh3
  have hA3 := hA.keep X3.warmed.alike (kp3 _ _ hA.1.1)
  have hne : b ≠ s.heap.size := hA.1.ne
  have c4 : Steps p.tables e below (s₁.setTop (entryFrame m #[.ref b, .int (Int32.ofNat o), .int (Int32.ofNat len)] 6)) (T3.setTop (mkF m 3 #[.val (.ref b), .val (.int (Int32.ofNat o)), .val (.int (Int32.ofNat len)), .unset, .unset, .unset] [.ref s.heap.size])) := c2.trans (st3 _ (Steps.refl _))
  have c5 : Steps p.tables e below (s₁.setTop (entryFrame m #[.ref b, .int (Int32.ofNat o), .int (Int32.ofNat len)] 6)) (T3.setTop (mkF m 9 #[.val (.ref b), .val (.int (Int32.ofNat o)), .val (.int (Int32.ofNat len)), .val (.ref s.heap.size), .unset, .unset] [.int (Int32.ofNat len), .int 0, .ref s.heap.size, .int (Int32.ofNat o), .ref b])) := c4.trans (by
    refine XS.astoreN X3.here hexec rfl (hb hbytes d3) rfl rfl rfl ?_
    refine XS.aloadN X3.here hexec rfl (hb hbytes d4) rfl rfl ?_
    refine XS.iloadN X3.here hexec rfl (hb hbytes d5) rfl ?_
    refine XS.aloadN X3.here hexec rfl (hb hbytes d6) rfl rfl ?_
    refine iconstV X3.here hexec rfl 0 (hb hbytes d7) (by decide) ?_
    refine XS.iloadN X3.here hexec rfl (hb hbytes d8) rfl ?_
    exact Steps.refl _)
  obtain ⟨v6, T6, X6, E6, g6⟩ := X3.callS hexec (Cmp5.law l b A s.heap.size B3 o 0 len) hown (wks W (staticW U16 115 Cmp5.yN)) (wk W Cmp5.tab) (W := 0) (Nat.le_of_ble_eq_true rfl) (Nat.le_of_ble_eq_true rfl) (Nat.le_refl _) (by show 0 + len + 0 ≤ len; omega) (g := (mkF m 9 #[.val (.ref b), .val (.int (Int32.ofNat o)), .val (.int (Int32.ofNat len)), .val (.ref s.heap.size), .unset, .unset] [.int (Int32.ofNat len), .int (Int32.ofNat 0), .ref s.heap.size, .int (Int32.ofNat o), .ref b])) rfl (by rw [hml]; rfl) c5 (argsL := [.ref b, .int (Int32.ofNat o), .ref s.heap.size, .int (Int32.ofNat 0), .int (Int32.ofNat len)]) (rest := []) rfl rfl (by show 2 * 0 + 0 ≤ _; decide) (hb hbytes d9) (⟨rfl, hA3, ba3, hne, l1, by rw [bs3]; simp, hp⟩)
  obtain ⟨rfl, B6, p6, f6⟩ := E6
  have c7 : Steps p.tables e below (s₁.setTop (entryFrame m #[.ref b, .int (Int32.ofNat o), .int (Int32.ofNat len)] 6)) (T6.setTop (mkF m 12 #[.val (.ref b), .val (.int (Int32.ofNat o)), .val (.int (Int32.ofNat len)), .val (.ref s.heap.size), .unset, .unset] [.int (Int32.ofNat len)])) := g6
  have c8 : Steps p.tables e below (s₁.setTop (entryFrame m #[.ref b, .int (Int32.ofNat o), .int (Int32.ofNat len)] 6)) (T6.setTop (mkF m 58 #[.val (.ref b), .val (.int (Int32.ofNat o)), .val (.int (Int32.ofNat len)), .val (.ref s.heap.size), .val (.int (Int32.ofNat len)), .unset] [.ref s.heap.size])) := c7.trans (by
    refine XS.istore X6.here hexec rfl (hb hbytes d12) rfl rfl ?_
    refine XS.iload X6.here hexec rfl (hb hbytes d14) rfl ?_
    refine XS.iloadN X6.here hexec rfl (hb hbytes d16) rfl ?_
    refine XS.icmpYes X6.here hexec rfl (pc0 := 17) rfl (hb hbytes d17) rfl (ii_eq_t rfl) (by decide) rfl ?_
    refine XS.aloadN X6.here hexec rfl (hb hbytes d57) rfl rfl ?_
    exact Steps.refl _)
  have X8 := X6.wide (L' := []) (cells' := 1) (slots' := len) (fun x hx hlt => by
    simp only [List.nil_append, copyLocs, List.mem_map, List.mem_range] at hx
    obtain ⟨i, -, rfl⟩ := hx
    exact absurd hlt (Nat.lt_irrefl _)) (Nat.le_refl _) (by omega)
  exact ⟨T6, some (.ref s.heap.size), _, _, _, X8, rfl, rfl, rfl, (fun h => by cases h), ⟨⟨rfl, B6, ba3.like (X3.warmed.alike.symm.trans X6.warmed.alike) p6.1 f6.1 f6.2.1 f6.2.2.1, f6.2.1.trans bv3, by rw [X6.warmed.alike.findClass, f6.1]; exact bf3, by rw [f6.2.2.1, bs3]; simp, fun j hj => by rw [f6.2.2.2 j, if_pos (by omega)]; rfl, kp3.put p6 (Nat.le_refl _)⟩, by rw [p6.2.2, bh3, hh0]; simp⟩, fun fs hl => c8.trans (X8.areturnOut hexec rfl hret rfl (hb hbytes d58) hl)⟩
end Cmp3
namespace CodL
def yN : MethodName := ⟨"java/lang/StringUTF16", "coderFromArrayLen", "([BI)B"⟩
abbrev yB : ByteArray := jdk_52_method_15_code
theorem d0 : decode yB 0 = .ok (.iload_n 1, 1) := by decide +kernel
theorem d1 : decode yB 1 = .ok (.aload_n 0, 1) := by decide +kernel
theorem d2 : decode yB 2 = .ok (.arraylength, 1) := by decide +kernel
theorem d3 : decode yB 3 = .ok (.isub, 1) := by decide +kernel
theorem d4 : decode yB 4 = .ok (.bipush 31, 2) := by decide +kernel
theorem d6 : decode yB 6 = .ok (.iushr, 1) := by decide +kernel
theorem d7 : decode yB 7 = .ok (.i2b, 1) := by decide +kernel
theorem d8 : decode yB 8 = .ok (.ireturn, 1) := by decide +kernel
def site : List Cond := []
def tab : Cond := tabOf yN yB 2 (some .byte) site
def P (d : Addr) (B : Cell) (args : Array Value) (s : State) : Prop := args = #[.ref d, .int (Int32.ofNat B.slots.size)] ∧ Arr .byte d B s
def E (r : Option Value) (s u : State) : Prop := XT.PureE (some (.int 0)) r s u
/-- an array as long as the number of chars: LATIN1 -/
theorem law (l : Launch) (d : Addr) (B : Cell) : Law l yN 2 2 0 0 yB 2 (some .byte) site (P d B) E [] 0 0 := by
  refine Law.of_walk (plainFor_of_name (by decide +kernel)) (by decide +kernel) (by decide +kernel) (by decide) (fun _ _ h => by rw [h.1]; rfl) (fun _ U U' hal hh h => ⟨h.1, h.2.mv hal hh⟩) (fun r U U' V V' h1 hal h2 h => XT.PureE.mv r U U' V V' h1 hal h2 h) ?_
  intro p e s m args below meth c s₁ X0 hexec hbytes hml hret hlk hnm hown hh0 W hP
  obtain ⟨rfl, hB⟩ := hP
  have hB0 := hB.mv X0.warmed.alike hh0
  have c1 : Steps p.tables e below (s₁.setTop (entryFrame m #[.ref d, .int (Int32.ofNat B.slots.size)] 2)) (s₁.setTop (mkF m 0 #[.val (.ref d), .val (.int (Int32.ofNat B.slots.size))] [])) := entry rfl
  have c2 : Steps p.tables e below (s₁.setTop (entryFrame m #[.ref d, .int (Int32.ofNat B.slots.size)] 2)) (s₁.setTop (mkF m 2 #[.val (.ref d), .val (.int (Int32.ofNat B.slots.size))] [.ref d, .int (Int32.ofNat B.slots.size)])) := c1.trans (by
    refine XS.iloadN X0.here hexec rfl (hb hbytes d0) rfl ?_
    refine XS.aloadN X0.here hexec rfl (hb hbytes d1) rfl rfl ?_
    exact Steps.refl _)
  have c3 : Steps p.tables e below (s₁.setTop (entryFrame m #[.ref d, .int (Int32.ofNat B.slots.size)] 2)) (s₁.setTop (mkF m 8 #[.val (.ref d), .val (.int (Int32.ofNat B.slots.size))] [.int (lo8 (ushr (Int32.ofNat B.slots.size - Int32.ofNat B.slots.size) 31))])) := c2.trans (by
    refine X0.alen hexec hB0 rfl rfl (hb hbytes d2) ?_
    refine XS.isub X0.here hexec rfl (hb hbytes d3) rfl ?_
    refine bipushV X0.here hexec rfl 31 (hb hbytes d4) (by decide) ?_
    refine iushr X0.here hexec rfl (hb hbytes d6) rfl ?_
    refine i2b X0.here hexec rfl (hb hbytes d7) rfl ?_
    exact Steps.refl _)
  have e0 : lo8 (ushr (Int32.ofNat B.slots.size - Int32.ofNat B.slots.size) 31) = 0 := by rw [Int32.sub_self]; decide
  rw [e0] at c3
  exact ⟨s₁, some (.int 0), _, _, _, X0, rfl, rfl, rfl, (fun h => by cases h), ⟨rfl, hh0⟩, fun fs hl => c3.trans (X0.ireturnOut hexec hret rfl (Or.inr (Or.inr (Or.inl rfl))) (hb hbytes d8) hl)⟩
end CodL
/-- the String at a is Latin-1 over a new byte[] (the heap's one new cell): the low bytes of the len chars of A from o on; every cell but a is kept -/
def Got (a : Addr) (D : Cell) (fV fC : Field) (A : Cell) (o len : Nat) (r : Option Value) (s u : State) : Prop := r = none ∧ ∃ D' V : Cell, Blank "java/lang/String" a D' u ∧ Same D D' [fV.slot, fC.slot] ∧ D'.slots[fV.slot]? = some (.ref s.heap.size) ∧ D'.slots[fC.slot]? = some (.int 0) ∧ Arr .byte s.heap.size V u ∧ V.vm = .none ∧ u.vm.findClass "[B" = some V.cls ∧ V.slots.size = len ∧ (∀ j, j < len → V.slots[j]? = some (.int (lo8 (cv A (o + j))))) ∧ (∀ (y : Addr) (c : Cell), y ≠ a → s.heap[y]? = some c → u.heap[y]? = some c) ∧ u.heap.size = s.heap.size + 1
theorem Got.mv {a : Addr} {D A : Cell} {fV fC : Field} {o len : Nat} : ∀ r (U U' V V' : State), U'.heap = U.heap → V.vm.Alike V'.vm → V'.heap = V.heap → Got a D fV fC A o len r U V → Got a D fV fC A o len r U' V' :=
  fun r U U' V V' h1 hal h2 ⟨e0, D', X, a1, a2, a3, a4, a5, a6, a7, a8, a9, a10, a11⟩ => ⟨e0, D', X, a1.mv hal h2, a2, by rw [h1]; exact a3, a4, by rw [h1]; exact a5.mv hal h2, a6, by rw [hal.findClass]; exact a7, a8, a9, by rw [h1, h2]; exact a10, by rw [h1, h2]; exact a11⟩
namespace New4
def yN : MethodName := ⟨"java/lang/String", "<init>", "([CIILjava/lang/Void;)V"⟩
abbrev yB : ByteArray := jdk_42_method_149_code
theorem d0 : decode yB 0 = .ok (.aload_n 0, 1) := by decide +kernel
theorem d1 : decode yB 1 = .ok (.invokespecial 1, 3) := by decide +kernel
theorem d4 : decode yB 4 = .ok (.iload_n 3, 1) := by decide +kernel
theorem d5 : decode yB 5 = .ok (.ifCond (.ne) 22, 3) := by decide +kernel
theorem d27 : decode yB 27 = .ok (.getstatic 38, 3) := by decide +kernel
theorem d30 : decode yB 30 = .ok (.ifCond (.eq) 28, 3) := by decide +kernel
theorem d33 : decode yB 33 = .ok (.aload_n 1, 1) := by decide +kernel
theorem d34 : decode yB 34 = .ok (.iload_n 2, 1) := by decide +kernel
theorem d35 : decode yB 35 = .ok (.iload_n 3, 1) := by decide +kernel
theorem d36 : decode yB 36 = .ok (.invokestatic 177, 3) := by decide +kernel
theorem d39 : decode yB 39 = .ok (.astore 5, 2) := by decide +kernel
theorem d41 : decode yB 41 = .ok (.aload_n 0, 1) := by decide +kernel
theorem d42 : decode yB 42 = .ok (.aload 5, 2) := by decide +kernel
theorem d44 : decode yB 44 = .ok (.iload_n 3, 1) := by decide +kernel
theorem d45 : decode yB 45 = .ok (.invokestatic 47, 3) := by decide +kernel
theorem d48 : decode yB 48 = .ok (.putfield 15, 3) := by decide +kernel
theorem d51 : decode yB 51 = .ok (.aload_n 0, 1) := by decide +kernel
theorem d52 : decode yB 52 = .ok (.aload 5, 2) := by decide +kernel
theorem d54 : decode yB 54 = .ok (.putfield 9, 3) := by decide +kernel
theorem d57 : decode yB 57 = .ok (.return_, 1) := by decide +kernel
def site : List Cond := [.fieldLink "java/lang/String" 38 "java/lang/String" "COMPACT_STRINGS" "Z", Cmp3.tab, CodL.tab, .laysFinal "java/lang/String" "java/lang/String" "value" "[B", .fieldLink "java/lang/String" 9 "java/lang/String" "value" "[B", .laysFinal "java/lang/String" "java/lang/String" "coder" "B", .fieldLink "java/lang/String" 15 "java/lang/String" "coder" "B"] ++ objW "java/lang/String" 1 ++ staticW "java/lang/String" 177 Cmp3.yN ++ staticW "java/lang/String" 47 CodL.yN
def tab : Cond := tabOf yN yB 6 none site
def P (a : Addr) (D : Cell) (fV fC : Field) (b : Addr) (A : Cell) (z : Int32) (o len : Nat) (args : Array Value) (s : State) : Prop := args = #[.ref a, .ref b, .int (Int32.ofNat o), .int (Int32.ofNat len), .null] ∧ Blank "java/lang/String" a D s ∧ Found "java/lang/String" "value" "[B" fV s ∧ Found "java/lang/String" "coder" "B" fC s ∧ Ch b A s ∧ StaticIs s "java/lang/String" "COMPACT_STRINGS" "Z" (.int z) ∧ ¬ z = 0 ∧ 0 < len ∧ o + len ≤ A.slots.size ∧ len ≤ 536870912 ∧ ∀ i, i < len → ¬ 255 < cv A (o + i)
def E (a : Addr) (D : Cell) (fV fC : Field) (A : Cell) (o len : Nat) (r : Option Value) (s u : State) : Prop := Got a D fV fC A o len r s u
/-- len > 0, no char of the range above 255: a Latin-1 String of their low bytes -/
theorem law (l : Launch) (a : Addr) (D : Cell) (fV fC : Field) (b : Addr) (A : Cell) (z : Int32) (o len : Nat) : Law l yN 5 4 2 35 yB 6 none site (P a D fV fC b A z o len) (E a D fV fC A o len) [⟨a, fC.slot⟩, ⟨a, fV.slot⟩] 1 len := by
  refine Law.of_walk (plainFor_of_name (by decide +kernel)) (by decide +kernel) (by decide +kernel) (by decide) (fun _ _ h => by rw [h.1]; rfl) (fun _ U U' hal hh h => ⟨h.1, h.2.1.mv hal hh, h.2.2.1.al hal, h.2.2.2.1.al hal, h.2.2.2.2.1.mv hal hh, h.2.2.2.2.2.1.there hal hh, h.2.2.2.2.2.2⟩) (fun r U U' V V' h1 hal h2 h => Got.mv r U U' V V' h1 hal h2 h) ?_
  intro p e s m args below meth c s₁ X0 hexec hbytes hml hret hlk hnm hown hh0 W hP
  obtain ⟨rfl, hB, f1, f2, hA, s1, hz, l0, l1, l2, hp⟩ := hP
  have a31 := hA.1.2.2.2
  have c1 : Steps p.tables e below (s₁.setTop (entryFrame m #[.ref a, .ref b, .int (Int32.ofNat o), .int (Int32.ofNat len), .null] 6)) (s₁.setTop (mkF m 0 #[.val (.ref a), .val (.ref b), .val (.int (Int32.ofNat o)), .val (.int (Int32.ofNat len)), .val .null, .unset] [])) := entry rfl
  have c2 : Steps p.tables e below (s₁.setTop (entryFrame m #[.ref a, .ref b, .int (Int32.ofNat o), .int (Int32.ofNat len), .null] 6)) (s₁.setTop (mkF m 1 #[.val (.ref a), .val (.ref b), .val (.int (Int32.ofNat o)), .val (.int (Int32.ofNat len)), .val .null, .unset] [.ref a])) := c1.trans (by
    refine XS.aloadN X0.here hexec rfl (hb hbytes d0) rfl rfl ?_
    exact Steps.refl _)
  obtain ⟨T3, X3, q3, st3⟩ := X0.oinit hexec hown (wks W (objW "java/lang/String" 1)) (g := (mkF m 1 #[.val (.ref a), .val (.ref b), .val (.int (Int32.ofNat o)), .val (.int (Int32.ofNat len)), .val .null, .unset] [.ref a])) rfl (by rw [hml]; rfl) (rest := []) rfl (hb hbytes d1) (W := 0) (by show 2 * 0 + 0 ≤ _; decide) (Nat.le_of_ble_eq_true rfl) (Nat.le_of_ble_eq_true rfl)
  have hh3 := q3.trans hh0
  have c4 : Steps p.tables e below (s₁.setTop (entryFrame m #[.ref a, .ref b, .int (Int32.ofNat o), .int (Int32.ofNat len), .null] 6)) (T3.setTop (mkF m 27 #[.val (.ref a), .val (.ref b), .val (.int (Int32.ofNat o)), .val (.int (Int32.ofNat len)), .val .null, .unset] [])) := (c2.trans (st3 _ (Steps.refl _))).trans (by
    refine XS.iloadN X3.here hexec rfl (hb hbytes d4) rfl ?_
    refine XS.ifYes X3.here hexec rfl (pc0 := 5) rfl (hb hbytes d5) rfl (i0_ne_t (nz32 (by omega) l0)) (by decide) rfl ?_
    exact Steps.refl _)
  obtain ⟨T5, X5, q5, st5⟩ := X3.sget hexec hown (wk W (.fieldLink "java/lang/String" 38 "java/lang/String" "COMPACT_STRINGS" "Z")) s1 (fun _ _ h => by rw [hh3]; exact h) (g := (mkF m 27 #[.val (.ref a), .val (.ref b), .val (.int (Int32.ofNat o)), .val (.int (Int32.ofNat len)), .val .null, .unset] [])) rfl (hb hbytes d27)
  have hh5 := q5.trans hh3
  have c6 : Steps p.tables e below (s₁.setTop (entryFrame m #[.ref a, .ref b, .int (Int32.ofNat o), .int (Int32.ofNat len), .null] 6)) (T5.setTop (mkF m 30 #[.val (.ref a), .val (.ref b), .val (.int (Int32.ofNat o)), .val (.int (Int32.ofNat len)), .val .null, .unset] [.int z])) := c4.trans (st5 _ (Steps.refl _))
  have c7 : Steps p.tables e below (s₁.setTop (entryFrame m #[.ref a, .ref b, .int (Int32.ofNat o), .int (Int32.ofNat len), .null] 6)) (T5.setTop (mkF m 36 #[.val (.ref a), .val (.ref b), .val (.int (Int32.ofNat o)), .val (.int (Int32.ofNat len)), .val .null, .unset] [.int (Int32.ofNat len), .int (Int32.ofNat o), .ref b])) := c6.trans (by
    refine XS.ifNo X5.here hexec rfl (hb hbytes d30) rfl (i0_eq_f hz) ?_
    refine XS.aloadN X5.here hexec rfl (hb hbytes d33) rfl rfl ?_
    refine XS.iloadN X5.here hexec rfl (hb hbytes d34) rfl ?_
    refine XS.iloadN X5.here hexec rfl (hb hbytes d35) rfl ?_
    exact Steps.refl _)
  obtain ⟨v8, T8, X8, E8, g8⟩ := X5.callS hexec (Cmp3.law l b A o len) hown (wks W (staticW "java/lang/String" 177 Cmp3.yN)) (wk W Cmp3.tab) (W := 0) (Nat.le_of_ble_eq_true rfl) (Nat.le_of_ble_eq_true rfl) (Nat.le_refl _) (by show 0 + len ≤ len; omega) (g := (mkF m 36 #[.val (.ref a), .val (.ref b), .val (.int (Int32.ofNat o)), .val (.int (Int32.ofNat len)), .val .null, .unset] [.int (Int32.ofNat len), .int (Int32.ofNat o), .ref b])) rfl (by rw [hml]; rfl) c7 (argsL := [.ref b, .int (Int32.ofNat o), .int (Int32.ofNat len)]) (rest := []) rfl rfl (by show 2 * 0 + 0 ≤ _; decide) (hb hbytes d36) (⟨rfl, hA.mv X5.warmed.alike hh5, l1, l2, hp⟩)
  obtain ⟨e8, z8⟩ := E8
  obtain ⟨rfl, N, n1, n2, n3, n4, n5, n6⟩ := NewArr.mv _ T5 s _ _ hh5.symm (Vm.Alike.refl _) rfl e8
  rw [hh5] at z8
  have hB1 := hB.keep X8.warmed.alike (n6 _ _ hB.1)
  have hne : s.heap.size ≠ a := (Nat.ne_of_lt (Array.getElem?_eq_some_iff.mp hB.1).1).symm
  have c9 : Steps p.tables e below (s₁.setTop (entryFrame m #[.ref a, .ref b, .int (Int32.ofNat o), .int (Int32.ofNat len), .null] 6)) (T8.setTop (mkF m 39 #[.val (.ref a), .val (.ref b), .val (.int (Int32.ofNat o)), .val (.int (Int32.ofNat len)), .val .null, .unset] [.ref s.heap.size])) := g8
  have c10 : Steps p.tables e below (s₁.setTop (entryFrame m #[.ref a, .ref b, .int (Int32.ofNat o), .int (Int32.ofNat len), .null] 6)) (T8.setTop (mkF m 45 #[.val (.ref a), .val (.ref b), .val (.int (Int32.ofNat o)), .val (.int (Int32.ofNat len)), .val .null, .val (.ref s.heap.size)] [.int (Int32.ofNat N.slots.size), .ref s.heap.size, .ref a])) := by
    have hc : Steps p.tables e below (s₁.setTop (entryFrame m #[.ref a, .ref b, .int (Int32.ofNat o), .int (Int32.ofNat len), .null] 6)) (T8.setTop (mkF m 45 #[.val (.ref a), .val (.ref b), .val (.int (Int32.ofNat o)), .val (.int (Int32.ofNat len)), .val .null, .val (.ref s.heap.size)] [.int (Int32.ofNat len), .ref s.heap.size, .ref a])) := c9.trans (by
      refine XS.astore X8.here hexec rfl (hb hbytes d39) rfl rfl rfl ?_
      refine XS.aloadN X8.here hexec rfl (hb hbytes d41) rfl rfl ?_
      refine XS.aload X8.here hexec rfl (hb hbytes d42) rfl rfl ?_
      refine XS.iloadN X8.here hexec rfl (hb hbytes d44) rfl ?_
      exact Steps.refl _)
    rw [n4]; exact hc
  obtain ⟨v11, T11, X11, E11, g11⟩ := X8.callS hexec (CodL.law l s.heap.size N) hown (wks W (staticW "java/lang/String" 47 CodL.yN)) (wk W CodL.tab) (W := 1) (Nat.le_of_ble_eq_true rfl) (Nat.le_of_ble_eq_true rfl) (Nat.le_refl _) (by show 0 + len + 0 ≤ len; omega) (g := (mkF m 45 #[.val (.ref a), .val (.ref b), .val (.int (Int32.ofNat o)), .val (.int (Int32.ofNat len)), .val .null, .val (.ref s.heap.size)] [.int (Int32.ofNat N.slots.size), .ref s.heap.size, .ref a])) rfl (by rw [hml]; rfl) c10 (argsL := [.ref s.heap.size, .int (Int32.ofNat N.slots.size)]) (rest := [.ref a]) rfl rfl (by show 2 * 0 + (1 + 0) ≤ _; decide) (hb hbytes d45) (⟨rfl, n1⟩)
  obtain ⟨rfl, q11⟩ := E11
  have hB11 := hB1.mv (X8.warmed.alike.symm.trans X11.warmed.alike) q11
  have c12 : Steps p.tables e below (s₁.setTop (entryFrame m #[.ref a, .ref b, .int (Int32.ofNat o), .int (Int32.ofNat len), .null] 6)) (T11.setTop (mkF m 48 #[.val (.ref a), .val (.ref b), .val (.int (Int32.ofNat o)), .val (.int (Int32.ofNat len)), .val .null, .val (.ref s.heap.size)] [.int 0, .ref a])) := g11
  obtain ⟨T13, X13, p13, bl13, sl13, st13⟩ := X11.finit hexec hown (wk W (.fieldLink "java/lang/String" 15 "java/lang/String" "coder" "B")) (Or.inr ⟨_, (wk W (.laysFinal "java/lang/String" "java/lang/String" "coder" "B"))⟩) (Or.inl ⟨rfl, hnm⟩) f2 (Or.inl rfl) hB11 (t := .byte) (by decide +kernel) rfl (g := (mkF m 48 #[.val (.ref a), .val (.ref b), .val (.int (Int32.ofNat o)), .val (.int (Int32.ofNat len)), .val .null, .val (.ref s.heap.size)] [.int 0, .ref a])) rfl (rest := []) rfl (hb hbytes d48)
  have c14 : Steps p.tables e below (s₁.setTop (entryFrame m #[.ref a, .ref b, .int (Int32.ofNat o), .int (Int32.ofNat len), .null] 6)) (T13.setTop (mkF m 54 #[.val (.ref a), .val (.ref b), .val (.int (Int32.ofNat o)), .val (.int (Int32.ofNat len)), .val .null, .val (.ref s.heap.size)] [.ref s.heap.size, .ref a])) := (c12.trans (st13 _ (Steps.refl _))).trans (by
    refine XS.aloadN X13.here hexec rfl (hb hbytes d51) rfl rfl ?_
    refine XS.aload X13.here hexec rfl (hb hbytes d52) rfl rfl ?_
    exact Steps.refl _)
  obtain ⟨T15, X15, p15, bl15, sl15, st15⟩ := X13.finit hexec hown (wk W (.fieldLink "java/lang/String" 9 "java/lang/String" "value" "[B")) (Or.inr ⟨_, (wk W (.laysFinal "java/lang/String" "java/lang/String" "value" "[B"))⟩) (Or.inl ⟨rfl, hnm⟩) f1 (Or.inl rfl) bl13 (t := (.array .byte)) (by decide +kernel) rfl (g := (mkF m 54 #[.val (.ref a), .val (.ref b), .val (.int (Int32.ofNat o)), .val (.int (Int32.ofNat len)), .val .null, .val (.ref s.heap.size)] [.ref s.heap.size, .ref a])) rfl (rest := []) rfl (hb hbytes d54)
  have c16 : Steps p.tables e below (s₁.setTop (entryFrame m #[.ref a, .ref b, .int (Int32.ofNat o), .int (Int32.ofNat len), .null] 6)) (T15.setTop (mkF m 57 #[.val (.ref a), .val (.ref b), .val (.int (Int32.ofNat o)), .val (.int (Int32.ofNat len)), .val .null, .val (.ref s.heap.size)] [])) := c14.trans (st15 _ (Steps.refl _))
  have ap := apart (Or.inr ⟨_, (wk W (.laysFinal "java/lang/String" "java/lang/String" "value" "[B"))⟩) (Or.inr ⟨_, (wk W (.laysFinal "java/lang/String" "java/lang/String" "coder" "B"))⟩) f1 f2 (t₁ := .array .byte) (t₂ := .byte) (by decide +kernel) (by decide +kernel) (by decide)
  have al := X8.warmed.alike.symm.trans X15.warmed.alike
  have n7 : T11.heap[s.heap.size]? = some N := by rw [q11]; exact n1.1
  exact ⟨T15, none, _, _, _, X15, by simp, rfl, by omega, (fun _ => rfl), ⟨rfl, _, N, bl15, ((Same.refl D _).set _ (by simp)).set _ (by simp), sl15, (Cell.slots_setSlot_ne _ ap).trans sl13, n1.keep al (p15.other hne (p13.other hne n7)), n2, by rw [al.findClass]; exact n3, n4, n5, fun y c h1 h2 => p15.other h1 (p13.other h1 (by rw [q11]; exact n6 y c h2)), by rw [p15.2.2, p13.2.2, q11]; exact z8⟩, fun fs hl => c16.trans (X15.returnOut hexec hret (hb hbytes d57) hl)⟩
end New4
namespace New1
def yN : MethodName := ⟨"java/lang/String", "<init>", "([C)V"⟩
abbrev yB : ByteArray := jdk_42_method_3_code
theorem d0 : decode yB 0 = .ok (.aload_n 0, 1) := by decide +kernel
theorem d1 : decode yB 1 = .ok (.aload_n 1, 1) := by decide +kernel
theorem d2 : decode yB 2 = .ok (.iconst 0, 1) := by decide +kernel
theorem d3 : decode yB 3 = .ok (.aload_n 1, 1) := by decide +kernel
theorem d4 : decode yB 4 = .ok (.arraylength, 1) := by decide +kernel
theorem d5 : decode yB 5 = .ok (.aconst_null, 1) := by decide +kernel
theorem d6 : decode yB 6 = .ok (.invokespecial 27, 3) := by decide +kernel
theorem d9 : decode yB 9 = .ok (.return_, 1) := by decide +kernel
def site : List Cond := [New4.tab] ++ initW "java/lang/String" 27 New4.yN
def tab : Cond := tabOf yN yB 2 none site
def P (a : Addr) (D : Cell) (fV fC : Field) (b : Addr) (A : Cell) (z : Int32) (args : Array Value) (s : State) : Prop := args = #[.ref a, .ref b] ∧ Blank "java/lang/String" a D s ∧ Found "java/lang/String" "value" "[B" fV s ∧ Found "java/lang/String" "coder" "B" fC s ∧ Ch b A s ∧ StaticIs s "java/lang/String" "COMPACT_STRINGS" "Z" (.int z) ∧ ¬ z = 0 ∧ 0 < A.slots.size ∧ A.slots.size ≤ 536870912 ∧ ∀ i, i < A.slots.size → ¬ 255 < cv A i
def E (a : Addr) (D : Cell) (fV fC : Field) (A : Cell) (r : Option Value) (s u : State) : Prop := Got a D fV fC A 0 A.slots.size r s u
/-- new String(chars), not empty, no char above 255: a Latin-1 String of their low bytes -/
theorem law (l : Launch) (a : Addr) (D : Cell) (fV fC : Field) (b : Addr) (A : Cell) (z : Int32) : Law l yN 2 1 3 52 yB 2 none site (P a D fV fC b A z) (E a D fV fC A) [⟨a, fC.slot⟩, ⟨a, fV.slot⟩] 1 A.slots.size := by
  refine Law.of_walk (plainFor_of_name (by decide +kernel)) (by decide +kernel) (by decide +kernel) (by decide) (fun _ _ h => by rw [h.1]; rfl) (fun _ U U' hal hh h => ⟨h.1, h.2.1.mv hal hh, h.2.2.1.al hal, h.2.2.2.1.al hal, h.2.2.2.2.1.mv hal hh, h.2.2.2.2.2.1.there hal hh, h.2.2.2.2.2.2⟩) (fun r U U' V V' h1 hal h2 h => Got.mv r U U' V V' h1 hal h2 h) ?_
  intro p e s m args below meth c s₁ X0 hexec hbytes hml hret hlk hnm hown hh0 W hP
  obtain ⟨rfl, hB, f1, f2, hA, s1, hz, l0, l2, hp⟩ := hP
  have c1 : Steps p.tables e below (s₁.setTop (entryFrame m #[.ref a, .ref b] 2)) (s₁.setTop (mkF m 0 #[.val (.ref a), .val (.ref b)] [])) := entry rfl
  have c2 : Steps p.tables e below (s₁.setTop (entryFrame m #[.ref a, .ref b] 2)) (s₁.setTop (mkF m 6 #[.val (.ref a), .val (.ref b)] [.null, .int (Int32.ofNat A.slots.size), .int 0, .ref b, .ref a])) := c1.trans (by
    refine XS.aloadN X0.here hexec rfl (hb hbytes d0) rfl rfl ?_
    refine XS.aloadN X0.here hexec rfl (hb hbytes d1) rfl rfl ?_
    refine iconstV X0.here hexec rfl 0 (hb hbytes d2) (by decide) ?_
    refine XS.aloadN X0.here hexec rfl (hb hbytes d3) rfl rfl ?_
    refine X0.alen hexec (hA.1.mv X0.warmed.alike hh0) rfl rfl (hb hbytes d4) ?_
    refine XS.aconstNull X0.here hexec rfl (hb hbytes d5) ?_
    exact Steps.refl _)
  obtain ⟨v3, T3, X3, E3, g3⟩ := X0.callN hexec (New4.law l a D fV fC b A z 0 A.slots.size) rfl hown (wks W (initW "java/lang/String" 27 New4.yN)) (W New4.tab (by simp only [site, List.mem_cons, List.mem_append, true_or, or_true])) (W := 0) (Nat.le_of_ble_eq_true rfl) (Nat.le_of_ble_eq_true rfl) (Nat.le_refl _) (by show 0 + A.slots.size ≤ A.slots.size; omega) (g := (mkF m 6 #[.val (.ref a), .val (.ref b)] [.null, .int (Int32.ofNat A.slots.size), .int (Int32.ofNat 0), .ref b, .ref a])) rfl (by rw [hml]; rfl) c2 (argsL := [.ref b, .int (Int32.ofNat 0), .int (Int32.ofNat A.slots.size), .null]) (rest := []) rfl rfl (by show 2 * 0 + 0 ≤ _; decide) (hb hbytes d6) (⟨rfl, hB.mv X0.warmed.alike hh0, f1.al X0.warmed.alike, f2.al X0.warmed.alike, hA.mv X0.warmed.alike hh0, s1.there X0.warmed.alike hh0, hz, l0, by omega, l2, fun i hi => by rw [Nat.zero_add]; exact hp i hi⟩)
  have e0 := Got.mv _ s₁ s _ _ hh0.symm (Vm.Alike.refl _) rfl E3
  obtain rfl := e0.1
  have c4 : Steps p.tables e below (s₁.setTop (entryFrame m #[.ref a, .ref b] 2)) (T3.setTop (mkF m 9 #[.val (.ref a), .val (.ref b)] [])) := g3
  exact ⟨T3, none, _, _, _, X3, by simp, rfl, by omega, (fun _ => rfl), e0, fun fs hl => c4.trans (X3.returnOut hexec hret (hb hbytes d9) hl)⟩
theorem pays {l : Launch} {R : Room} {p : Program} {e : Env} {below : List Frame} {s : State} {sargs : Array Value} {len W : Nat} (a : Addr) (D : Cell) (fV fC : Field) (b : Addr) (A : Cell) (z : Int32) (htab : tab.before sargs s = true) (hfr : 4 ≤ R.frames) (hlo : W + 65 ≤ R.locals) :
    Back l R p e below s sargs yN len W (fun A₁ a₁ => A₁.cells + 1 ≤ R.cells ∧ A₁.slots + A.slots.size ≤ R.slots ∧ P a D fV fC b A z a₁ A₁.U) (fun A₁ _ v₁ B₁ => E a D fV fC A v₁ A₁.U B₁.U ∧ B₁.locs = A₁.locs ++ [⟨a, fC.slot⟩, ⟨a, fV.slot⟩] ∧ B₁.cells = A₁.cells + 1 ∧ B₁.slots = A₁.slots + A.slots.size) :=
  (law l a D fV fC b A z).pays htab hfr (by omega)
end New1
end StrChars
namespace StrChars.Road
open Jvm Sem ClassFile Op Lib Jvm.Stand Jvm.Free Jvm.Free.XT
open Jvm.Lib.Cold (StaticIs)
abbrev ST : String := "java/lang/String"
/-- every table word that New1's law asks, flat -/
abbrev words : List Jvm.Cond := [.code New1.yN New1.yB 2 none, .initialized ST, .methodLink ST 27 New4.yN, .instanceMethod New4.yN,
  .code New4.yN New4.yB 6 none, .fieldLink ST 38 ST "COMPACT_STRINGS" "Z", .laysFinal ST ST "value" "[B", .fieldLink ST 9 ST "value" "[B", .laysFinal ST ST "coder" "B", .fieldLink ST 15 ST "coder" "B",
  .methodLink ST 1 Lib.objectInit, .instanceMethod Lib.objectInit, .code Lib.objectInit ⟨#[0xb1]⟩ 1 none, .methodLink ST 177 Cmp3.yN, .static Cmp3.yN, .methodLink ST 47 CodL.yN, .static CodL.yN,
  .code Cmp3.yN Cmp3.yB 6 (some (.array .byte)), .initialized U16, .arrayClass .byte, .methodLink U16 115 Cmp5.yN, .static Cmp5.yN, .code Cmp5.yN Cmp5.yB 7 (some .int), .code CodL.yN CodL.yB 2 (some .byte)]
theorem tab_of {a : Array Value} {s : State} (h : ∀ w ∈ words, w.before a s = true) : New1.tab.before a s = true := by
  have h5 : Cmp5.tab.before a s = true := unparts (wk h (.code Cmp5.yN Cmp5.yB 7 (some .int))) (wks h (.initialized Cmp5.yN.cls :: Cmp5.site))
  have hc : CodL.tab.before a s = true := unparts (wk h (.code CodL.yN CodL.yB 2 (some .byte))) (wks h (.initialized CodL.yN.cls :: CodL.site))
  have q5 : ∀ w ∈ Cmp5.tab :: words, w.before a s = true := fun w hw => (List.mem_cons.mp hw).elim (fun e => e ▸ h5) (h w)
  have h3 : Cmp3.tab.before a s = true := unparts (wk q5 (.code Cmp3.yN Cmp3.yB 6 (some (.array .byte)))) (wks q5 (.initialized Cmp3.yN.cls :: Cmp3.site))
  have q3 : ∀ w ∈ Cmp3.tab :: CodL.tab :: words, w.before a s = true := fun w hw => (List.mem_cons.mp hw).elim (fun e => e ▸ h3) fun hw => (List.mem_cons.mp hw).elim (fun e => e ▸ hc) (h w)
  have h4 : New4.tab.before a s = true := unparts (wk q3 (.code New4.yN New4.yB 6 none)) (wks q3 (.initialized New4.yN.cls :: New4.site))
  have q4 : ∀ w ∈ New4.tab :: words, w.before a s = true := fun w hw => (List.mem_cons.mp hw).elim (fun e => e ▸ h4) (h w)
  exact unparts (wk q4 (.code New1.yN New1.yB 2 none)) (wks q4 (.initialized New1.yN.cls :: New1.site))
/-- the words ride from the start Z to the walk's own state -/
theorem moved {Z s : State} {a0 args : Array Value} (hZ : Z.Warmed39 s.vm) (hw : ∀ d ∈ words, d.before a0 Z = true) : ∀ d ∈ words, d.before args s = true := fun d hd => by
  have q := hw d hd
  have t : ∀ d ∈ words, d = .arrayClass .byte ∨ (d.onTables && d.keepsFace) = true := by decide +kernel
  rcases t d hd with rfl | t
  · exact RoadKit.mvA hZ q
  · exact RoadKit.mv hZ q t
/-- WHAT COMES BACK, over the tables of the start Z: h the heap at the call, h' behind it -/
def Q (Z : State) (x : Addr) (A : Cell) (h : Heap) (v : Option Value) (h' : Heap) (L : List Loc) : Prop := v = none ∧ (∀ y ∈ L, y.base = x) ∧ RoadKit.Keep h h' [x] ∧ h'.size = h.size + 1 ∧ RoadKit.Exa Z h' x ST ∧ RoadKit.Fld Z h' x ST "value" "[B" (.ref h.size) ∧ RoadKit.Fld Z h' x ST "coder" "B" (.int 0) ∧
  (∃ V : Cell, RoadKit.Arr Z h' h.size V .byte ∧ V.vm = .none ∧ Z.vm.findClass "[B" = some V.cls ∧ V.slots.size = A.slots.size ∧ ∀ j, j < A.slots.size → V.slots[j]? = some (.int (lo8 (cv A j)))) ∧
  ∀ (O n d : String) (w : Value), RoadKit.Fld Z h x O n d w → RoadKit.slotOf Z O n d ≠ RoadKit.slotOf Z ST "value" "[B" → RoadKit.slotOf Z O n d ≠ RoadKit.slotOf Z ST "coder" "B" → RoadKit.Fld Z h' x O n d w
/-- **new String(chars) AT A CALL, IN THE ROAD'S FORM**: for specialBack behind newO: x the fresh String, b the char[] with the cell A -/
theorem back {p : Program} {l : Launch} {e : Env} {R : Room} {s : State} {args : Array Value} {below : List Frame} {len W : Nat} {Z : State} {a0 : Array Value} {h : Heap} (hZ : Z.Warmed39 s.vm) (hw : ∀ d ∈ words, d.before a0 Z = true) {kI : Nat} (wi : (Jvm.Cond.instantiable ST kI).before a0 Z = true)
    {x b : Addr} {A : Cell} {z : Int32} {v0 c0 : Value} (E : RoadKit.Exa Z h x ST) (V : RoadKit.Fld Z h x ST "value" "[B" v0) (C : RoadKit.Fld Z h x ST "coder" "B" c0) (K : RoadKit.Arr Z h b A .char) (hty : Typed .char A) (S : RoadKit.Sta Z h ST "COMPACT_STRINGS" "Z" (.int z)) (hz : ¬ z = 0)
    (l0 : 0 < A.slots.size) (l2 : A.slots.size ≤ 536870912) (hp : ∀ i, i < A.slots.size → ¬ 255 < cv A i) (hfr : 4 ≤ R.frames) (hlo : W + 65 ≤ R.locals) :
    Back l R p e below s args New1.yN len W (fun P a => a = #[.ref x, .ref b] ∧ P.U.heap = h ∧ P.cells + 1 ≤ R.cells ∧ P.slots + A.slots.size ≤ R.slots)
      (fun P _ v B => ∃ L, Q Z x A h v B.U.heap L ∧ B.locs = P.locs ++ L ∧ B.cells = P.cells + 1 ∧ B.slots = P.slots + A.slots.size) := by
  intro m meth c P g ig mk a X hg hsize hdg hW hn hp'
  obtain ⟨rfl, rfl, r1, r2⟩ := hp'
  have al : Z.vm.Alike P.U.vm := hZ.alike.trans X.warmed.alike
  obtain ⟨D, cfV, kV, iV, fV, hD, gV, stV, knV, obV, asV, slV⟩ := id V
  obtain ⟨D', cfC, kC, iC, fC, hD', gC, stC, -, -, asC, slC⟩ := id C
  cases hD.symm.trans hD'
  obtain ⟨D2, kD, e1, e2, e3, e4, e5⟩ := id E
  cases hD.symm.trans e1
  obtain ⟨c2, k2, i1, i2, i3, -⟩ := Cond.instantiable_spec wi
  cases e2.symm.trans i1
  cases e3.symm.trans i2
  obtain ⟨kU, u1, u2⟩ := al.2.2 _ _ e3
  have hB : Blank ST x D P.U := ⟨hD, ⟨knV, fun q hq => by rw [hq] at obV; cases obV⟩, by rw [al.findClass]; exact e2, kU, u1, by rw [u2]; exact i3, by rw [u2]; exact e5 i3⟩
  have F1 : Found ST "value" "[B" fV P.U := ⟨SBG.found_only al ⟨cfV, kV, iV, gV⟩, stV⟩
  have F2 : Found ST "coder" "B" fC P.U := ⟨SBG.found_only al ⟨cfC, kC, iC, gC⟩, stC⟩
  have hA : Ch b A P.U := ⟨⟨K.1, State.isArrayOf_alike al K.2.1, K.2.2, by omega⟩, hty⟩
  have hS : StaticIs P.U ST "COMPACT_STRINGS" "Z" (.int z) := by
    obtain ⟨cfS, iS, kS, fS, st, cS, t1, t2, t3, t4, t5, t6, t7⟩ := S
    exact StaticIs.there (s := { Z with heap := P.U.heap }) ⟨cfS, iS, kS, fS, st, cS, t1, t2, t3, t4, t5, (fun q => by rw [q] at t6; cases t6), t7⟩ al rfl
  obtain ⟨v, B, X', ⟨⟨hv, E', V', q1, q2, q3, q4, q5, q6, q7, q8, q9, q10, q11⟩, hl, hc, hs⟩, st⟩ := New1.pays x D fV fC b A z (tab_of (moved hZ hw)) hfr hlo m meth c P g ig mk _ X hg hsize hdg hW hn ⟨r1, r2, rfl, hB, F1, F2, hA, hS, hz, l0, l2, hp⟩
  have al' : Z.vm.Alike B.U.vm := hZ.alike.trans X'.warmed.alike
  have hsz : E'.slots.size = D.slots.size := by
    obtain ⟨-, -, -, kB, w1, w2, w3⟩ := q1
    obtain ⟨kB', y1, y2⟩ := al'.2.2 _ _ e3
    rw [q2.2.1] at w1
    cases w1.symm.trans y1
    rw [w3, e5 i3, y2]
  refine ⟨v, B, X', ⟨_, ⟨hv, ?_, ⟨by omega, fun y cy hy hn' => q10 y cy (by simpa using hn') hy, fun y cy hy => ?_⟩, q11, ⟨E', _, q1.1, by rw [q2.2.1]; exact e2, by rw [q2.2.1]; exact e3, by rw [q2.1]; exact obV, fun _ => by rw [hsz]; exact e5 i3⟩,
    ⟨E', cfV, kV, iV, fV, q1.1, gV, stV, by rw [q2.1]; exact knV, by rw [q2.1]; exact obV, by rw [q2.2.1]; exact asV, q3⟩, ⟨E', cfC, kC, iC, fC, q1.1, gC, stC, by rw [q2.1]; exact knV, by rw [q2.1]; exact obV, by rw [q2.2.1]; exact asC, q4⟩,
    ⟨V', ⟨q5.1, State.isArrayOf_alike al'.symm q5.2.1, q5.2.2.1⟩, q6, by rw [← al'.findClass]; exact q7, q8, fun j hj => by have := q9 j hj; rwa [Nat.zero_add] at this⟩, fun O n d w F n1 n2 => ?_⟩, hl, hc, hs⟩, st⟩
  · intro y hy
    simp only [List.mem_cons, List.not_mem_nil, or_false] at hy
    rcases hy with rfl | rfl <;> rfl
  · by_cases q : y = x
    · subst q
      cases hD.symm.trans hy
      exact ⟨E', q1.1, q2.2.1, q2.1, hsz⟩
    · exact ⟨cy, q10 y cy q hy, rfl, rfl, rfl⟩
  · obtain ⟨D3, cf, k, i, f, g1, g2, g3, g4, g5, g6, g7⟩ := F
    cases hD.symm.trans g1
    simp only [RoadKit.slotOf, g2, gV, gC, Option.map_some, Option.getD_some] at n1 n2
    exact ⟨E', cf, k, i, f, q1.1, g2, g3, by rw [q2.1]; exact g4, by rw [q2.1]; exact g5, by rw [q2.2.1]; exact g6, by rw [q2.2.2 f.slot (by simp [n1, n2])]; exact g7⟩
end StrChars.Road
namespace StrChars.Road
open Jvm Sem ClassFile Op Lib Jvm.Stand Jvm.Free Jvm.Free.XT
/-- WHAT COMES BACK, the byte[] as a list of values -/
def QA (Z : State) (x : Addr) (zn : Int32) (cs : List Int32) (h : Heap) (v : Option Value) (h' : Heap) (L : List Loc) : Prop := v = none ∧ (∀ y ∈ L, y.base = x) ∧ RoadKit.Keep h h' [x] ∧ h'.size = h.size + 1 ∧ RoadKit.Exa Z h' x ST ∧ RoadKit.Fld Z h' x ST "value" "[B" (.ref h.size) ∧ RoadKit.Fld Z h' x ST "coder" "B" (.int 0) ∧
  (∃ kb, Z.vm.findClass "[B" = some kb ∧ RoadKit.Arv Z h' h.size kb .byte zn (cs.map fun c => .int (lo8 c)) (.int 0)) ∧
  ∀ (O n d : String) (w : Value), RoadKit.Fld Z h x O n d w → RoadKit.slotOf Z O n d ≠ RoadKit.slotOf Z ST "value" "[B" → RoadKit.slotOf Z O n d ≠ RoadKit.slotOf Z ST "coder" "B" → RoadKit.Fld Z h' x O n d w
/-- **new String(chars) AT A CALL, THE ARRAYS AS LISTS**: the char[] at b holds cs, not empty, no char above 255 -/
theorem backArv {p : Program} {l : Launch} {e : Env} {R : Room} {s : State} {args : Array Value} {below : List Frame} {len W : Nat} {Z : State} {a0 : Array Value} {h : Heap} (hZ : Z.Warmed39 s.vm) (hw : ∀ d ∈ words, d.before a0 Z = true) {kI : Nat} (wi : (Jvm.Cond.instantiable ST kI).before a0 Z = true)
    {x b : Addr} {k : ClassId} {zn z : Int32} {cs : List Int32} {dv v0 c0 : Value} (E : RoadKit.Exa Z h x ST) (V : RoadKit.Fld Z h x ST "value" "[B" v0) (C : RoadKit.Fld Z h x ST "coder" "B" c0) (K : RoadKit.Arv Z h b k .char zn (cs.map Value.int) dv) (S : RoadKit.Sta Z h ST "COMPACT_STRINGS" "Z" (.int z)) (hz : ¬ z = 0)
    (hlen : zn.toNatClampNeg = cs.length) (h0 : 0 < cs.length) (hbig : cs.length ≤ 536870912) (hall : ∀ c ∈ cs, ¬ 255 < c) (hfr : 4 ≤ R.frames) (hlo : W + 65 ≤ R.locals) :
    Back l R p e below s args New1.yN len W (fun P a => a = #[.ref x, .ref b] ∧ P.U.heap = h ∧ P.cells + 1 ≤ R.cells ∧ P.slots + cs.length ≤ R.slots)
      (fun P _ v B => ∃ L, QA Z x zn cs h v B.U.heap L ∧ B.locs = P.locs ++ L ∧ B.cells = P.cells + 1 ∧ B.slots = P.slots + cs.length) := by
  obtain ⟨A, K1, K2, K3, K4, K5, K6⟩ := K
  have e : A.slots.size = cs.length := K3.trans hlen
  have hat : ∀ (i : Nat) (hi : i < cs.length), A.slots[i]? = some (.int cs[i]) := fun i hi => by rw [K5 i (by omega)]; simp [List.getD_eq_getElem?_getD, hi]
  have hcv : ∀ (i : Nat) (hi : i < cs.length), cv A i = cs[i] := fun i hi => by unfold cv; rw [hat i hi]
  have hty : Typed .char A := fun i v hv => by
    have hi : i < A.slots.size := (Array.getElem?_eq_some_iff.mp hv).1
    have q := K5 i hi
    rw [hv] at q
    rw [Option.some.inj q]
    exact K6 i hi
  refine Back.mono (back hZ hw wi E V C K1 hty S hz (by omega) (by omega) (fun i hi => by rw [hcv i (by omega)]; exact hall _ (List.getElem_mem _)) hfr hlo) (fun P a hp => ⟨hp.1, hp.2.1, hp.2.2.1, by rw [e]; exact hp.2.2.2⟩) (fun P a v B hp hq => ?_)
  obtain ⟨L, ⟨q1, q2, q3, q4, q5, q6, q7, ⟨V', v1, v2, v3, v4, v5⟩, q9⟩, hl, hc, hs⟩ := hq
  refine ⟨L, ⟨q1, q2, q3, q4, q5, q6, q7, ⟨V'.cls, v3, V', v1, rfl, by rw [v4, e, hlen], K4, fun i hi => ?_, fun i hi => ?_⟩, q9⟩, hl, hc, by rw [hs, e]⟩
  · have hi' : i < cs.length := by omega
    rw [v5 i (by omega), hcv i hi']; simp [List.getD_eq_getElem?_getD, hi']
  · have hi' : i < cs.length := by omega
    simp only [List.getD_eq_getElem?_getD, List.getElem?_map, List.getElem?_eq_getElem hi', Option.map_some, Option.getD_some]
    exact fits_lo8 _
end StrChars.Road
namespace StrChars.Road
open Jvm Sem ClassFile Op Lib Jvm.Stand Jvm.Free Jvm.Free.XT
/-- WHAT COMES BACK, in the writer's own shape -/
def QV (Z : State) (x : Addr) (N : Int32) (bs : List Int32) (h : Heap) (n0 : Nat) (v : Option Value) (h' : Heap) (L : List Loc) : Prop := v = none ∧ RoadKit.Fr n0 L ∧ RoadKit.Keep h h' [x] ∧ RoadKit.Exa Z h' x ST ∧ RoadKit.Fld Z h' x ST "coder" "B" (.int 0) ∧
  ∃ (t : Addr) (kb : ClassId), n0 ≤ t ∧ h.size ≤ t ∧ ¬ t = x ∧ RoadKit.Fld Z h' x ST "value" "[B" (.ref t) ∧ RoadKit.Arv Z h' t kb .byte N (bs.map Value.int) (.int 0)
/-- **new String(chars) AT A CALL, FOR THE WRITER**: a char[] of n known ints, each 0 to 255 -/
theorem backV {p : Program} {l : Launch} {e : Env} {R : Room} {s : State} {args : Array Value} {below : List Frame} {len W : Nat} {Z : State} {a0 : Array Value} {h : Heap} (hZ : Z.Warmed39 s.vm) (hw : ∀ d ∈ words, d.before a0 Z = true) {kI : Nat} (wi : (Jvm.Cond.instantiable ST kI).before a0 Z = true)
    {x b : Addr} {kC : ClassId} {cs bs : List Int32} {d v0 c0 : Value} {z N : Int32} {n n0 : Nat} (hx0 : n0 ≤ x) (hh0 : n0 ≤ h.size) (E : RoadKit.Exa Z h x ST) (V : RoadKit.Fld Z h x ST "value" "[B" v0) (C : RoadKit.Fld Z h x ST "coder" "B" c0) (K : RoadKit.Arv Z h b kC .char N (cs.map Value.int) d) (S : RoadKit.Sta Z h ST "COMPACT_STRINGS" "Z" (.int z)) (hz : ¬ z = 0)
    (hn : cs.length = n) (hN : N = Int32.ofNat n) (l0 : 0 < n) (l2 : n ≤ 4000) (hp : ∀ c ∈ cs, ¬ c < 0 ∧ ¬ (255 : Int32) < c) (hb : bs = cs.map (fun c => c.toInt8.toInt32)) (hfr : 4 ≤ R.frames) (hlo : W + 65 ≤ R.locals) :
    Back l R p e below s args (⟨"java/lang/String", "<init>", "([C)V"⟩ : MethodName) len W (fun P a => a = #[.ref x, .ref b] ∧ P.U.heap = h ∧ P.cells + 1 ≤ R.cells ∧ P.slots + n ≤ R.slots)
      (fun P _ v B => ∃ L, QV Z x N bs h n0 v B.U.heap L ∧ B.locs = P.locs ++ L ∧ B.cells = P.cells + 1 ∧ B.slots = P.slots + n) := by
  subst hn hN hb
  refine Back.mono (backArv hZ hw wi E V C K S hz (n32 (by omega)) l0 (by omega) (fun c hc => (hp c hc).2) hfr hlo) (fun P a hp => hp) (fun P a v B hp hq => ?_)
  obtain ⟨L, ⟨q1, q2, q3, q4, q5, q6, q7, ⟨kb, v1, v2⟩, q9⟩, hl, hc, hs⟩ := hq
  exact ⟨L, ⟨q1, fun y hy => by rw [q2 y hy]; exact hx0, q3, q5, q7, h.size, kb, hh0, Nat.le_refl _, Nat.ne_of_gt E.lt, q6, by rw [List.map_map]; exact v2⟩, hl, hc, hs⟩
end StrChars.Road
end Jvm.Pilot.@@N@@
namespace Jvm.Pilot.@@N@@
open Jvm Jvm.ClassFile Sem Op Lib Jvm.Free Jvm.Stand Jvm.LawKit Jvm.RoadKit Bundle Jvm.Pilot.@@N@@.Jvm.D
section Own
variable {p : Program} {l : Launch} {e : Env} {R : Room} {s S : State} {m : MethodId} {args : Array Value} {below : List Frame} {meth : Method} {c : Code} {Z : State} {a0 : Array Value} {EL : List (String × Nat)} {h : Heap} {locs : List Loc} {cells slots : Nat} {bytes : ByteArray} {own : String} {rt : Option FieldType} {ml : Nat} {pc : Nat} {Ls : Array Slot} {stk rest : List Value} {G : State → Prop}
/-- what every step asks -/
def own_C (p : Program) (S : State) (m : MethodId) (meth : Method) (c : Code) (Z : State) (bytes : ByteArray) (own : String) (rt : Option FieldType) (ml : Nat) : Prop :=
  p.tables.exec = Jvm.exec ∧ Z.Warmed39 S.vm ∧ S.vm.findClass own = some m.cls ∧ c.code = bytes ∧ meth.sig.returnType = rt ∧ meth.locks = false ∧ c.maxLocals = ml
/-- from this pc, these locals and this operand stack the run comes to a state of which G holds -/
def own_E (p : Program) (l : Launch) (e : Env) (R : Room) (S : State) (m : MethodId) (args : Array Value) (below : List Frame) (meth : Method) (c : Code) (h : Heap) (locs : List Loc) (cells slots : Nat) (pc : Nat) (Ls : Array Slot) (stk : List Value) (G : State → Prop) : Prop :=
  ∀ T, Stand p l e R S m args below meth c T locs cells slots → T.heap = h → ∃ s₂, Steps p.tables e below (T.setTop (mkF m pc Ls stk)) s₂ ∧ G s₂
theorem own_iloadN (K : own_C p S m meth c Z bytes own rt ml) {k : Fin 4} {x : Int32} (hd : decode bytes pc = .ok (.iload_n k, 1)) (hl : Ls[k.val]? = some (.val (.int x)))
    (r : own_E p l e R S m args below meth c h locs cells slots (pc + 1) Ls (.int x :: stk) G) : own_E p l e R S m args below meth c h locs cells slots pc Ls stk G := fun T X eT => by
  obtain ⟨s₂, st, q⟩ := r T X eT
  exact ⟨s₂, XS.iloadN X.here K.1 rfl (hb K.2.2.2.1 hd) hl st, q⟩
theorem own_iload (K : own_C p S m meth c Z bytes own rt ml) {k : Nat} {x : Int32} (hd : decode bytes pc = .ok (.iload k, 2)) (hl : Ls[k]? = some (.val (.int x)))
    (r : own_E p l e R S m args below meth c h locs cells slots (pc + 2) Ls (.int x :: stk) G) : own_E p l e R S m args below meth c h locs cells slots pc Ls stk G := fun T X eT => by
  obtain ⟨s₂, st, q⟩ := r T X eT
  exact ⟨s₂, XS.iload X.here K.1 rfl (hb K.2.2.2.1 hd) hl st, q⟩
theorem own_istoreN (K : own_C p S m meth c Z bytes own rt ml) {k : Fin 4} {x : Int32} {Ls' : Array Slot} (hd : decode bytes pc = .ok (.istore_n k, 1)) (hl : storeLocals Ls k.val (.int x) = some Ls')
    (r : own_E p l e R S m args below meth c h locs cells slots (pc + 1) Ls' rest G) : own_E p l e R S m args below meth c h locs cells slots pc Ls (.int x :: rest) G := fun T X eT => by
  obtain ⟨s₂, st, q⟩ := r T X eT
  exact ⟨s₂, XS.istoreN X.here K.1 rfl (hb K.2.2.2.1 hd) rfl hl st, q⟩
theorem own_istore (K : own_C p S m meth c Z bytes own rt ml) {k : Nat} {x : Int32} {Ls' : Array Slot} (hd : decode bytes pc = .ok (.istore k, 2)) (hl : storeLocals Ls k (.int x) = some Ls')
    (r : own_E p l e R S m args below meth c h locs cells slots (pc + 2) Ls' rest G) : own_E p l e R S m args below meth c h locs cells slots pc Ls (.int x :: rest) G := fun T X eT => by
  obtain ⟨s₂, st, q⟩ := r T X eT
  exact ⟨s₂, XS.istore X.here K.1 rfl (hb K.2.2.2.1 hd) rfl hl st, q⟩
theorem own_lloadN (K : own_C p S m meth c Z bytes own rt ml) {k : Fin 4} {x : Int64} (hd : decode bytes pc = .ok (.lload_n k, 1)) (hl : Ls[k.val]? = some (.val (.long x)))
    (r : own_E p l e R S m args below meth c h locs cells slots (pc + 1) Ls (.long x :: stk) G) : own_E p l e R S m args below meth c h locs cells slots pc Ls stk G := fun T X eT => by
  obtain ⟨s₂, st, q⟩ := r T X eT
  exact ⟨s₂, XS.lloadN X.here K.1 rfl (hb K.2.2.2.1 hd) hl st, q⟩
theorem own_lload (K : own_C p S m meth c Z bytes own rt ml) {k : Nat} {x : Int64} (hd : decode bytes pc = .ok (.lload k, 2)) (hl : Ls[k]? = some (.val (.long x)))
    (r : own_E p l e R S m args below meth c h locs cells slots (pc + 2) Ls (.long x :: stk) G) : own_E p l e R S m args below meth c h locs cells slots pc Ls stk G := fun T X eT => by
  obtain ⟨s₂, st, q⟩ := r T X eT
  exact ⟨s₂, XS.lload X.here K.1 rfl (hb K.2.2.2.1 hd) hl st, q⟩
theorem own_lstoreN (K : own_C p S m meth c Z bytes own rt ml) {k : Fin 4} {x : Int64} {Ls' : Array Slot} (hd : decode bytes pc = .ok (.lstore_n k, 1)) (hl : storeLocals Ls k.val (.long x) = some Ls')
    (r : own_E p l e R S m args below meth c h locs cells slots (pc + 1) Ls' rest G) : own_E p l e R S m args below meth c h locs cells slots pc Ls (.long x :: rest) G := fun T X eT => by
  obtain ⟨s₂, st, q⟩ := r T X eT
  exact ⟨s₂, XS.lstoreN X.here K.1 rfl (hb K.2.2.2.1 hd) rfl hl st, q⟩
theorem own_lstore (K : own_C p S m meth c Z bytes own rt ml) {k : Nat} {x : Int64} {Ls' : Array Slot} (hd : decode bytes pc = .ok (.lstore k, 2)) (hl : storeLocals Ls k (.long x) = some Ls')
    (r : own_E p l e R S m args below meth c h locs cells slots (pc + 2) Ls' rest G) : own_E p l e R S m args below meth c h locs cells slots pc Ls (.long x :: rest) G := fun T X eT => by
  obtain ⟨s₂, st, q⟩ := r T X eT
  exact ⟨s₂, XS.lstore X.here K.1 rfl (hb K.2.2.2.1 hd) rfl hl st, q⟩
theorem own_aloadN (K : own_C p S m meth c Z bytes own rt ml) {k : Fin 4} {x : Value} (hd : decode bytes pc = .ok (.aload_n k, 1)) (hl : Ls[k.val]? = some (.val x)) (hv : x.isRef = true)
    (r : own_E p l e R S m args below meth c h locs cells slots (pc + 1) Ls (x :: stk) G) : own_E p l e R S m args below meth c h locs cells slots pc Ls stk G := fun T X eT => by
  obtain ⟨s₂, st, q⟩ := r T X eT
  exact ⟨s₂, XS.aloadN X.here K.1 rfl (hb K.2.2.2.1 hd) hl hv st, q⟩
theorem own_aload (K : own_C p S m meth c Z bytes own rt ml) {k : Nat} {x : Value} (hd : decode bytes pc = .ok (.aload k, 2)) (hl : Ls[k]? = some (.val x)) (hv : x.isRef = true)
    (r : own_E p l e R S m args below meth c h locs cells slots (pc + 2) Ls (x :: stk) G) : own_E p l e R S m args below meth c h locs cells slots pc Ls stk G := fun T X eT => by
  obtain ⟨s₂, st, q⟩ := r T X eT
  exact ⟨s₂, XS.aload X.here K.1 rfl (hb K.2.2.2.1 hd) hl hv st, q⟩
theorem own_astoreN (K : own_C p S m meth c Z bytes own rt ml) {k : Fin 4} {x : Value} {Ls' : Array Slot} (hd : decode bytes pc = .ok (.astore_n k, 1)) (hv : x.isRef = true) (hl : storeLocals Ls k.val x = some Ls')
    (r : own_E p l e R S m args below meth c h locs cells slots (pc + 1) Ls' rest G) : own_E p l e R S m args below meth c h locs cells slots pc Ls (x :: rest) G := fun T X eT => by
  obtain ⟨s₂, st, q⟩ := r T X eT
  exact ⟨s₂, XS.astoreN X.here K.1 rfl (hb K.2.2.2.1 hd) rfl hv hl st, q⟩
theorem own_astore (K : own_C p S m meth c Z bytes own rt ml) {k : Nat} {x : Value} {Ls' : Array Slot} (hd : decode bytes pc = .ok (.astore k, 2)) (hv : x.isRef = true) (hl : storeLocals Ls k x = some Ls')
    (r : own_E p l e R S m args below meth c h locs cells slots (pc + 2) Ls' rest G) : own_E p l e R S m args below meth c h locs cells slots pc Ls (x :: rest) G := fun T X eT => by
  obtain ⟨s₂, st, q⟩ := r T X eT
  exact ⟨s₂, XS.astore X.here K.1 rfl (hb K.2.2.2.1 hd) rfl hv hl st, q⟩
theorem own_iconst (K : own_C p S m meth c Z bytes own rt ml) {i : Int} (hd : decode bytes pc = .ok (.iconst i, 1)) {x : Int32} (hx : Int32.ofInt i = x)
    (r : own_E p l e R S m args below meth c h locs cells slots (pc + 1) Ls (.int x :: stk) G) : own_E p l e R S m args below meth c h locs cells slots pc Ls stk G := fun T X eT => by
  obtain ⟨s₂, st, q⟩ := r T X eT
  exact ⟨s₂, XS.iconst X.here K.1 rfl (hb K.2.2.2.1 hd) (by rw [hx]; exact st), q⟩
theorem own_bipush (K : own_C p S m meth c Z bytes own rt ml) {i : Int} (hd : decode bytes pc = .ok (.bipush i, 2)) {x : Int32} (hx : (Int8.ofInt i).toInt32 = x)
    (r : own_E p l e R S m args below meth c h locs cells slots (pc + 2) Ls (.int x :: stk) G) : own_E p l e R S m args below meth c h locs cells slots pc Ls stk G := fun T X eT => by
  obtain ⟨s₂, st, q⟩ := r T X eT
  exact ⟨s₂, XS.bipush X.here K.1 rfl (hb K.2.2.2.1 hd) (by rw [hx]; exact st), q⟩
theorem own_sipush (K : own_C p S m meth c Z bytes own rt ml) {i : Int} (hd : decode bytes pc = .ok (.sipush i, 3)) {x : Int32} (hx : (Int16.ofInt i).toInt32 = x)
    (r : own_E p l e R S m args below meth c h locs cells slots (pc + 3) Ls (.int x :: stk) G) : own_E p l e R S m args below meth c h locs cells slots pc Ls stk G := fun T X eT => by
  obtain ⟨s₂, st, q⟩ := r T X eT
  exact ⟨s₂, XS.sipush X.here K.1 rfl (hb K.2.2.2.1 hd) (by rw [hx]; exact st), q⟩
theorem own_lconst (K : own_C p S m meth c Z bytes own rt ml) {k : Fin 2} (hd : decode bytes pc = .ok (.lconst k, 1)) {x : Int64} (hx : Int64.ofNat k = x)
    (r : own_E p l e R S m args below meth c h locs cells slots (pc + 1) Ls (.long x :: stk) G) : own_E p l e R S m args below meth c h locs cells slots pc Ls stk G := fun T X eT => by
  obtain ⟨s₂, st, q⟩ := r T X eT
  exact ⟨s₂, XS.lconst X.here K.1 rfl (hb K.2.2.2.1 hd) (by rw [hx]; exact st), q⟩
theorem own_aconstNull (K : own_C p S m meth c Z bytes own rt ml) (hd : decode bytes pc = .ok (.aconst_null, 1))
    (r : own_E p l e R S m args below meth c h locs cells slots (pc + 1) Ls (.null :: stk) G) : own_E p l e R S m args below meth c h locs cells slots pc Ls stk G := fun T X eT => by
  obtain ⟨s₂, st, q⟩ := r T X eT
  exact ⟨s₂, XS.aconstNull X.here K.1 rfl (hb K.2.2.2.1 hd) st, q⟩
theorem own_ldc (K : own_C p S m meth c Z bytes own rt ml) {i : Nat} {x : Int32} (w : (Jvm.Cond.constant own i x).before a0 Z = true) (hd : decode bytes pc = .ok (.ldc i, 2))
    (r : own_E p l e R S m args below meth c h locs cells slots (pc + 2) Ls (.int x :: stk) G) : own_E p l e R S m args below meth c h locs cells slots pc Ls stk G := fun T X eT => by
  obtain ⟨s₂, st, q⟩ := r T X eT
  exact ⟨s₂, X.ldcI K.1 K.2.2.1 (mvT K.2.1 w) rfl (hb K.2.2.2.1 hd) st, q⟩
theorem own_ldc2 (K : own_C p S m meth c Z bytes own rt ml) {i : Nat} {x : Int64} (w : (Jvm.Cond.constantLong own i x).before a0 Z = true) (hd : decode bytes pc = .ok (.ldc2_w i, 3))
    (r : own_E p l e R S m args below meth c h locs cells slots (pc + 3) Ls (.long x :: stk) G) : own_E p l e R S m args below meth c h locs cells slots pc Ls stk G := fun T X eT => by
  obtain ⟨s₂, st, q⟩ := r T X eT
  exact ⟨s₂, X.ldc2J K.1 K.2.2.1 (mvT K.2.1 w) rfl (hb K.2.2.2.1 hd) st, q⟩
theorem own_iadd (K : own_C p S m meth c Z bytes own rt ml) {x y : Int32} (hd : decode bytes pc = .ok (.iadd, 1))
    (r : own_E p l e R S m args below meth c h locs cells slots (pc + 1) Ls (.int (x + y) :: rest) G) : own_E p l e R S m args below meth c h locs cells slots pc Ls (.int y :: .int x :: rest) G := fun T X eT => by
  obtain ⟨s₂, st, q⟩ := r T X eT
  exact ⟨s₂, XS.iadd X.here K.1 rfl (hb K.2.2.2.1 hd) rfl st, q⟩
theorem own_isub (K : own_C p S m meth c Z bytes own rt ml) {x y : Int32} (hd : decode bytes pc = .ok (.isub, 1))
    (r : own_E p l e R S m args below meth c h locs cells slots (pc + 1) Ls (.int (x - y) :: rest) G) : own_E p l e R S m args below meth c h locs cells slots pc Ls (.int y :: .int x :: rest) G := fun T X eT => by
  obtain ⟨s₂, st, q⟩ := r T X eT
  exact ⟨s₂, XS.isub X.here K.1 rfl (hb K.2.2.2.1 hd) rfl st, q⟩
theorem own_imul (K : own_C p S m meth c Z bytes own rt ml) {x y : Int32} (hd : decode bytes pc = .ok (.imul, 1))
    (r : own_E p l e R S m args below meth c h locs cells slots (pc + 1) Ls (.int (x * y) :: rest) G) : own_E p l e R S m args below meth c h locs cells slots pc Ls (.int y :: .int x :: rest) G := fun T X eT => by
  obtain ⟨s₂, st, q⟩ := r T X eT
  exact ⟨s₂, XS.imul X.here K.1 rfl (hb K.2.2.2.1 hd) rfl st, q⟩
theorem own_iand (K : own_C p S m meth c Z bytes own rt ml) {x y : Int32} (hd : decode bytes pc = .ok (.iand, 1))
    (r : own_E p l e R S m args below meth c h locs cells slots (pc + 1) Ls (.int (x &&& y) :: rest) G) : own_E p l e R S m args below meth c h locs cells slots pc Ls (.int y :: .int x :: rest) G := fun T X eT => by
  obtain ⟨s₂, st, q⟩ := r T X eT
  exact ⟨s₂, XS.iand X.here K.1 rfl (hb K.2.2.2.1 hd) rfl st, q⟩
theorem own_ishr (K : own_C p S m meth c Z bytes own rt ml) {x y : Int32} (hd : decode bytes pc = .ok (.ishr, 1))
    (r : own_E p l e R S m args below meth c h locs cells slots (pc + 1) Ls (.int (x >>> (y &&& 31)) :: rest) G) : own_E p l e R S m args below meth c h locs cells slots pc Ls (.int y :: .int x :: rest) G := fun T X eT => by
  obtain ⟨s₂, st, q⟩ := r T X eT
  exact ⟨s₂, XS.ishr X.here K.1 rfl (hb K.2.2.2.1 hd) rfl st, q⟩
theorem own_iushr (K : own_C p S m meth c Z bytes own rt ml) {x y : Int32} (hd : decode bytes pc = .ok (.iushr, 1))
    (r : own_E p l e R S m args below meth c h locs cells slots (pc + 1) Ls (.int (XT.ushr x y) :: rest) G) : own_E p l e R S m args below meth c h locs cells slots pc Ls (.int y :: .int x :: rest) G := fun T X eT => by
  obtain ⟨s₂, st, q⟩ := r T X eT
  exact ⟨s₂, XS.iushr X.here K.1 rfl (hb K.2.2.2.1 hd) rfl st, q⟩
theorem own_ladd (K : own_C p S m meth c Z bytes own rt ml) {x y : Int64} (hd : decode bytes pc = .ok (.ladd, 1))
    (r : own_E p l e R S m args below meth c h locs cells slots (pc + 1) Ls (.long (x + y) :: rest) G) : own_E p l e R S m args below meth c h locs cells slots pc Ls (.long y :: .long x :: rest) G := fun T X eT => by
  obtain ⟨s₂, st, q⟩ := r T X eT
  exact ⟨s₂, XS.ladd X.here K.1 rfl (hb K.2.2.2.1 hd) rfl st, q⟩
theorem own_lsub (K : own_C p S m meth c Z bytes own rt ml) {x y : Int64} (hd : decode bytes pc = .ok (.lsub, 1))
    (r : own_E p l e R S m args below meth c h locs cells slots (pc + 1) Ls (.long (x - y) :: rest) G) : own_E p l e R S m args below meth c h locs cells slots pc Ls (.long y :: .long x :: rest) G := fun T X eT => by
  obtain ⟨s₂, st, q⟩ := r T X eT
  exact ⟨s₂, XS.lsub X.here K.1 rfl (hb K.2.2.2.1 hd) rfl st, q⟩
theorem own_lmul (K : own_C p S m meth c Z bytes own rt ml) {x y : Int64} (hd : decode bytes pc = .ok (.lmul, 1))
    (r : own_E p l e R S m args below meth c h locs cells slots (pc + 1) Ls (.long (x * y) :: rest) G) : own_E p l e R S m args below meth c h locs cells slots pc Ls (.long y :: .long x :: rest) G := fun T X eT => by
  obtain ⟨s₂, st, q⟩ := r T X eT
  exact ⟨s₂, XS.lmul X.here K.1 rfl (hb K.2.2.2.1 hd) rfl st, q⟩
theorem own_land (K : own_C p S m meth c Z bytes own rt ml) {x y : Int64} (hd : decode bytes pc = .ok (.land, 1))
    (r : own_E p l e R S m args below meth c h locs cells slots (pc + 1) Ls (.long (x &&& y) :: rest) G) : own_E p l e R S m args below meth c h locs cells slots pc Ls (.long y :: .long x :: rest) G := fun T X eT => by
  obtain ⟨s₂, st, q⟩ := r T X eT
  exact ⟨s₂, XS.land X.here K.1 rfl (hb K.2.2.2.1 hd) rfl st, q⟩
theorem own_irem (K : own_C p S m meth c Z bytes own rt ml) {x y : Int32} (hd : decode bytes pc = .ok (.irem, 1)) (hy : y ≠ 0)
    (r : own_E p l e R S m args below meth c h locs cells slots (pc + 1) Ls (.int (x % y) :: rest) G) : own_E p l e R S m args below meth c h locs cells slots pc Ls (.int y :: .int x :: rest) G := fun T X eT => by
  obtain ⟨s₂, st, q⟩ := r T X eT
  exact ⟨s₂, iremM X K.1 rfl (hb K.2.2.2.1 hd) rfl hy st, q⟩
theorem own_idiv (K : own_C p S m meth c Z bytes own rt ml) {x y : Int32} (hd : decode bytes pc = .ok (.idiv, 1)) (hy : y ≠ 0)
    (r : own_E p l e R S m args below meth c h locs cells slots (pc + 1) Ls (.int (x / y) :: rest) G) : own_E p l e R S m args below meth c h locs cells slots pc Ls (.int y :: .int x :: rest) G := fun T X eT => by
  obtain ⟨s₂, st, q⟩ := r T X eT
  exact ⟨s₂, XS.idiv X.here K.1 rfl (hb K.2.2.2.1 hd) rfl hy st, q⟩
theorem own_ldiv (K : own_C p S m meth c Z bytes own rt ml) {x y : Int64} (hd : decode bytes pc = .ok (.ldiv, 1)) (hy : y ≠ 0)
    (r : own_E p l e R S m args below meth c h locs cells slots (pc + 1) Ls (.long (x / y) :: rest) G) : own_E p l e R S m args below meth c h locs cells slots pc Ls (.long y :: .long x :: rest) G := fun T X eT => by
  obtain ⟨s₂, st, q⟩ := r T X eT
  exact ⟨s₂, XS.ldiv X.here K.1 rfl (hb K.2.2.2.1 hd) rfl hy st, q⟩
theorem own_lrem (K : own_C p S m meth c Z bytes own rt ml) {x y : Int64} (hd : decode bytes pc = .ok (.lrem, 1)) (hy : y ≠ 0)
    (r : own_E p l e R S m args below meth c h locs cells slots (pc + 1) Ls (.long (x - x / y * y) :: rest) G) : own_E p l e R S m args below meth c h locs cells slots pc Ls (.long y :: .long x :: rest) G := fun T X eT => by
  obtain ⟨s₂, st, q⟩ := r T X eT
  exact ⟨s₂, XS.lrem X.here K.1 rfl (hb K.2.2.2.1 hd) rfl hy st, q⟩
theorem own_lcmp (K : own_C p S m meth c Z bytes own rt ml) {x y : Int64} (hd : decode bytes pc = .ok (.lcmp, 1))
    (r : own_E p l e R S m args below meth c h locs cells slots (pc + 1) Ls (.int (XT.cmpL x y) :: rest) G) : own_E p l e R S m args below meth c h locs cells slots pc Ls (.long y :: .long x :: rest) G := fun T X eT => by
  obtain ⟨s₂, st, q⟩ := r T X eT
  exact ⟨s₂, XS.lcmp X.here K.1 rfl (hb K.2.2.2.1 hd) rfl st, q⟩
theorem own_l2i (K : own_C p S m meth c Z bytes own rt ml) {x : Int64} (hd : decode bytes pc = .ok (.l2i, 1))
    (r : own_E p l e R S m args below meth c h locs cells slots (pc + 1) Ls (.int x.toInt32 :: rest) G) : own_E p l e R S m args below meth c h locs cells slots pc Ls (.long x :: rest) G := fun T X eT => by
  obtain ⟨s₂, st, q⟩ := r T X eT
  exact ⟨s₂, XS.l2i X.here K.1 rfl (hb K.2.2.2.1 hd) rfl st, q⟩
theorem own_i2b (K : own_C p S m meth c Z bytes own rt ml) {x : Int32} (hd : decode bytes pc = .ok (.i2b, 1))
    (r : own_E p l e R S m args below meth c h locs cells slots (pc + 1) Ls (.int x.toInt8.toInt32 :: rest) G) : own_E p l e R S m args below meth c h locs cells slots pc Ls (.int x :: rest) G := fun T X eT => by
  obtain ⟨s₂, st, q⟩ := r T X eT
  exact ⟨s₂, XS.i2b X.here K.1 rfl (hb K.2.2.2.1 hd) rfl st, q⟩
theorem own_i2c (K : own_C p S m meth c Z bytes own rt ml) {x : Int32} (hd : decode bytes pc = .ok (.i2c, 1))
    (r : own_E p l e R S m args below meth c h locs cells slots (pc + 1) Ls (.int x.toUInt32.toUInt16.toUInt32.toInt32 :: rest) G) : own_E p l e R S m args below meth c h locs cells slots pc Ls (.int x :: rest) G := fun T X eT => by
  obtain ⟨s₂, st, q⟩ := r T X eT
  exact ⟨s₂, XS.i2c X.here K.1 rfl (hb K.2.2.2.1 hd) rfl st, q⟩
theorem own_iinc (K : own_C p S m meth c Z bytes own rt ml) {k : Nat} {d : Int} {x : Int32} {Ls' : Array Slot} (hd : decode bytes pc = .ok (.iinc k d, 3)) (hl : Ls[k]? = some (.val (.int x))) (hl' : storeLocals Ls k (.int (x + Int32.ofInt d)) = some Ls')
    (r : own_E p l e R S m args below meth c h locs cells slots (pc + 3) Ls' stk G) : own_E p l e R S m args below meth c h locs cells slots pc Ls stk G := fun T X eT => by
  obtain ⟨s₂, st, q⟩ := r T X eT
  exact ⟨s₂, XS.iinc X.here K.1 rfl (hb K.2.2.2.1 hd) hl hl' st, q⟩
theorem own_dup (K : own_C p S m meth c Z bytes own rt ml) {x : Value} (hd : decode bytes pc = .ok (.dup, 1)) (hc : x.category = 1)
    (r : own_E p l e R S m args below meth c h locs cells slots (pc + 1) Ls (x :: x :: rest) G) : own_E p l e R S m args below meth c h locs cells slots pc Ls (x :: rest) G := fun T X eT => by
  obtain ⟨s₂, st, q⟩ := r T X eT
  exact ⟨s₂, XS.dup X.here K.1 rfl (hb K.2.2.2.1 hd) rfl hc st, q⟩
theorem own_pop (K : own_C p S m meth c Z bytes own rt ml) {x : Value} (hd : decode bytes pc = .ok (.pop, 1)) (hc : x.category = 1)
    (r : own_E p l e R S m args below meth c h locs cells slots (pc + 1) Ls rest G) : own_E p l e R S m args below meth c h locs cells slots pc Ls (x :: rest) G := fun T X eT => by
  obtain ⟨s₂, st, q⟩ := r T X eT
  exact ⟨s₂, XS.pop X.here K.1 rfl (hb K.2.2.2.1 hd) rfl hc st, q⟩
theorem own_goto (K : own_C p S m meth c Z bytes own rt ml) {o : Int} {pc' : Nat} (hd : decode bytes pc = .ok (.goto o, 3)) (ho : 0 ≤ (pc : Int) + o) (hp : ((pc : Int) + o).toNat = pc')
    (r : own_E p l e R S m args below meth c h locs cells slots pc' Ls stk G) : own_E p l e R S m args below meth c h locs cells slots pc Ls stk G := fun T X eT => by
  obtain ⟨s₂, st, q⟩ := r T X eT
  exact ⟨s₂, XS.goto X.here K.1 rfl (pc0 := pc) (pc' := pc') rfl (hb K.2.2.2.1 hd) ho hp st, q⟩
theorem own_ifY (K : own_C p S m meth c Z bytes own rt ml) {cd : ClassFile.Cond} {x : Int32} {o : Int} {pc' : Nat} (hd : decode bytes pc = .ok (.ifCond cd o, 3)) (hc : ifCond.holds cd x = true) (ho : 0 ≤ (pc : Int) + o) (hp : ((pc : Int) + o).toNat = pc')
    (r : own_E p l e R S m args below meth c h locs cells slots pc' Ls rest G) : own_E p l e R S m args below meth c h locs cells slots pc Ls (.int x :: rest) G := fun T X eT => by
  obtain ⟨s₂, st, q⟩ := r T X eT
  exact ⟨s₂, XS.ifYes X.here K.1 rfl (pc0 := pc) (pc' := pc') rfl (hb K.2.2.2.1 hd) rfl hc ho hp st, q⟩
theorem own_ifN (K : own_C p S m meth c Z bytes own rt ml) {cd : ClassFile.Cond} {x : Int32} {o : Int} (hd : decode bytes pc = .ok (.ifCond cd o, 3)) (hc : ifCond.holds cd x = false)
    (r : own_E p l e R S m args below meth c h locs cells slots (pc + 3) Ls rest G) : own_E p l e R S m args below meth c h locs cells slots pc Ls (.int x :: rest) G := fun T X eT => by
  obtain ⟨s₂, st, q⟩ := r T X eT
  exact ⟨s₂, XS.ifNo X.here K.1 rfl (hb K.2.2.2.1 hd) rfl hc st, q⟩
theorem own_icmpY (K : own_C p S m meth c Z bytes own rt ml) {cd : ClassFile.Cond} {x y : Int32} {o : Int} {pc' : Nat} (hd : decode bytes pc = .ok (.if_icmp cd o, 3)) (hc : if_icmp.holds cd x y = true) (ho : 0 ≤ (pc : Int) + o) (hp : ((pc : Int) + o).toNat = pc')
    (r : own_E p l e R S m args below meth c h locs cells slots pc' Ls rest G) : own_E p l e R S m args below meth c h locs cells slots pc Ls (.int y :: .int x :: rest) G := fun T X eT => by
  obtain ⟨s₂, st, q⟩ := r T X eT
  exact ⟨s₂, XS.icmpYes X.here K.1 rfl (pc0 := pc) (pc' := pc') rfl (hb K.2.2.2.1 hd) rfl hc ho hp st, q⟩
theorem own_icmpN (K : own_C p S m meth c Z bytes own rt ml) {cd : ClassFile.Cond} {x y : Int32} {o : Int} (hd : decode bytes pc = .ok (.if_icmp cd o, 3)) (hc : if_icmp.holds cd x y = false)
    (r : own_E p l e R S m args below meth c h locs cells slots (pc + 3) Ls rest G) : own_E p l e R S m args below meth c h locs cells slots pc Ls (.int y :: .int x :: rest) G := fun T X eT => by
  obtain ⟨s₂, st, q⟩ := r T X eT
  exact ⟨s₂, XS.icmpNo X.here K.1 rfl (hb K.2.2.2.1 hd) rfl hc st, q⟩
theorem own_acmp (K : own_C p S m meth c Z bytes own rt ml) {cd : ACond} {x y : Addr} {o : Int} {pc' : Nat} {same : Bool} (hd : decode bytes pc = .ok (.if_acmp cd o, 3)) (hq : decide (x = y) = same) (ho : 0 ≤ (pc : Int) + o) (hp : pc' = if acV cd same = true then ((pc : Int) + o).toNat else pc + 3)
    (r : own_E p l e R S m args below meth c h locs cells slots pc' Ls rest G) : own_E p l e R S m args below meth c h locs cells slots pc Ls (.ref y :: .ref x :: rest) G := fun T X eT => by
  obtain ⟨s₂, st, q⟩ := r T X eT
  exact ⟨s₂, Jvm.RoadKit.acmp (g := mkF m pc Ls (.ref y :: .ref x :: rest)) X K.1 rfl (x := .ref x) (y := .ref y) rfl rfl (pc0 := pc) (pc' := pc') (same := same) rfl (hb K.2.2.2.1 hd) rfl (by rw [← hq]; simp) ho hp st, q⟩
theorem own_ifnullN (K : own_C p S m meth c Z bytes own rt ml) {o : Int} {b : Addr} (hd : decode bytes pc = .ok (.ifnull o, 3))
    (r : own_E p l e R S m args below meth c h locs cells slots (pc + 3) Ls rest G) : own_E p l e R S m args below meth c h locs cells slots pc Ls (.ref b :: rest) G := fun T X eT => by
  obtain ⟨s₂, st, q⟩ := r T X eT
  exact ⟨s₂, XS.ifnullNo X.here K.1 rfl (hb K.2.2.2.1 hd) rfl st, q⟩
theorem own_ifnonnullY (K : own_C p S m meth c Z bytes own rt ml) {o : Int} {b : Addr} {pc' : Nat} (hd : decode bytes pc = .ok (.ifnonnull o, 3)) (ho : 0 ≤ (pc : Int) + o) (hp : ((pc : Int) + o).toNat = pc')
    (r : own_E p l e R S m args below meth c h locs cells slots pc' Ls rest G) : own_E p l e R S m args below meth c h locs cells slots pc Ls (.ref b :: rest) G := fun T X eT => by
  obtain ⟨s₂, st, q⟩ := r T X eT
  exact ⟨s₂, XS.ifnonnullYes X.here K.1 rfl (pc0 := pc) (pc' := pc') rfl (hb K.2.2.2.1 hd) rfl ho hp st, q⟩
theorem own_getS (K : own_C p S m meth c Z bytes own rt ml) {C f d : String} {i : Nat} {x : Value} (w : (Jvm.Cond.fieldLink own i C f d).before a0 Z = true) (F : Sta Z h C f d x) (hd : decode bytes pc = .ok (.getstatic i, 3))
    (r : own_E p l e R S m args below meth c h locs cells slots (pc + 3) Ls (x :: stk) G) : own_E p l e R S m args below meth c h locs cells slots pc Ls stk G := fun T X eT => by
  obtain ⟨T', X', e', st⟩ := getS2 X K.1 K.2.1 K.2.2.1 (host := "") (Or.inl w) Via.refl eT F (g := mkF m pc Ls stk) rfl (hb K.2.2.2.1 hd)
  obtain ⟨s₂, st', q⟩ := r T' X' e'
  exact ⟨s₂, st _ st', q⟩
theorem own_getF (K : own_C p S m meth c Z bytes own rt ml) {C f d : String} {i : Nat} {x : Value} {a : Addr} (w : (Jvm.Cond.fieldLink own i C f d).before a0 Z = true) (F : Fld Z h a C f d x) (hd : decode bytes pc = .ok (.getfield i, 3))
    (r : own_E p l e R S m args below meth c h locs cells slots (pc + 3) Ls (x :: rest) G) : own_E p l e R S m args below meth c h locs cells slots pc Ls (.ref a :: rest) G := fun T X eT => by
  obtain ⟨T', X', e', st⟩ := getF X K.1 K.2.1 K.2.2.1 (host := "") (Or.inl w) Via.refl eT F (g := mkF m pc Ls (.ref a :: rest)) rfl rfl (hb K.2.2.2.1 hd)
  obtain ⟨s₂, st', q⟩ := r T' X' e'
  exact ⟨s₂, st _ st', q⟩
theorem own_alen (K : own_C p S m meth c Z bytes own rt ml) {a : Addr} {k : ClassId} {ty : FieldType} {z : Int32} {vs : List Value} {dv : Value} (A : Arv Z h a k ty z vs dv) (hd : decode bytes pc = .ok (.arraylength, 1))
    (r : own_E p l e R S m args below meth c h locs cells slots (pc + 1) Ls (.int z :: rest) G) : own_E p l e R S m args below meth c h locs cells slots pc Ls (.ref a :: rest) G := fun T X eT => by
  obtain ⟨s₂, st, q⟩ := r T X eT
  obtain ⟨cl, A1, -, S1, M1, -, -⟩ := A
  refine ⟨s₂, X.arraylength K.1 (cell := cl) (by rw [eT]; exact A1.1) (State.isArrayOf_alike K.2.1.alike A1.2.1) (g := mkF m pc Ls (.ref a :: rest)) rfl (rest := rest) rfl (hb K.2.2.2.1 hd) _ ?_, q⟩
  rw [len_of S1 M1]
  exact st
theorem own_bald (K : own_C p S m meth c Z bytes own rt ml) {a : Addr} {k : ClassId} {z j : Int32} {vs : List Value} {dv w : Value} (A : Arv Z h a k .byte z vs dv) (hj : ¬ j < 0) (hz : j < z) (hv : vs.getD j.toNatClampNeg dv = w) (hd : decode bytes pc = .ok (.baload, 1))
    (r : own_E p l e R S m args below meth c h locs cells slots (pc + 1) Ls (w :: rest) G) : own_E p l e R S m args below meth c h locs cells slots pc Ls (.int j :: .ref a :: rest) G := fun T X eT => by
  obtain ⟨s₂, st, q⟩ := r T X eT
  obtain ⟨cl, A1, -, S1, M1, H1, -⟩ := A
  have hin := inb_of S1 ⟨hj, hz⟩
  have hat : cl.slots[j.toNatClampNeg]? = some w := by rw [← hv]; exact H1 _ (by omega)
  exact ⟨s₂, X.baloadBytes K.1 (j := j) (v := w) (by rw [eT]; exact A1.1) (State.isArrayOf_alike K.2.1.alike A1.2.1) A1.2.2 hin hat (g := mkF m pc Ls (.int j :: .ref a :: rest)) rfl rfl (hb K.2.2.2.1 hd) _ st, q⟩
theorem own_cast (K : own_C p S m meth c Z bytes own rt ml) {i : Nat} {C : String} {a : Addr} (w : (Jvm.Cond.classLink own i C).before a0 Z = true) (F : Ins Z h a C true) (hd : decode bytes pc = .ok (.checkcast i, 3))
    (r : own_E p l e R S m args below meth c h locs cells slots (pc + 3) Ls (.ref a :: rest) G) : own_E p l e R S m args below meth c h locs cells slots pc Ls (.ref a :: rest) G := fun T X eT => by
  obtain ⟨T', X', e', st⟩ := castY X K.1 K.2.1 K.2.2.1 w eT F (g := mkF m pc Ls (.ref a :: rest)) rfl rfl (hb K.2.2.2.1 hd)
  obtain ⟨s₂, st', q⟩ := r T' X' e'
  exact ⟨s₂, st _ st', q⟩
/-- the end of a body that writes nothing -/
def own_P (s : State) (below : List Frame) (h : Heap) (v : Option Value) (s₂ : State) : Prop := s₂.status = .running ∧ Ended s₂ below (.returned v) ∧ s₂.heap = h ∧ FrameEnd s (.returned v) s₂ [] 0 0
/-- the end of a body that may load constants: the booked ones say their texts as before -/
def own_O (s : State) (below : List Frame) (Z : State) (EL : List (String × Nat)) (R : Room) (Q : Option Value → Heap → List Loc → Prop) (s₂ : State) : Prop := s₂.status = .running ∧ ∃ v L, Ended s₂ below (.returned v) ∧ Q v s₂.heap L ∧ CHr Z EL s.vm s.heap s₂.vm s₂.heap ∧ ReturnedEndW s (.returned v) s₂ L R.cells R.slots
/-- where a walk that may load constants stands -/
def own_V (s : State) (Z : State) (EL : List (String × Nat)) (vm : Vm) (h : Heap) : Prop := (∃ k, s.Since vm k ∧ k ≤ h.size) ∧ CHr Z EL s.vm s.heap vm h
def own_M (l : Launch) (y : MethodName) (bytes : ByteArray) (ml : Nat) (rt : Option FieldType) (ws : List Jvm.Cond) (rm : Room) (Z : State) (h : Heap) (as : Array Value) (v : Option Value) : Prop :=
  MetFree l y (head1 (Jvm.Cond.code y bytes ml rt :: ws) rm) (fun a U => a = as ∧ Z.Warmed39 U.vm ∧ U.heap = h) (fun _ _ _ _ _ => True) (fun _ U o U' => ∃ v' L, o = .returned v' ∧ (v' = v ∧ L = [] ∧ U'.heap = h) ∧ FrameEnd U o U' L rm.cells rm.slots)
def own_H (l : Launch) (y : MethodName) (bytes : ByteArray) (ml : Nat) (rt : Option FieldType) (ws : List Jvm.Cond) (rm : Room) (Z : State) (EL : List (String × Nat)) (h : Heap) (as : Array Value) (Q : Option Value → Heap → List Loc → Prop) : Prop :=
  MetFree l y (head1 (Jvm.Cond.code y bytes ml rt :: ws) rm) (fun a U => a = as ∧ Z.Warmed39 U.vm ∧ U.heap = h ∧ CHv Z EL U.vm h) (fun _ _ _ _ _ => True) (fun _ U o U' => ∃ v L, o = .returned v ∧ Q v U'.heap L ∧ CHr Z EL U.vm U.heap U'.vm U'.heap ∧ ReturnedEndW U o U' L rm.cells rm.slots)
theorem own_met {l : Launch} {y : MethodName} {bytes : ByteArray} {ml : Nat} {rt : Option FieldType} {ws : List Jvm.Cond} {rm : Room} {Z : State} {h : Heap} {as : Array Value} {v : Option Value} {Ls : Array Slot} (hp : plainFor y = true) (hrc : rm.cells = 0) (hrs : rm.slots = 0)
    (hef : ∀ m, entryFrame m as ml = mkF m 0 Ls [])
    (body : ∀ (p : Program) (e : Env) (s : State) (m : MethodId) (below : List Frame) (meth : Method) (c : Code), own_C p s m meth c Z bytes y.cls rt ml → own_E p l e rm s m as below meth c h [] 0 0 0 Ls [] (own_P s below h v)) :
    own_M l y bytes ml rt ws rm Z h as v := by
  refine MetFree.of_bodySF hp hisR ?_
  intro p e s m args below meth c s₁ Bd hml0 hP hK
  obtain ⟨rfl, hZ, hh⟩ := hP
  have X0 : Stand p l e rm s m args below meth c s₁ [] 0 0 := Stand.of_body Bd
  have e0 : s₁.heap = h := by rw [← hh, Bd.state]; rfl
  obtain ⟨s₂, q1, q2, q3, q4, q5⟩ := body p e s m below meth c ⟨Bd.exec, hZ, findClass_of_methodNamed Bd.named, Bd.bytes, Bd.returns, Bd.notSynchronized, hml0⟩ s₁ X0 e0
  exact ⟨s₂, _, castTop (hef m) q1, q2, q3, _, _, rfl, ⟨rfl, rfl, q4⟩, by rw [hrc, hrs]; exact q5⟩
theorem own_metH {l : Launch} {y : MethodName} {bytes : ByteArray} {ml : Nat} {rt : Option FieldType} {ws : List Jvm.Cond} {rm : Room} {Z : State} {EL : List (String × Nat)} {h : Heap} {as : Array Value} {Q : Option Value → Heap → List Loc → Prop} {Ls : Array Slot} (hp : plainFor y = true)
    (hef : ∀ m, entryFrame m as ml = mkF m 0 Ls [])
    (body : ∀ (p : Program) (e : Env) (s : State) (m : MethodId) (below : List Frame) (meth : Method) (c : Code), s.heap = h → meth.name = y.name → own_C p (s.setVm s.vm) m meth c Z bytes y.cls rt ml → own_V s Z EL s.vm h → own_E p l e rm (s.setVm s.vm) m as below meth c h [] 0 0 0 Ls [] (own_O s below Z EL rm Q)) :
    own_H l y bytes ml rt ws rm Z EL h as Q := by
  refine MetFree.of_bodySF hp hisR ?_
  intro p e s m args below meth c s₁ Bd hml0 hP hK
  obtain ⟨rfl, hZ, hh, hV⟩ := hP
  have X0 : Stand p l e rm (s.setVm s.vm) m args below meth c s₁ [] 0 0 := Stand.of_body Bd
  have e0 : s₁.heap = h := by rw [← hh, Bd.state]; rfl
  have V0 : own_V s Z EL s.vm h := ⟨⟨0, (State.WarmedH.refl s).since 0, Nat.zero_le _⟩, by rw [hh]; exact CHr.refl hV⟩
  obtain ⟨s₂, q1, q2, v, L, q3, q4, q5, q6⟩ := body p e s m below meth c hh (name_of_methodNamed Bd.named Bd.method).1 ⟨Bd.exec, hZ, findClass_of_methodNamed Bd.named, Bd.bytes, Bd.returns, Bd.notSynchronized, hml0⟩ V0 s₁ X0 e0
  exact ⟨s₂, _, castTop (hef m) q1, q2, q3, _, _, rfl, q4, q5, q6⟩
theorem own_retZ (K : own_C p s m meth c Z bytes own (some .boolean) ml) {x z : Int32} (hd : decode bytes pc = .ok (.ireturn, 1)) (hz : nar .boolean x = z) : own_E p l e R s m args below meth c h [] 0 0 pc Ls (.int x :: rest) (own_P s below h (some (.int z))) := fun T X eT => by
  subst hz
  obtain ⟨fs, hr, hrun, hended, hW, hsame⟩ := X.leave (v := some (.int (nar .boolean x))) (fun q => by rw [K.2.2.2.2.1] at q; cases q) K.2.2.2.2.2.1
  exact ⟨_, retN X K.1 (t := .boolean) K.2.2.2.2.1 (by simp) (hb K.2.2.2.1 hd) hr, hrun, hended, eT, ⟨_, rfl⟩, hW, hsame⟩
theorem own_retZH {vm : Vm} {Q : Option Value → Heap → List Loc → Prop} (K : own_C p (s.setVm vm) m meth c Z bytes own (some .boolean) ml) (hEL : EW Z a0 EL) (V : own_V s Z EL vm h) {x z : Int32} (hd : decode bytes pc = .ok (.ireturn, 1)) (hz : nar .boolean x = z) (hc : cells ≤ R.cells) (hl : slots ≤ R.slots) (hQ : Q (some (.int z)) h locs) :
    own_E p l e R (s.setVm vm) m args below meth c h locs cells slots pc Ls (.int x :: rest) (own_O s below Z EL R Q) := fun T X eT => by
  subst hz
  obtain ⟨⟨k, hS, hk⟩, hC⟩ := V
  obtain ⟨fs, hr, hrun, hended, hW⟩ := X.leaveW hS (by rw [eT]; exact hk) (v := some (.int (nar .boolean x))) (fun q => by rw [K.2.2.2.2.1] at q; cases q) K.2.2.2.2.2.1
  exact ⟨_, retN X K.1 (t := .boolean) K.2.2.2.2.1 (by simp) (hb K.2.2.2.1 hd) hr, hrun, _, _, hended, by show Q _ T.heap _; rw [eT]; exact hQ, by show CHr _ _ _ _ T.vm T.heap; rw [eT]; exact hC.trans (CHv.at X K.2.1 hEL hC.1), hW.1, hW.2.1, hW.2.2.1, hW.2.2.2.mono hc hl⟩
theorem own_retB (K : own_C p s m meth c Z bytes own (some .byte) ml) {x z : Int32} (hd : decode bytes pc = .ok (.ireturn, 1)) (hz : nar .byte x = z) : own_E p l e R s m args below meth c h [] 0 0 pc Ls (.int x :: rest) (own_P s below h (some (.int z))) := fun T X eT => by
  subst hz
  obtain ⟨fs, hr, hrun, hended, hW, hsame⟩ := X.leave (v := some (.int (nar .byte x))) (fun q => by rw [K.2.2.2.2.1] at q; cases q) K.2.2.2.2.2.1
  exact ⟨_, retN X K.1 (t := .byte) K.2.2.2.2.1 (by simp) (hb K.2.2.2.1 hd) hr, hrun, hended, eT, ⟨_, rfl⟩, hW, hsame⟩
theorem own_retBH {vm : Vm} {Q : Option Value → Heap → List Loc → Prop} (K : own_C p (s.setVm vm) m meth c Z bytes own (some .byte) ml) (hEL : EW Z a0 EL) (V : own_V s Z EL vm h) {x z : Int32} (hd : decode bytes pc = .ok (.ireturn, 1)) (hz : nar .byte x = z) (hc : cells ≤ R.cells) (hl : slots ≤ R.slots) (hQ : Q (some (.int z)) h locs) :
    own_E p l e R (s.setVm vm) m args below meth c h locs cells slots pc Ls (.int x :: rest) (own_O s below Z EL R Q) := fun T X eT => by
  subst hz
  obtain ⟨⟨k, hS, hk⟩, hC⟩ := V
  obtain ⟨fs, hr, hrun, hended, hW⟩ := X.leaveW hS (by rw [eT]; exact hk) (v := some (.int (nar .byte x))) (fun q => by rw [K.2.2.2.2.1] at q; cases q) K.2.2.2.2.2.1
  exact ⟨_, retN X K.1 (t := .byte) K.2.2.2.2.1 (by simp) (hb K.2.2.2.1 hd) hr, hrun, _, _, hended, by show Q _ T.heap _; rw [eT]; exact hQ, by show CHr _ _ _ _ T.vm T.heap; rw [eT]; exact hC.trans (CHv.at X K.2.1 hEL hC.1), hW.1, hW.2.1, hW.2.2.1, hW.2.2.2.mono hc hl⟩
theorem own_retC (K : own_C p s m meth c Z bytes own (some .char) ml) {x z : Int32} (hd : decode bytes pc = .ok (.ireturn, 1)) (hz : nar .char x = z) : own_E p l e R s m args below meth c h [] 0 0 pc Ls (.int x :: rest) (own_P s below h (some (.int z))) := fun T X eT => by
  subst hz
  obtain ⟨fs, hr, hrun, hended, hW, hsame⟩ := X.leave (v := some (.int (nar .char x))) (fun q => by rw [K.2.2.2.2.1] at q; cases q) K.2.2.2.2.2.1
  exact ⟨_, retN X K.1 (t := .char) K.2.2.2.2.1 (by simp) (hb K.2.2.2.1 hd) hr, hrun, hended, eT, ⟨_, rfl⟩, hW, hsame⟩
theorem own_retCH {vm : Vm} {Q : Option Value → Heap → List Loc → Prop} (K : own_C p (s.setVm vm) m meth c Z bytes own (some .char) ml) (hEL : EW Z a0 EL) (V : own_V s Z EL vm h) {x z : Int32} (hd : decode bytes pc = .ok (.ireturn, 1)) (hz : nar .char x = z) (hc : cells ≤ R.cells) (hl : slots ≤ R.slots) (hQ : Q (some (.int z)) h locs) :
    own_E p l e R (s.setVm vm) m args below meth c h locs cells slots pc Ls (.int x :: rest) (own_O s below Z EL R Q) := fun T X eT => by
  subst hz
  obtain ⟨⟨k, hS, hk⟩, hC⟩ := V
  obtain ⟨fs, hr, hrun, hended, hW⟩ := X.leaveW hS (by rw [eT]; exact hk) (v := some (.int (nar .char x))) (fun q => by rw [K.2.2.2.2.1] at q; cases q) K.2.2.2.2.2.1
  exact ⟨_, retN X K.1 (t := .char) K.2.2.2.2.1 (by simp) (hb K.2.2.2.1 hd) hr, hrun, _, _, hended, by show Q _ T.heap _; rw [eT]; exact hQ, by show CHr _ _ _ _ T.vm T.heap; rw [eT]; exact hC.trans (CHv.at X K.2.1 hEL hC.1), hW.1, hW.2.1, hW.2.2.1, hW.2.2.2.mono hc hl⟩
theorem own_retI (K : own_C p s m meth c Z bytes own (some .int) ml) {x z : Int32} (hd : decode bytes pc = .ok (.ireturn, 1)) (hz : x = z) : own_E p l e R s m args below meth c h [] 0 0 pc Ls (.int x :: rest) (own_P s below h (some (.int z))) := fun T X eT => by
  subst hz
  obtain ⟨fs, hr, hrun, hended, hW, hsame⟩ := X.leave (v := some (.int (x))) (fun q => by rw [K.2.2.2.2.1] at q; cases q) K.2.2.2.2.2.1
  exact ⟨_, retOut X K.1 K.2.2.2.2.1 rfl (Or.inl ⟨rfl, Or.inl rfl, _, rfl⟩) (hb K.2.2.2.1 hd) hr, hrun, hended, eT, ⟨_, rfl⟩, hW, hsame⟩
theorem own_retIH {vm : Vm} {Q : Option Value → Heap → List Loc → Prop} (K : own_C p (s.setVm vm) m meth c Z bytes own (some .int) ml) (hEL : EW Z a0 EL) (V : own_V s Z EL vm h) {x z : Int32} (hd : decode bytes pc = .ok (.ireturn, 1)) (hz : x = z) (hc : cells ≤ R.cells) (hl : slots ≤ R.slots) (hQ : Q (some (.int z)) h locs) :
    own_E p l e R (s.setVm vm) m args below meth c h locs cells slots pc Ls (.int x :: rest) (own_O s below Z EL R Q) := fun T X eT => by
  subst hz
  obtain ⟨⟨k, hS, hk⟩, hC⟩ := V
  obtain ⟨fs, hr, hrun, hended, hW⟩ := X.leaveW hS (by rw [eT]; exact hk) (v := some (.int (x))) (fun q => by rw [K.2.2.2.2.1] at q; cases q) K.2.2.2.2.2.1
  exact ⟨_, retOut X K.1 K.2.2.2.2.1 rfl (Or.inl ⟨rfl, Or.inl rfl, _, rfl⟩) (hb K.2.2.2.1 hd) hr, hrun, _, _, hended, by show Q _ T.heap _; rw [eT]; exact hQ, by show CHr _ _ _ _ T.vm T.heap; rw [eT]; exact hC.trans (CHv.at X K.2.1 hEL hC.1), hW.1, hW.2.1, hW.2.2.1, hW.2.2.2.mono hc hl⟩
theorem own_retA (K : own_C p s m meth c Z bytes own rt ml) {t : FieldType} (hrt : rt = some t) {x : Value} (hd : decode bytes pc = .ok (.areturn, 1)) (ht : t.isReference = true) (hn : narrow t x = x) (hx : x.isRef = true) : own_E p l e R s m args below meth c h [] 0 0 pc Ls (x :: rest) (own_P s below h (some x)) := fun T X eT => by
  subst hrt
  obtain ⟨fs, hr, hrun, hended, hW, hsame⟩ := X.leave (v := some x) (fun q => by rw [K.2.2.2.2.1] at q; cases q) K.2.2.2.2.2.1
  exact ⟨_, retOut X K.1 K.2.2.2.2.1 hn (Or.inr (Or.inr (Or.inr (Or.inr ⟨rfl, ht, hx⟩)))) (hb K.2.2.2.1 hd) hr, hrun, hended, eT, ⟨_, rfl⟩, hW, hsame⟩
theorem own_retAH {vm : Vm} {Q : Option Value → Heap → List Loc → Prop} (K : own_C p (s.setVm vm) m meth c Z bytes own rt ml) (hEL : EW Z a0 EL) (V : own_V s Z EL vm h) {t : FieldType} (hrt : rt = some t) {x : Value} (hd : decode bytes pc = .ok (.areturn, 1)) (ht : t.isReference = true) (hn : narrow t x = x) (hx : x.isRef = true) (hc : cells ≤ R.cells) (hl : slots ≤ R.slots) (hQ : Q (some x) h locs) :
    own_E p l e R (s.setVm vm) m args below meth c h locs cells slots pc Ls (x :: rest) (own_O s below Z EL R Q) := fun T X eT => by
  subst hrt
  obtain ⟨⟨k, hS, hk⟩, hC⟩ := V
  obtain ⟨fs, hr, hrun, hended, hW⟩ := X.leaveW hS (by rw [eT]; exact hk) (v := some x) (fun q => by rw [K.2.2.2.2.1] at q; cases q) K.2.2.2.2.2.1
  exact ⟨_, retOut X K.1 K.2.2.2.2.1 hn (Or.inr (Or.inr (Or.inr (Or.inr ⟨rfl, ht, hx⟩)))) (hb K.2.2.2.1 hd) hr, hrun, _, _, hended, by show Q _ T.heap _; rw [eT]; exact hQ, by show CHr _ _ _ _ T.vm T.heap; rw [eT]; exact hC.trans (CHv.at X K.2.1 hEL hC.1), hW.1, hW.2.1, hW.2.2.1, hW.2.2.2.mono hc hl⟩
theorem own_retV (K : own_C p s m meth c Z bytes own none ml) (hd : decode bytes pc = .ok (.return_, 1)) : own_E p l e R s m args below meth c h [] 0 0 pc Ls [] (own_P s below h none) := fun T X eT => by
  obtain ⟨fs, hr, hrun, hended, hW, hsame⟩ := X.leave (v := none) (fun _ => rfl) K.2.2.2.2.2.1
  exact ⟨_, X.returnOut K.1 K.2.2.2.2.1 (hb K.2.2.2.1 hd) hr, hrun, hended, eT, ⟨_, rfl⟩, hW, hsame⟩
theorem own_retVH {vm : Vm} {Q : Option Value → Heap → List Loc → Prop} (K : own_C p (s.setVm vm) m meth c Z bytes own none ml) (hEL : EW Z a0 EL) (V : own_V s Z EL vm h) (hd : decode bytes pc = .ok (.return_, 1)) (hc : cells ≤ R.cells) (hl : slots ≤ R.slots) (hQ : Q none h locs) :
    own_E p l e R (s.setVm vm) m args below meth c h locs cells slots pc Ls [] (own_O s below Z EL R Q) := fun T X eT => by
  obtain ⟨⟨k, hS, hk⟩, hC⟩ := V
  obtain ⟨fs, hr, hrun, hended, hW⟩ := X.leaveW hS (by rw [eT]; exact hk) (v := none) (fun _ => rfl) K.2.2.2.2.2.1
  exact ⟨_, X.returnOut K.1 K.2.2.2.2.1 (hb K.2.2.2.1 hd) hr, hrun, _, _, hended, by show Q _ T.heap _; rw [eT]; exact hQ, by show CHr _ _ _ _ T.vm T.heap; rw [eT]; exact hC.trans (CHv.at X K.2.1 hEL hC.1), hW.1, hW.2.1, hW.2.2.1, hW.2.2.2.mono hc hl⟩
theorem own_callS (K : own_C p S m meth c Z bytes own rt ml) {i : Nat} {y : MethodName} {bs : ByteArray} {mx W : Nat} {rm : Room} {ry : Option FieldType} {argsL : List Value} {u : Value} (hrc : rm.cells = 0) (hrs : rm.slots = 0)
    (M : own_M l y bs mx ry [] rm Z h argsL.toArray (some u))
    (w1 : (Jvm.Cond.methodLink own i y).before a0 Z = true) (w2 : (Jvm.Cond.static y).before a0 Z = true) (w3 : (Jvm.Cond.initialized y.cls).before a0 Z = true) (w4 : (Jvm.Cond.code y bs mx ry).before a0 Z = true)
    (hy : y.cls ≠ "java/lang/invoke/MethodHandle" ∧ y.cls ≠ "java/lang/invoke/VarHandle") (hd : decode bytes pc = .ok (.invokestatic i, 3)) {ps : List FieldType} {ro : Option FieldType} (hdesc : parseMethodDescriptor y.desc = some ⟨ps, ro⟩) (hlen : argsL.length = ps.length)
    (hs : stk = argsL.reverse ++ rest) (hsz : Ls.size = ml) (hW : (rest.map fun v => v.category).sum ≤ W) (hf : rm.frames + 1 ≤ R.frames) (hl : W + (mx + 11) + rm.locals ≤ R.locals)
    (hc : cells ≤ R.cells) (hl2 : slots ≤ R.slots) (r : own_E p l e R S m args below meth c h locs cells slots (pc + 3) Ls (u :: rest) G) : own_E p l e R S m args below meth c h locs cells slots pc Ls stk G := fun T X eT => by
  obtain ⟨_, _, ⟨T1, L1, k1, n1⟩, -, X1, ⟨Lc, hQ, l1, y1, z1⟩, st⟩ := Jvm.LawKit.callS X K.1 (y := y) K.2.2.1 (mvT K.2.1 w1) (mvT K.2.1 w2) (mvT K.2.1 w3) (mvT K.2.1 w4) hy (backOf (W := W) (rm := rm) (Q := fun v' g L => v' = (some u) ∧ L = [] ∧ g = h) M K.2.1 w4 w3 hf hl) (g := mkF m pc Ls stk) rfl (by rw [K.2.2.2.2.2.2]; exact hsz) (argsL := argsL) (rest := rest) (lenOf hdesc hlen) hs (by show 2 * 0 + _ ≤ _; omega) (hb K.2.2.2.1 hd) (fun _ _ => ⟨rfl, eT, by rw [hrc]; exact hc, by rw [hrs]; exact hl2⟩)
  dsimp only [Pt.U, Pt.locs, Pt.cells, Pt.slots] at X1 l1 y1 z1 st hQ
  obtain ⟨rfl, rfl, e1⟩ := hQ
  rw [List.append_nil] at l1
  rw [hrc, Nat.add_zero] at y1
  rw [hrs, Nat.add_zero] at z1
  subst l1 y1 z1
  obtain ⟨s₂, st', q⟩ := r T1 X1 e1
  exact ⟨s₂, st _ st', q⟩
theorem own_callSv (K : own_C p S m meth c Z bytes own rt ml) {i : Nat} {y : MethodName} {bs : ByteArray} {mx W : Nat} {rm : Room} {ry : Option FieldType} {argsL : List Value} (hrc : rm.cells = 0) (hrs : rm.slots = 0)
    (M : own_M l y bs mx ry [] rm Z h argsL.toArray none)
    (w1 : (Jvm.Cond.methodLink own i y).before a0 Z = true) (w2 : (Jvm.Cond.static y).before a0 Z = true) (w3 : (Jvm.Cond.initialized y.cls).before a0 Z = true) (w4 : (Jvm.Cond.code y bs mx ry).before a0 Z = true)
    (hy : y.cls ≠ "java/lang/invoke/MethodHandle" ∧ y.cls ≠ "java/lang/invoke/VarHandle") (hd : decode bytes pc = .ok (.invokestatic i, 3)) {ps : List FieldType} {ro : Option FieldType} (hdesc : parseMethodDescriptor y.desc = some ⟨ps, ro⟩) (hlen : argsL.length = ps.length)
    (hs : stk = argsL.reverse ++ rest) (hsz : Ls.size = ml) (hW : (rest.map fun v => v.category).sum ≤ W) (hf : rm.frames + 1 ≤ R.frames) (hl : W + (mx + 11) + rm.locals ≤ R.locals)
    (hc : cells ≤ R.cells) (hl2 : slots ≤ R.slots) (r : own_E p l e R S m args below meth c h locs cells slots (pc + 3) Ls rest G) : own_E p l e R S m args below meth c h locs cells slots pc Ls stk G := fun T X eT => by
  obtain ⟨_, _, ⟨T1, L1, k1, n1⟩, -, X1, ⟨Lc, hQ, l1, y1, z1⟩, st⟩ := Jvm.LawKit.callS X K.1 (y := y) K.2.2.1 (mvT K.2.1 w1) (mvT K.2.1 w2) (mvT K.2.1 w3) (mvT K.2.1 w4) hy (backOf (W := W) (rm := rm) (Q := fun v' g L => v' = none ∧ L = [] ∧ g = h) M K.2.1 w4 w3 hf hl) (g := mkF m pc Ls stk) rfl (by rw [K.2.2.2.2.2.2]; exact hsz) (argsL := argsL) (rest := rest) (lenOf hdesc hlen) hs (by show 2 * 0 + _ ≤ _; omega) (hb K.2.2.2.1 hd) (fun _ _ => ⟨rfl, eT, by rw [hrc]; exact hc, by rw [hrs]; exact hl2⟩)
  dsimp only [Pt.U, Pt.locs, Pt.cells, Pt.slots] at X1 l1 y1 z1 st hQ
  obtain ⟨rfl, rfl, e1⟩ := hQ
  rw [List.append_nil] at l1
  rw [hrc, Nat.add_zero] at y1
  rw [hrs, Nat.add_zero] at z1
  subst l1 y1 z1
  obtain ⟨s₂, st', q⟩ := r T1 X1 e1
  exact ⟨s₂, st _ st', q⟩
theorem own_callV (K : own_C p S m meth c Z bytes own rt ml) {i : Nat} {y : MethodName} {bs : ByteArray} {mx W : Nat} {rm : Room} {ry : Option FieldType} {argsL : List Value} {u : Value} {a : Addr} {D : String} (hrc : rm.cells = 0) (hrs : rm.slots = 0)
    (M : own_M l y bs mx ry [] rm Z h (.ref a :: argsL).toArray (some u)) (E : Exa Z h a D)
    (w1 : (Jvm.Cond.methodLink own i y).before a0 Z = true) (w2 : (Jvm.Cond.declares y).before a0 Z = true) (w3 : (Jvm.Cond.selects D y y).before a0 Z = true) (w4 : (Jvm.Cond.instanceMethod y).before a0 Z = true) (w5 : (Jvm.Cond.code y bs mx ry).before a0 Z = true) (w6 : (Jvm.Cond.initialized y.cls).before a0 Z = true)
    (hy : y.cls ≠ "java/lang/invoke/MethodHandle" ∧ y.cls ≠ "java/lang/invoke/VarHandle") (hd : decode bytes pc = .ok (.invokevirtual i, 3)) {ps : List FieldType} {ro : Option FieldType} (hdesc : parseMethodDescriptor y.desc = some ⟨ps, ro⟩) (hlen : argsL.length = ps.length)
    (hs : stk = argsL.reverse ++ .ref a :: rest) (hsz : Ls.size = ml) (hW : (rest.map fun v => v.category).sum ≤ W) (hf : rm.frames + 1 ≤ R.frames) (hl : W + (mx + 11) + rm.locals ≤ R.locals)
    (hc : cells ≤ R.cells) (hl2 : slots ≤ R.slots) (r : own_E p l e R S m args below meth c h locs cells slots (pc + 3) Ls (u :: rest) G) : own_E p l e R S m args below meth c h locs cells slots pc Ls stk G := fun T X eT => by
  obtain ⟨cq, kq, qa, qb, qc⟩ := isOf (T := T) K.2.1 eT E
  obtain ⟨_, _, ⟨T1, L1, k1, n1⟩, -, X1, ⟨Lc, hQ, l1, y1, z1⟩, st⟩ := X.virtualBack K.1 (y := y) (z := y) K.2.2.1 (mvT K.2.1 w1) (mvT K.2.1 w2) (notFace_of_selects (args := #[]) (mvT K.2.1 w3)) (mvT K.2.1 w3) (mvT K.2.1 w4) hy (backOf (W := W) (rm := rm) (Q := fun v' g L => v' = some u ∧ L = [] ∧ g = h) M K.2.1 w5 w6 hf hl) qa qc (g := mkF m pc Ls stk) rfl (by rw [K.2.2.2.2.2.2]; exact hsz) (Steps.refl _) (argsL := argsL) (rest := rest) (lenOf hdesc hlen) hs (by show 2 * 0 + _ ≤ _; omega) (hb K.2.2.2.1 hd) (fun _ _ => ⟨rfl, eT, by rw [hrc]; exact hc, by rw [hrs]; exact hl2⟩)
  dsimp only [Pt.U, Pt.locs, Pt.cells, Pt.slots] at X1 l1 y1 z1 st hQ
  obtain ⟨rfl, rfl, e1⟩ := hQ
  rw [List.append_nil] at l1
  rw [hrc, Nat.add_zero] at y1
  rw [hrs, Nat.add_zero] at z1
  subst l1 y1 z1
  obtain ⟨s₂, st', q⟩ := r T1 X1 e1
  exact ⟨s₂, st.trans st', q⟩
/-- ldc of a String constant of EL -/
theorem own_ldcS {vm : Vm} (K : own_C p (s.setVm vm) m meth c Z bytes own rt ml) (hEL : EW Z a0 EL) (V : own_V s Z EL vm h) {i n : Nat} {text : String} (hm : (own, i) ∈ EL) (w : (Jvm.Cond.stringLink own i text).before a0 Z = true) (wS : ∀ a ∈ Bundle.stringAtoms, a.before a0 Z = true)
    {vs : List Value} {z : Int32} (ht : (∀ c ∈ text.toList, c.toNat < 256) ∧ text.toList.map (fun c => Value.int (Jvm.Lit.byteI c.toNat.toUInt16)) = vs) (hz : ¬ z < 0) (hzl : z.toNatClampNeg = vs.length) (hd : decode bytes pc = .ok (.ldc i, 2)) (hn : 4 * text.toList.length ≤ n) (hbig : n ≤ 536870912) (hc : cells + 2 ≤ R.cells) (hl : slots + (n + 4) ≤ R.slots)
    (r : ∀ (vm' : Vm) (h' : Heap) (a b : Addr) (k : ClassId), own_C p (s.setVm vm') m meth c Z bytes own rt ml → own_V s Z EL vm' h' → CHr Z EL vm h vm' h' → Ext h h' → Exa Z h' a "java/lang/String" → Fld Z h' a "java/lang/String" "coder" "B" (.int 0) → Fld Z h' a "java/lang/String" "value" "[B" (.ref b) → Arv Z h' b k .byte z vs (.int 0) → (∀ x, Safe Z EL vm' h' x → x ≠ a ∧ x ≠ b) →
      own_E p l e R (s.setVm vm') m args below meth c h' locs (cells + 2) (slots + (n + 4)) (pc + 2) Ls (.ref a :: stk) G) :
    own_E p l e R (s.setVm vm) m args below meth c h locs cells slots pc Ls stk G := fun T X eT => by
  obtain ⟨⟨k0, hS, hk⟩, hC⟩ := V
  obtain ⟨a, T', h', k1, b, k, X', e', E', hS', hk', hZ', hf', F1, F2, F3, F4, -, -, hC', -, F5, st⟩ := ldcCH X K.1 K.2.1 K.2.2.1 w wS eT hS hk hEL hm hC.1 ht hz hzl (g := mkF m pc Ls stk) rfl (hb K.2.2.2.1 hd) hn hbig hc hl
  obtain ⟨s₂, st', q⟩ := r T'.vm h' a b k ⟨K.1, hZ', hf', K.2.2.2.1, K.2.2.2.2.1, K.2.2.2.2.2.1, K.2.2.2.2.2.2⟩ ⟨⟨k1, hS', hk'⟩, hC.trans hC'⟩ hC' E' F1 F2 F3 F4 F5 T' X' e'
  exact ⟨s₂, st _ st', q⟩
/-- a static method that may load constants -/
theorem own_callSH {vm : Vm} (K : own_C p (s.setVm vm) m meth c Z bytes own rt ml) (hEL : EW Z a0 EL) (V : own_V s Z EL vm h) {i : Nat} {y : MethodName} {bs : ByteArray} {mx W : Nat} {rm : Room} {ry : Option FieldType} {argsL : List Value} {Q : Option Value → Heap → List Loc → Prop}
    (M : own_H l y bs mx ry [] rm Z EL h argsL.toArray Q)
    (w1 : (Jvm.Cond.methodLink own i y).before a0 Z = true) (w2 : (Jvm.Cond.static y).before a0 Z = true) (w3 : (Jvm.Cond.initialized y.cls).before a0 Z = true) (w4 : (Jvm.Cond.code y bs mx ry).before a0 Z = true)
    (hy : y.cls ≠ "java/lang/invoke/MethodHandle" ∧ y.cls ≠ "java/lang/invoke/VarHandle") (hd : decode bytes pc = .ok (.invokestatic i, 3)) {ps : List FieldType} {ro : Option FieldType} (hdesc : parseMethodDescriptor y.desc = some ⟨ps, ro⟩) (hlen : argsL.length = ps.length)
    (hs : stk = argsL.reverse ++ rest) (hsz : Ls.size = ml) (hW : (rest.map fun v => v.category).sum ≤ W) (hf : rm.frames + 1 ≤ R.frames) (hl : W + (mx + 11) + rm.locals ≤ R.locals)
    (hc : cells + rm.cells ≤ R.cells) (hl2 : slots + rm.slots ≤ R.slots)
    (r : ∀ (vm' : Vm) (h' : Heap) (u : Option Value) (L : List Loc), Q u h' L → own_C p (s.setVm vm') m meth c Z bytes own rt ml → own_V s Z EL vm' h' → CHr Z EL vm h vm' h' → own_E p l e R (s.setVm vm') m args below meth c h' (locs ++ L) (cells + rm.cells) (slots + rm.slots) (pc + 3) Ls (u.toList ++ rest) G) :
    own_E p l e R (s.setVm vm) m args below meth c h locs cells slots pc Ls stk G := fun T X eT => by
  obtain ⟨⟨k0, hS, hk⟩, hC⟩ := V
  obtain ⟨u, _, ⟨T1, L1, k1, n1⟩, -, X1, hS1, hg1, ⟨Lc, hQ, l1, y1, z1, hC1⟩, st⟩ := callSS X K.1 (y := y) K.2.2.1 (mvT K.2.1 w1) (mvT K.2.1 w2) (mvT K.2.1 w3) (mvT K.2.1 w4) hy (backOfSH (W := W) (rm := rm) (Q := Q) M K.2.1 w4 w3 hf hl hEL hC.1) (g := mkF m pc Ls stk) rfl (by rw [K.2.2.2.2.2.2]; exact hsz) (argsL := argsL) (rest := rest) (lenOf hdesc hlen) hs (by show 2 * 0 + _ ≤ _; omega) (hb K.2.2.2.1 hd) (fun _ _ => ⟨rfl, eT, hc, hl2⟩)
  dsimp only [Pt.U, Pt.locs, Pt.cells, Pt.slots] at X1 l1 y1 z1 st hQ hS1 hg1 hC1
  subst l1 y1 z1
  rw [eT] at hg1
  obtain ⟨Y1, hS2, hZ2, hf2⟩ := rebS hS hk X1 hS1 hg1 K.2.1 K.2.2.1
  obtain ⟨s₂, st', q⟩ := r T1.vm T1.heap u Lc hQ ⟨K.1, hZ2, hf2, K.2.2.2.1, K.2.2.2.2.1, K.2.2.2.2.2.1, K.2.2.2.2.2.2⟩ ⟨⟨_, hS2, Nat.le_refl _⟩, hC.trans hC1⟩ hC1 T1 Y1 rfl
  exact ⟨s₂, st.trans st', q⟩
/-- a constructor that may load constants -/
theorem own_initH {vm : Vm} (K : own_C p (s.setVm vm) m meth c Z bytes own rt ml) (hEL : EW Z a0 EL) (V : own_V s Z EL vm h) {i : Nat} {y : MethodName} {bs : ByteArray} {mx W : Nat} {rm : Room} {argsL : List Value} {a : Addr} {Q : Option Value → Heap → List Loc → Prop} (hin : y.name = "<init>")
    (M : own_H l y bs mx none [] rm Z EL h (.ref a :: argsL).toArray Q)
    (w1 : (Jvm.Cond.methodLink own i y).before a0 Z = true) (w2 : (Jvm.Cond.instanceMethod y).before a0 Z = true) (w3 : (Jvm.Cond.initialized y.cls).before a0 Z = true) (w4 : (Jvm.Cond.code y bs mx none).before a0 Z = true)
    (hy : y.cls ≠ "java/lang/invoke/MethodHandle" ∧ y.cls ≠ "java/lang/invoke/VarHandle") (hd : decode bytes pc = .ok (.invokespecial i, 3)) {ps : List FieldType} {ro : Option FieldType} (hdesc : parseMethodDescriptor y.desc = some ⟨ps, ro⟩) (hlen : argsL.length = ps.length)
    (hs : stk = argsL.reverse ++ .ref a :: rest) (hsz : Ls.size = ml) (hW : (rest.map fun v => v.category).sum ≤ W) (hf : rm.frames + 1 ≤ R.frames) (hl : W + (mx + 11) + rm.locals ≤ R.locals)
    (hc : cells + rm.cells ≤ R.cells) (hl2 : slots + rm.slots ≤ R.slots)
    (r : ∀ (vm' : Vm) (h' : Heap) (u : Option Value) (L : List Loc), Q u h' L → own_C p (s.setVm vm') m meth c Z bytes own rt ml → own_V s Z EL vm' h' → CHr Z EL vm h vm' h' → own_E p l e R (s.setVm vm') m args below meth c h' (locs ++ L) (cells + rm.cells) (slots + rm.slots) (pc + 3) Ls (u.toList ++ rest) G) :
    own_E p l e R (s.setVm vm) m args below meth c h locs cells slots pc Ls stk G := fun T X eT => by
  obtain ⟨⟨k0, hS, hk⟩, hC⟩ := V
  obtain ⟨u, _, ⟨T1, L1, k1, n1⟩, -, X1, hS1, hg1, ⟨Lc, hQ, l1, y1, z1, hC1⟩, st⟩ := X.specialBackS K.1 (y := y) hin K.2.2.1 (mvT K.2.1 w1) (mvT K.2.1 w2) (mvT K.2.1 w4) hy (backOfSH (W := W) (rm := rm) (Q := Q) M K.2.1 w4 w3 hf hl hEL hC.1) (g := mkF m pc Ls stk) rfl (by rw [K.2.2.2.2.2.2]; exact hsz) (Steps.refl _) (a := a) (argsL := argsL) (rest := rest) (lenOf hdesc hlen) hs (by show 2 * 0 + _ ≤ _; omega) (hb K.2.2.2.1 hd) (fun _ _ => ⟨rfl, eT, hc, hl2⟩)
  dsimp only [Pt.U, Pt.locs, Pt.cells, Pt.slots] at X1 l1 y1 z1 st hQ hS1 hg1 hC1
  subst l1 y1 z1
  rw [eT] at hg1
  obtain ⟨Y1, hS2, hZ2, hf2⟩ := rebS hS hk X1 hS1 hg1 K.2.1 K.2.2.1
  obtain ⟨s₂, st', q⟩ := r T1.vm T1.heap u Lc hQ ⟨K.1, hZ2, hf2, K.2.2.2.1, K.2.2.2.2.1, K.2.2.2.2.2.1, K.2.2.2.2.2.2⟩ ⟨⟨_, hS2, Nat.le_refl _⟩, hC.trans hC1⟩ hC1 T1 Y1 rfl
  exact ⟨s₂, st.trans st', q⟩
/-- new, newarray, a char stored, a field stored, Object's constructor -/
theorem own_new (K : own_C p S m meth c Z bytes own rt ml) {i n : Nat} {C : String} (w1 : (Jvm.Cond.classLink own i C).before a0 Z = true) (w2 : (Jvm.Cond.instantiable C n).before a0 Z = true) (w3 : (Jvm.Cond.initialized C).before a0 Z = true) (hd : decode bytes pc = .ok (.new i, 3)) (hc : cells + 1 ≤ R.cells) (hl : slots + n ≤ R.slots)
    (r : ∀ h' : Heap, Ext h h' → Exa Z h' h.size C → (∀ {O f d : String} {ty : FieldType}, Laid Z a0 C O f d → parseFieldDescriptor d = some ty → Fld Z h' h.size O f d (defaultValue ty)) → own_E p l e R S m args below meth c h' locs (cells + 1) (slots + n) (pc + 3) Ls (.ref h.size :: stk) G) :
    own_E p l e R S m args below meth c h locs cells slots pc Ls stk G := fun T X eT => by
  obtain ⟨T', h', X', e', E', A', D', -, st⟩ := newO X K.1 K.2.1 K.2.2.1 w1 w2 w3 eT (g := mkF m pc Ls stk) rfl (hb K.2.2.2.1 hd) hc hl
  obtain ⟨s₂, st', q⟩ := r h' E' A' D' T' X' e'
  exact ⟨s₂, st _ st', q⟩
theorem own_newC (K : own_C p S m meth c Z bytes own rt ml) {n : Int32} {cap : Nat} (w : (Jvm.Cond.arrayClass .char).before a0 Z = true) (hd : decode bytes pc = .ok (.newarray .char, 2)) (hn : ¬ n < 0) (hcap : n.toNatClampNeg ≤ cap) (hbig : cap * 8 ≤ 536870912) (hc : cells + 1 ≤ R.cells) (hl : slots + cap ≤ R.slots)
    (r : ∀ (h' : Heap) (k : ClassId), Ext h h' → Arv Z h' h.size k .char n [] (.int 0) → own_E p l e R S m args below meth c h' locs (cells + 1) (slots + cap) (pc + 2) Ls (.ref h.size :: rest) G) :
    own_E p l e R S m args below meth c h locs cells slots pc Ls (.int n :: rest) G := fun T X eT => by
  obtain ⟨T', h', k, X', e', E', A', st⟩ := newP (aty := .char) X K.1 K.2.1 w eT (g := mkF m pc Ls (.int n :: rest)) rfl (hb K.2.2.2.1 hd) rfl hn hcap hbig hc hl
  obtain ⟨s₂, st', q⟩ := r h' k E' (Arv.new A' hn) T' X' e'
  exact ⟨s₂, st _ st', q⟩
theorem own_castore (K : own_C p S m meth c Z bytes own rt ml) {a : Addr} {k : ClassId} {z j x : Int32} {vs : List Value} {dv : Value} (A : Arv Z h a k .char z vs dv) (hj : ¬ j < 0) (hz : j < z) (hv : j.toNatClampNeg < vs.length) (hd : decode bytes pc = .ok (.castore, 1))
    (r : ∀ h' : Heap, Wr h h' a j.toNatClampNeg (.int (nar .char x)) → Arv Z h' a k .char z (vs.set j.toNatClampNeg (.int (nar .char x))) dv → own_E p l e R S m args below meth c h' (locs ++ [⟨a, j.toNatClampNeg⟩]) cells slots (pc + 1) Ls rest G) :
    own_E p l e R S m args below meth c h locs cells slots pc Ls (.int x :: .int j :: .ref a :: rest) G := fun T X eT => by
  obtain ⟨cl, A1, q1, S1, M1, H1, U1⟩ := A
  obtain ⟨T', h', X', e', W', st⟩ := stC X K.1 K.2.1 eT A1 (j := j) (inb_of S1 ⟨hj, hz⟩) (g := mkF m pc Ls (.int x :: .int j :: .ref a :: rest)) rfl rfl (hb K.2.2.2.1 hd)
  obtain ⟨s₂, st', q⟩ := r h' W' (Arv.set A1 q1 S1 M1 H1 U1 (fits_nar_char _) W' _ rfl hv) T' X' e'
  exact ⟨s₂, st _ st', q⟩
theorem own_putF (K : own_C p S m meth c Z bytes own rt ml) (hnm : meth.name = "<init>") {f d C : String} {i kk : Nat} {ty : FieldType} {v old : Value} {a : Addr} (w : (Jvm.Cond.fieldLink own i own f d).before a0 Z = true) (F : Fld Z h a own f d old) (E : Exa Z h a C) (wl : (Jvm.Cond.laysFinal C own f d).before a0 Z = true) (wi : (Jvm.Cond.instantiable C kk).before a0 Z = true)
    (hty : parseFieldDescriptor d = some ty) (hn : narrow ty v = v) (hf : fits ty v = true) (hd : decode bytes pc = .ok (.putfield i, 3))
    (r : ∀ h' : Heap, Wr h h' a (Jvm.RoadKit.slotOf Z own f d) v → own_E p l e R S m args below meth c h' (locs ++ [⟨a, Jvm.RoadKit.slotOf Z own f d⟩]) cells slots (pc + 3) Ls rest G) :
    own_E p l e R S m args below meth c h locs cells slots pc Ls (v :: .ref a :: rest) G := fun T X eT => by
  obtain ⟨T', h', X', e', W', st⟩ := putF X K.1 K.2.1 K.2.2.1 (host := "") (Or.inl w) Via.refl eT F E (Or.inr ⟨wl, rfl, hnm⟩) wi hty hn hf (g := mkF m pc Ls (v :: .ref a :: rest)) rfl rfl (hb K.2.2.2.1 hd)
  obtain ⟨s₂, st', q⟩ := r h' W' T' X' e'
  exact ⟨s₂, st _ st', q⟩
theorem own_initO (K : own_C p S m meth c Z bytes own rt ml) {i W : Nat} {a : Addr} (w1 : (Jvm.Cond.methodLink own i Lib.objectInit).before a0 Z = true) (w2 : (Jvm.Cond.instanceMethod Lib.objectInit).before a0 Z = true) (w3 : (Jvm.Cond.code Lib.objectInit object_method_1_code 1 none).before a0 Z = true) (hd : decode bytes pc = .ok (.invokespecial i, 3)) (hsz : Ls.size = ml) (hf : 1 ≤ R.frames) (hW : (rest.map fun v => v.category).sum ≤ W) (hl : W + 12 ≤ R.locals)
    (r : own_E p l e R S m args below meth c h locs cells slots (pc + 3) Ls rest G) : own_E p l e R S m args below meth c h locs cells slots pc Ls (.ref a :: rest) G := fun T X eT => by
  obtain ⟨T', X', e', st⟩ := initO X K.1 K.2.1 K.2.2.1 w1 w2 w3 eT (g := mkF m pc Ls (.ref a :: rest)) rfl (by rw [K.2.2.2.2.2.2]; exact hsz) rfl (hb K.2.2.2.1 hd) hf (W := W) (by show 2 * 0 + _ ≤ _; omega) hl
  obtain ⟨s₂, st', q⟩ := r T' X' e'
  exact ⟨s₂, st _ st', q⟩
end Own
theorem d1_0 : decode method_4_code 0 = .ok (.iload_n 1, 1) := by decide +kernel
theorem d1_1 : decode method_4_code 1 = .ok (.ifCond .eq 14, 3) := by decide +kernel
theorem d1_4 : decode method_4_code 4 = .ok (.iload_n 0, 1) := by decide +kernel
theorem d1_5 : decode method_4_code 5 = .ok (.ldc 15, 2) := by decide +kernel
theorem d1_7 : decode method_4_code 7 = .ok (.iand, 1) := by decide +kernel
theorem d1_8 : decode method_4_code 8 = .ok (.bipush 77, 2) := by decide +kernel
theorem d1_10 : decode method_4_code 10 = .ok (.irem, 1) := by decide +kernel
theorem d1_11 : decode method_4_code 11 = .ok (.invokestatic 16, 3) := by decide +kernel
theorem d1_14 : decode method_4_code 14 = .ok (.ireturn, 1) := by decide +kernel
theorem d1_15 : decode method_4_code 15 = .ok (.iload_n 0, 1) := by decide +kernel
theorem d1_16 : decode method_4_code 16 = .ok (.sipush 255, 3) := by decide +kernel
theorem d1_19 : decode method_4_code 19 = .ok (.iand, 1) := by decide +kernel
theorem d1_20 : decode method_4_code 20 = .ok (.i2c, 1) := by decide +kernel
theorem d1_21 : decode method_4_code 21 = .ok (.ireturn, 1) := by decide +kernel
theorem d2_0 : decode method_3_code 0 = .ok (.iload_n 0, 1) := by decide +kernel
theorem d2_1 : decode method_3_code 1 = .ok (.bipush 26, 2) := by decide +kernel
theorem d2_3 : decode method_3_code 3 = .ok (.if_icmp .ge 9, 3) := by decide +kernel
theorem d2_6 : decode method_3_code 6 = .ok (.bipush 97, 2) := by decide +kernel
theorem d2_8 : decode method_3_code 8 = .ok (.iload_n 0, 1) := by decide +kernel
theorem d2_9 : decode method_3_code 9 = .ok (.iadd, 1) := by decide +kernel
theorem d2_10 : decode method_3_code 10 = .ok (.i2c, 1) := by decide +kernel
theorem d2_11 : decode method_3_code 11 = .ok (.ireturn, 1) := by decide +kernel
theorem d2_12 : decode method_3_code 12 = .ok (.iload_n 0, 1) := by decide +kernel
theorem d2_13 : decode method_3_code 13 = .ok (.bipush 52, 2) := by decide +kernel
theorem d2_15 : decode method_3_code 15 = .ok (.if_icmp .ge 12, 3) := by decide +kernel
theorem d2_18 : decode method_3_code 18 = .ok (.bipush 65, 2) := by decide +kernel
theorem d2_20 : decode method_3_code 20 = .ok (.iload_n 0, 1) := by decide +kernel
theorem d2_21 : decode method_3_code 21 = .ok (.bipush 26, 2) := by decide +kernel
theorem d2_23 : decode method_3_code 23 = .ok (.isub, 1) := by decide +kernel
theorem d2_24 : decode method_3_code 24 = .ok (.iadd, 1) := by decide +kernel
theorem d2_25 : decode method_3_code 25 = .ok (.i2c, 1) := by decide +kernel
theorem d2_26 : decode method_3_code 26 = .ok (.ireturn, 1) := by decide +kernel
theorem d2_27 : decode method_3_code 27 = .ok (.iload_n 0, 1) := by decide +kernel
theorem d2_28 : decode method_3_code 28 = .ok (.bipush 62, 2) := by decide +kernel
theorem d2_30 : decode method_3_code 30 = .ok (.if_icmp .ge 12, 3) := by decide +kernel
theorem d2_33 : decode method_3_code 33 = .ok (.bipush 48, 2) := by decide +kernel
theorem d2_35 : decode method_3_code 35 = .ok (.iload_n 0, 1) := by decide +kernel
theorem d2_36 : decode method_3_code 36 = .ok (.bipush 52, 2) := by decide +kernel
theorem d2_38 : decode method_3_code 38 = .ok (.isub, 1) := by decide +kernel
theorem d2_39 : decode method_3_code 39 = .ok (.iadd, 1) := by decide +kernel
theorem d2_40 : decode method_3_code 40 = .ok (.i2c, 1) := by decide +kernel
theorem d2_41 : decode method_3_code 41 = .ok (.ireturn, 1) := by decide +kernel
theorem d2_42 : decode method_3_code 42 = .ok (.ldc 7, 2) := by decide +kernel
theorem d2_44 : decode method_3_code 44 = .ok (.iload_n 0, 1) := by decide +kernel
theorem d2_45 : decode method_3_code 45 = .ok (.bipush 62, 2) := by decide +kernel
theorem d2_47 : decode method_3_code 47 = .ok (.isub, 1) := by decide +kernel
theorem d2_48 : decode method_3_code 48 = .ok (.invokevirtual 9, 3) := by decide +kernel
theorem d2_51 : decode method_3_code 51 = .ok (.ireturn, 1) := by decide +kernel
theorem d3_0 : decode jdk_42_method_3_code 0 = .ok (.aload_n 0, 1) := by decide +kernel
theorem d3_1 : decode jdk_42_method_3_code 1 = .ok (.aload_n 1, 1) := by decide +kernel
theorem d3_2 : decode jdk_42_method_3_code 2 = .ok (.iconst 0, 1) := by decide +kernel
theorem d3_3 : decode jdk_42_method_3_code 3 = .ok (.aload_n 1, 1) := by decide +kernel
theorem d3_4 : decode jdk_42_method_3_code 4 = .ok (.arraylength, 1) := by decide +kernel
theorem d3_5 : decode jdk_42_method_3_code 5 = .ok (.aconst_null, 1) := by decide +kernel
theorem d3_6 : decode jdk_42_method_3_code 6 = .ok (.invokespecial 27, 3) := by decide +kernel
theorem d3_9 : decode jdk_42_method_3_code 9 = .ok (.return_, 1) := by decide +kernel
theorem d4_0 : decode jdk_42_method_149_code 0 = .ok (.aload_n 0, 1) := by decide +kernel
theorem d4_1 : decode jdk_42_method_149_code 1 = .ok (.invokespecial 1, 3) := by decide +kernel
theorem d4_4 : decode jdk_42_method_149_code 4 = .ok (.iload_n 3, 1) := by decide +kernel
theorem d4_5 : decode jdk_42_method_149_code 5 = .ok (.ifCond .ne 22, 3) := by decide +kernel
theorem d4_8 : decode jdk_42_method_149_code 8 = .ok (.aload_n 0, 1) := by decide +kernel
theorem d4_9 : decode jdk_42_method_149_code 9 = .ok (.ldc 7, 2) := by decide +kernel
theorem d4_11 : decode jdk_42_method_149_code 11 = .ok (.getfield 9, 3) := by decide +kernel
theorem d4_14 : decode jdk_42_method_149_code 14 = .ok (.putfield 9, 3) := by decide +kernel
theorem d4_17 : decode jdk_42_method_149_code 17 = .ok (.aload_n 0, 1) := by decide +kernel
theorem d4_18 : decode jdk_42_method_149_code 18 = .ok (.ldc 7, 2) := by decide +kernel
theorem d4_20 : decode jdk_42_method_149_code 20 = .ok (.getfield 15, 3) := by decide +kernel
theorem d4_23 : decode jdk_42_method_149_code 23 = .ok (.putfield 15, 3) := by decide +kernel
theorem d4_26 : decode jdk_42_method_149_code 26 = .ok (.return_, 1) := by decide +kernel
theorem d6_0 : decode prog_7_method_2_code 0 = .ok (.aload_n 0, 1) := by decide +kernel
theorem d6_1 : decode prog_7_method_2_code 1 = .ok (.invokevirtual 7, 3) := by decide +kernel
theorem d6_4 : decode prog_7_method_2_code 4 = .ok (.ifCond .ne 7, 3) := by decide +kernel
theorem d6_7 : decode prog_7_method_2_code 7 = .ok (.iconst 1, 1) := by decide +kernel
theorem d6_8 : decode prog_7_method_2_code 8 = .ok (.goto 4, 3) := by decide +kernel
theorem d6_11 : decode prog_7_method_2_code 11 = .ok (.iconst 0, 1) := by decide +kernel
theorem d6_12 : decode prog_7_method_2_code 12 = .ok (.istore_n 1, 1) := by decide +kernel
theorem d6_13 : decode prog_7_method_2_code 13 = .ok (.iconst 0, 1) := by decide +kernel
theorem d6_14 : decode prog_7_method_2_code 14 = .ok (.istore_n 2, 1) := by decide +kernel
theorem d6_15 : decode prog_7_method_2_code 15 = .ok (.iload_n 1, 1) := by decide +kernel
theorem d6_16 : decode prog_7_method_2_code 16 = .ok (.ifCond .eq 74, 3) := by decide +kernel
theorem d6_19 : decode prog_7_method_2_code 19 = .ok (.iload_n 2, 1) := by decide +kernel
theorem d6_20 : decode prog_7_method_2_code 20 = .ok (.aload_n 0, 1) := by decide +kernel
theorem d6_21 : decode prog_7_method_2_code 21 = .ok (.invokevirtual 13, 3) := by decide +kernel
theorem d6_24 : decode prog_7_method_2_code 24 = .ok (.if_icmp .ge 66, 3) := by decide +kernel
theorem d6_27 : decode prog_7_method_2_code 27 = .ok (.aload_n 0, 1) := by decide +kernel
theorem d6_28 : decode prog_7_method_2_code 28 = .ok (.iload_n 2, 1) := by decide +kernel
theorem d6_29 : decode prog_7_method_2_code 29 = .ok (.invokevirtual 17, 3) := by decide +kernel
theorem d6_32 : decode prog_7_method_2_code 32 = .ok (.istore_n 3, 1) := by decide +kernel
theorem d6_33 : decode prog_7_method_2_code 33 = .ok (.iload_n 3, 1) := by decide +kernel
theorem d6_34 : decode prog_7_method_2_code 34 = .ok (.bipush 97, 2) := by decide +kernel
theorem d6_36 : decode prog_7_method_2_code 36 = .ok (.if_icmp .lt 9, 3) := by decide +kernel
theorem d6_39 : decode prog_7_method_2_code 39 = .ok (.iload_n 3, 1) := by decide +kernel
theorem d6_40 : decode prog_7_method_2_code 40 = .ok (.bipush 122, 2) := by decide +kernel
theorem d6_42 : decode prog_7_method_2_code 42 = .ok (.if_icmp .le 36, 3) := by decide +kernel
theorem d6_45 : decode prog_7_method_2_code 45 = .ok (.iload_n 3, 1) := by decide +kernel
theorem d6_46 : decode prog_7_method_2_code 46 = .ok (.bipush 65, 2) := by decide +kernel
theorem d6_48 : decode prog_7_method_2_code 48 = .ok (.if_icmp .lt 9, 3) := by decide +kernel
theorem d6_51 : decode prog_7_method_2_code 51 = .ok (.iload_n 3, 1) := by decide +kernel
theorem d6_52 : decode prog_7_method_2_code 52 = .ok (.bipush 90, 2) := by decide +kernel
theorem d6_54 : decode prog_7_method_2_code 54 = .ok (.if_icmp .le 24, 3) := by decide +kernel
theorem d6_57 : decode prog_7_method_2_code 57 = .ok (.iload_n 3, 1) := by decide +kernel
theorem d6_58 : decode prog_7_method_2_code 58 = .ok (.bipush 48, 2) := by decide +kernel
theorem d6_60 : decode prog_7_method_2_code 60 = .ok (.if_icmp .lt 9, 3) := by decide +kernel
theorem d6_63 : decode prog_7_method_2_code 63 = .ok (.iload_n 3, 1) := by decide +kernel
theorem d6_64 : decode prog_7_method_2_code 64 = .ok (.bipush 57, 2) := by decide +kernel
theorem d6_66 : decode prog_7_method_2_code 66 = .ok (.if_icmp .le 12, 3) := by decide +kernel
theorem d6_69 : decode prog_7_method_2_code 69 = .ok (.ldc 23, 2) := by decide +kernel
theorem d6_71 : decode prog_7_method_2_code 71 = .ok (.iload_n 3, 1) := by decide +kernel
theorem d6_72 : decode prog_7_method_2_code 72 = .ok (.invokevirtual 25, 3) := by decide +kernel
theorem d6_75 : decode prog_7_method_2_code 75 = .ok (.ifCond .lt 7, 3) := by decide +kernel
theorem d6_78 : decode prog_7_method_2_code 78 = .ok (.iconst 1, 1) := by decide +kernel
theorem d6_79 : decode prog_7_method_2_code 79 = .ok (.goto 4, 3) := by decide +kernel
theorem d6_82 : decode prog_7_method_2_code 82 = .ok (.iconst 0, 1) := by decide +kernel
theorem d6_83 : decode prog_7_method_2_code 83 = .ok (.istore_n 1, 1) := by decide +kernel
theorem d6_84 : decode prog_7_method_2_code 84 = .ok (.iinc 2 1, 3) := by decide +kernel
theorem d6_87 : decode prog_7_method_2_code 87 = .ok (.goto (-72), 3) := by decide +kernel
theorem d6_90 : decode prog_7_method_2_code 90 = .ok (.iload_n 1, 1) := by decide +kernel
theorem d6_91 : decode prog_7_method_2_code 91 = .ok (.ireturn, 1) := by decide +kernel
theorem d7_0 : decode jdk_42_method_55_code 0 = .ok (.aload_n 0, 1) := by decide +kernel
theorem d7_1 : decode jdk_42_method_55_code 1 = .ok (.getfield 9, 3) := by decide +kernel
theorem d7_4 : decode jdk_42_method_55_code 4 = .ok (.arraylength, 1) := by decide +kernel
theorem d7_5 : decode jdk_42_method_55_code 5 = .ok (.ifCond .ne 7, 3) := by decide +kernel
theorem d7_8 : decode jdk_42_method_55_code 8 = .ok (.iconst 1, 1) := by decide +kernel
theorem d7_9 : decode jdk_42_method_55_code 9 = .ok (.goto 4, 3) := by decide +kernel
theorem d7_12 : decode jdk_42_method_55_code 12 = .ok (.iconst 0, 1) := by decide +kernel
theorem d7_13 : decode jdk_42_method_55_code 13 = .ok (.ireturn, 1) := by decide +kernel
theorem d11_0 : decode method_2_code 0 = .ok (.iload_n 0, 1) := by decide +kernel
theorem d11_1 : decode method_2_code 1 = .ok (.bipush 97, 2) := by decide +kernel
theorem d11_3 : decode method_2_code 3 = .ok (.if_icmp .lt 11, 3) := by decide +kernel
theorem d11_6 : decode method_2_code 6 = .ok (.iload_n 0, 1) := by decide +kernel
theorem d11_7 : decode method_2_code 7 = .ok (.bipush 122, 2) := by decide +kernel
theorem d11_9 : decode method_2_code 9 = .ok (.if_icmp .gt 5, 3) := by decide +kernel
theorem d11_12 : decode method_2_code 12 = .ok (.iconst 1, 1) := by decide +kernel
theorem d11_13 : decode method_2_code 13 = .ok (.ireturn, 1) := by decide +kernel
theorem d11_14 : decode method_2_code 14 = .ok (.iload_n 0, 1) := by decide +kernel
theorem d11_15 : decode method_2_code 15 = .ok (.bipush 65, 2) := by decide +kernel
theorem d11_17 : decode method_2_code 17 = .ok (.if_icmp .lt 11, 3) := by decide +kernel
theorem d11_20 : decode method_2_code 20 = .ok (.iload_n 0, 1) := by decide +kernel
theorem d11_21 : decode method_2_code 21 = .ok (.bipush 90, 2) := by decide +kernel
theorem d11_23 : decode method_2_code 23 = .ok (.if_icmp .gt 5, 3) := by decide +kernel
theorem d11_26 : decode method_2_code 26 = .ok (.iconst 1, 1) := by decide +kernel
theorem d11_27 : decode method_2_code 27 = .ok (.ireturn, 1) := by decide +kernel
theorem d11_28 : decode method_2_code 28 = .ok (.iload_n 0, 1) := by decide +kernel
theorem d11_29 : decode method_2_code 29 = .ok (.bipush 48, 2) := by decide +kernel
theorem d11_31 : decode method_2_code 31 = .ok (.if_icmp .lt 11, 3) := by decide +kernel
theorem d11_34 : decode method_2_code 34 = .ok (.iload_n 0, 1) := by decide +kernel
theorem d11_35 : decode method_2_code 35 = .ok (.bipush 57, 2) := by decide +kernel
theorem d11_37 : decode method_2_code 37 = .ok (.if_icmp .gt 5, 3) := by decide +kernel
theorem d11_40 : decode method_2_code 40 = .ok (.iconst 1, 1) := by decide +kernel
theorem d11_41 : decode method_2_code 41 = .ok (.ireturn, 1) := by decide +kernel
theorem d11_42 : decode method_2_code 42 = .ok (.iload_n 0, 1) := by decide +kernel
theorem d11_43 : decode method_2_code 43 = .ok (.bipush 33, 2) := by decide +kernel
theorem d11_45 : decode method_2_code 45 = .ok (.if_icmp .eq 87, 3) := by decide +kernel
theorem d11_48 : decode method_2_code 48 = .ok (.iload_n 0, 1) := by decide +kernel
theorem d11_49 : decode method_2_code 49 = .ok (.bipush 35, 2) := by decide +kernel
theorem d11_51 : decode method_2_code 51 = .ok (.if_icmp .eq 81, 3) := by decide +kernel
theorem d11_54 : decode method_2_code 54 = .ok (.iload_n 0, 1) := by decide +kernel
theorem d11_55 : decode method_2_code 55 = .ok (.bipush 36, 2) := by decide +kernel
theorem d11_57 : decode method_2_code 57 = .ok (.if_icmp .eq 75, 3) := by decide +kernel
theorem d11_60 : decode method_2_code 60 = .ok (.iload_n 0, 1) := by decide +kernel
theorem d11_61 : decode method_2_code 61 = .ok (.bipush 37, 2) := by decide +kernel
theorem d11_63 : decode method_2_code 63 = .ok (.if_icmp .eq 69, 3) := by decide +kernel
theorem d11_66 : decode method_2_code 66 = .ok (.iload_n 0, 1) := by decide +kernel
theorem d11_67 : decode method_2_code 67 = .ok (.bipush 38, 2) := by decide +kernel
theorem d11_69 : decode method_2_code 69 = .ok (.if_icmp .eq 63, 3) := by decide +kernel
theorem d11_72 : decode method_2_code 72 = .ok (.iload_n 0, 1) := by decide +kernel
theorem d11_73 : decode method_2_code 73 = .ok (.bipush 39, 2) := by decide +kernel
theorem d11_75 : decode method_2_code 75 = .ok (.if_icmp .eq 57, 3) := by decide +kernel
theorem d11_78 : decode method_2_code 78 = .ok (.iload_n 0, 1) := by decide +kernel
theorem d11_79 : decode method_2_code 79 = .ok (.bipush 42, 2) := by decide +kernel
theorem d11_81 : decode method_2_code 81 = .ok (.if_icmp .eq 51, 3) := by decide +kernel
theorem d11_84 : decode method_2_code 84 = .ok (.iload_n 0, 1) := by decide +kernel
theorem d11_85 : decode method_2_code 85 = .ok (.bipush 43, 2) := by decide +kernel
theorem d11_87 : decode method_2_code 87 = .ok (.if_icmp .eq 45, 3) := by decide +kernel
theorem d11_90 : decode method_2_code 90 = .ok (.iload_n 0, 1) := by decide +kernel
theorem d11_91 : decode method_2_code 91 = .ok (.bipush 45, 2) := by decide +kernel
theorem d11_93 : decode method_2_code 93 = .ok (.if_icmp .eq 39, 3) := by decide +kernel
theorem d11_96 : decode method_2_code 96 = .ok (.iload_n 0, 1) := by decide +kernel
theorem d11_97 : decode method_2_code 97 = .ok (.bipush 46, 2) := by decide +kernel
theorem d11_99 : decode method_2_code 99 = .ok (.if_icmp .eq 33, 3) := by decide +kernel
theorem d11_102 : decode method_2_code 102 = .ok (.iload_n 0, 1) := by decide +kernel
theorem d11_103 : decode method_2_code 103 = .ok (.bipush 94, 2) := by decide +kernel
theorem d11_105 : decode method_2_code 105 = .ok (.if_icmp .eq 27, 3) := by decide +kernel
theorem d11_108 : decode method_2_code 108 = .ok (.iload_n 0, 1) := by decide +kernel
theorem d11_109 : decode method_2_code 109 = .ok (.bipush 95, 2) := by decide +kernel
theorem d11_111 : decode method_2_code 111 = .ok (.if_icmp .eq 21, 3) := by decide +kernel
theorem d11_114 : decode method_2_code 114 = .ok (.iload_n 0, 1) := by decide +kernel
theorem d11_115 : decode method_2_code 115 = .ok (.bipush 96, 2) := by decide +kernel
theorem d11_117 : decode method_2_code 117 = .ok (.if_icmp .eq 15, 3) := by decide +kernel
theorem d11_120 : decode method_2_code 120 = .ok (.iload_n 0, 1) := by decide +kernel
theorem d11_121 : decode method_2_code 121 = .ok (.bipush 124, 2) := by decide +kernel
theorem d11_123 : decode method_2_code 123 = .ok (.if_icmp .eq 9, 3) := by decide +kernel
theorem d11_126 : decode method_2_code 126 = .ok (.iload_n 0, 1) := by decide +kernel
theorem d11_127 : decode method_2_code 127 = .ok (.bipush 126, 2) := by decide +kernel
theorem d11_129 : decode method_2_code 129 = .ok (.if_icmp .ne 7, 3) := by decide +kernel
theorem d11_132 : decode method_2_code 132 = .ok (.iconst 1, 1) := by decide +kernel
theorem d11_133 : decode method_2_code 133 = .ok (.goto 4, 3) := by decide +kernel
theorem d11_136 : decode method_2_code 136 = .ok (.iconst 0, 1) := by decide +kernel
theorem d11_137 : decode method_2_code 137 = .ok (.ireturn, 1) := by decide +kernel
theorem d12_0 : decode jdk_42_method_54_code 0 = .ok (.aload_n 0, 1) := by decide +kernel
theorem d12_1 : decode jdk_42_method_54_code 1 = .ok (.getfield 9, 3) := by decide +kernel
theorem d12_4 : decode jdk_42_method_54_code 4 = .ok (.arraylength, 1) := by decide +kernel
theorem d12_5 : decode jdk_42_method_54_code 5 = .ok (.aload_n 0, 1) := by decide +kernel
theorem d12_6 : decode jdk_42_method_54_code 6 = .ok (.invokevirtual 335, 3) := by decide +kernel
theorem d12_9 : decode jdk_42_method_54_code 9 = .ok (.ishr, 1) := by decide +kernel
theorem d12_10 : decode jdk_42_method_54_code 10 = .ok (.ireturn, 1) := by decide +kernel
theorem d13_0 : decode jdk_42_method_152_code 0 = .ok (.getstatic 38, 3) := by decide +kernel
theorem d13_3 : decode jdk_42_method_152_code 3 = .ok (.ifCond .eq 10, 3) := by decide +kernel
theorem d13_6 : decode jdk_42_method_152_code 6 = .ok (.aload_n 0, 1) := by decide +kernel
theorem d13_7 : decode jdk_42_method_152_code 7 = .ok (.getfield 15, 3) := by decide +kernel
theorem d13_10 : decode jdk_42_method_152_code 10 = .ok (.goto 4, 3) := by decide +kernel
theorem d13_14 : decode jdk_42_method_152_code 14 = .ok (.ireturn, 1) := by decide +kernel
theorem d14_0 : decode jdk_42_method_56_code 0 = .ok (.aload_n 0, 1) := by decide +kernel
theorem d14_1 : decode jdk_42_method_56_code 1 = .ok (.invokevirtual 492, 3) := by decide +kernel
theorem d14_4 : decode jdk_42_method_56_code 4 = .ok (.ifCond .eq 12, 3) := by decide +kernel
theorem d14_7 : decode jdk_42_method_56_code 7 = .ok (.aload_n 0, 1) := by decide +kernel
theorem d14_8 : decode jdk_42_method_56_code 8 = .ok (.getfield 9, 3) := by decide +kernel
theorem d14_11 : decode jdk_42_method_56_code 11 = .ok (.iload_n 1, 1) := by decide +kernel
theorem d14_12 : decode jdk_42_method_56_code 12 = .ok (.invokestatic 495, 3) := by decide +kernel
theorem d14_15 : decode jdk_42_method_56_code 15 = .ok (.ireturn, 1) := by decide +kernel
theorem d15_0 : decode jdk_42_method_154_code 0 = .ok (.getstatic 38, 3) := by decide +kernel
theorem d15_3 : decode jdk_42_method_154_code 3 = .ok (.ifCond .eq 14, 3) := by decide +kernel
theorem d15_6 : decode jdk_42_method_154_code 6 = .ok (.aload_n 0, 1) := by decide +kernel
theorem d15_7 : decode jdk_42_method_154_code 7 = .ok (.getfield 15, 3) := by decide +kernel
theorem d15_10 : decode jdk_42_method_154_code 10 = .ok (.ifCond .ne 7, 3) := by decide +kernel
theorem d15_13 : decode jdk_42_method_154_code 13 = .ok (.iconst 1, 1) := by decide +kernel
theorem d15_14 : decode jdk_42_method_154_code 14 = .ok (.goto 4, 3) := by decide +kernel
theorem d15_18 : decode jdk_42_method_154_code 18 = .ok (.ireturn, 1) := by decide +kernel
theorem d16_0 : decode jdk_43_method_2_code 0 = .ok (.iload_n 1, 1) := by decide +kernel
theorem d16_1 : decode jdk_43_method_2_code 1 = .ok (.aload_n 0, 1) := by decide +kernel
theorem d16_2 : decode jdk_43_method_2_code 2 = .ok (.arraylength, 1) := by decide +kernel
theorem d16_3 : decode jdk_43_method_2_code 3 = .ok (.invokestatic 9, 3) := by decide +kernel
theorem d16_6 : decode jdk_43_method_2_code 6 = .ok (.aload_n 0, 1) := by decide +kernel
theorem d16_7 : decode jdk_43_method_2_code 7 = .ok (.iload_n 1, 1) := by decide +kernel
theorem d16_8 : decode jdk_43_method_2_code 8 = .ok (.baload, 1) := by decide +kernel
theorem d16_9 : decode jdk_43_method_2_code 9 = .ok (.sipush 255, 3) := by decide +kernel
theorem d16_12 : decode jdk_43_method_2_code 12 = .ok (.iand, 1) := by decide +kernel
theorem d16_13 : decode jdk_43_method_2_code 13 = .ok (.i2c, 1) := by decide +kernel
theorem d16_14 : decode jdk_43_method_2_code 14 = .ok (.ireturn, 1) := by decide +kernel
theorem d17_0 : decode jdk_42_method_155_code 0 = .ok (.iload_n 0, 1) := by decide +kernel
theorem d17_1 : decode jdk_42_method_155_code 1 = .ok (.iload_n 1, 1) := by decide +kernel
theorem d17_2 : decode jdk_42_method_155_code 2 = .ok (.getstatic 1053, 3) := by decide +kernel
theorem d17_5 : decode jdk_42_method_155_code 5 = .ok (.invokestatic 1059, 3) := by decide +kernel
theorem d17_8 : decode jdk_42_method_155_code 8 = .ok (.pop, 1) := by decide +kernel
theorem d17_9 : decode jdk_42_method_155_code 9 = .ok (.return_, 1) := by decide +kernel
theorem d18_0 : decode jdk_41_method_11_code 0 = .ok (.iload_n 0, 1) := by decide +kernel
theorem d18_1 : decode jdk_41_method_11_code 1 = .ok (.ifCond .lt 8, 3) := by decide +kernel
theorem d18_4 : decode jdk_41_method_11_code 4 = .ok (.iload_n 0, 1) := by decide +kernel
theorem d18_5 : decode jdk_41_method_11_code 5 = .ok (.iload_n 1, 1) := by decide +kernel
theorem d18_6 : decode jdk_41_method_11_code 6 = .ok (.if_icmp .lt 10, 3) := by decide +kernel
theorem d18_16 : decode jdk_41_method_11_code 16 = .ok (.iload_n 0, 1) := by decide +kernel
theorem d18_17 : decode jdk_41_method_11_code 17 = .ok (.ireturn, 1) := by decide +kernel
theorem d19_0 : decode jdk_42_method_79_code 0 = .ok (.aload_n 0, 1) := by decide +kernel
theorem d19_1 : decode jdk_42_method_79_code 1 = .ok (.iload_n 1, 1) := by decide +kernel
theorem d19_2 : decode jdk_42_method_79_code 2 = .ok (.iconst 0, 1) := by decide +kernel
theorem d19_3 : decode jdk_42_method_79_code 3 = .ok (.invokevirtual 633, 3) := by decide +kernel
theorem d19_6 : decode jdk_42_method_79_code 6 = .ok (.ireturn, 1) := by decide +kernel
theorem d20_0 : decode jdk_42_method_80_code 0 = .ok (.aload_n 0, 1) := by decide +kernel
theorem d20_1 : decode jdk_42_method_80_code 1 = .ok (.invokevirtual 492, 3) := by decide +kernel
theorem d20_4 : decode jdk_42_method_80_code 4 = .ok (.ifCond .eq 19, 3) := by decide +kernel
theorem d20_7 : decode jdk_42_method_80_code 7 = .ok (.aload_n 0, 1) := by decide +kernel
theorem d20_8 : decode jdk_42_method_80_code 8 = .ok (.getfield 9, 3) := by decide +kernel
theorem d20_11 : decode jdk_42_method_80_code 11 = .ok (.iload_n 1, 1) := by decide +kernel
theorem d20_12 : decode jdk_42_method_80_code 12 = .ok (.iload_n 2, 1) := by decide +kernel
theorem d20_13 : decode jdk_42_method_80_code 13 = .ok (.aload_n 0, 1) := by decide +kernel
theorem d20_14 : decode jdk_42_method_80_code 14 = .ok (.invokevirtual 505, 3) := by decide +kernel
theorem d20_17 : decode jdk_42_method_80_code 17 = .ok (.invokestatic 637, 3) := by decide +kernel
theorem d20_20 : decode jdk_42_method_80_code 20 = .ok (.goto 16, 3) := by decide +kernel
theorem d20_36 : decode jdk_42_method_80_code 36 = .ok (.ireturn, 1) := by decide +kernel
theorem d21_0 : decode jdk_43_method_22_code 0 = .ok (.iload_n 1, 1) := by decide +kernel
theorem d21_1 : decode jdk_43_method_22_code 1 = .ok (.invokestatic 88, 3) := by decide +kernel
theorem d21_4 : decode jdk_43_method_22_code 4 = .ok (.ifCond .ne 5, 3) := by decide +kernel
theorem d21_9 : decode jdk_43_method_22_code 9 = .ok (.iload_n 2, 1) := by decide +kernel
theorem d21_10 : decode jdk_43_method_22_code 10 = .ok (.iconst 0, 1) := by decide +kernel
theorem d21_11 : decode jdk_43_method_22_code 11 = .ok (.invokestatic 92, 3) := by decide +kernel
theorem d21_14 : decode jdk_43_method_22_code 14 = .ok (.istore_n 2, 1) := by decide +kernel
theorem d21_15 : decode jdk_43_method_22_code 15 = .ok (.iload_n 3, 1) := by decide +kernel
theorem d21_16 : decode jdk_43_method_22_code 16 = .ok (.aload_n 0, 1) := by decide +kernel
theorem d21_17 : decode jdk_43_method_22_code 17 = .ok (.arraylength, 1) := by decide +kernel
theorem d21_18 : decode jdk_43_method_22_code 18 = .ok (.invokestatic 38, 3) := by decide +kernel
theorem d21_21 : decode jdk_43_method_22_code 21 = .ok (.istore_n 3, 1) := by decide +kernel
theorem d21_22 : decode jdk_43_method_22_code 22 = .ok (.iload_n 2, 1) := by decide +kernel
theorem d21_23 : decode jdk_43_method_22_code 23 = .ok (.iload_n 3, 1) := by decide +kernel
theorem d21_24 : decode jdk_43_method_22_code 24 = .ok (.if_icmp .lt 5, 3) := by decide +kernel
theorem d21_29 : decode jdk_43_method_22_code 29 = .ok (.aload_n 0, 1) := by decide +kernel
theorem d21_30 : decode jdk_43_method_22_code 30 = .ok (.iload_n 1, 1) := by decide +kernel
theorem d21_31 : decode jdk_43_method_22_code 31 = .ok (.iload_n 2, 1) := by decide +kernel
theorem d21_32 : decode jdk_43_method_22_code 32 = .ok (.iload_n 3, 1) := by decide +kernel
theorem d21_33 : decode jdk_43_method_22_code 33 = .ok (.invokestatic 95, 3) := by decide +kernel
theorem d21_36 : decode jdk_43_method_22_code 36 = .ok (.ireturn, 1) := by decide +kernel
theorem d22_0 : decode jdk_43_method_4_code 0 = .ok (.iload_n 0, 1) := by decide +kernel
theorem d22_1 : decode jdk_43_method_4_code 1 = .ok (.ifCond .lt 14, 3) := by decide +kernel
theorem d22_4 : decode jdk_43_method_4_code 4 = .ok (.iload_n 0, 1) := by decide +kernel
theorem d22_5 : decode jdk_43_method_4_code 5 = .ok (.sipush 255, 3) := by decide +kernel
theorem d22_8 : decode jdk_43_method_4_code 8 = .ok (.if_icmp .gt 7, 3) := by decide +kernel
theorem d22_11 : decode jdk_43_method_4_code 11 = .ok (.iconst 1, 1) := by decide +kernel
theorem d22_12 : decode jdk_43_method_4_code 12 = .ok (.goto 4, 3) := by decide +kernel
theorem d22_16 : decode jdk_43_method_4_code 16 = .ok (.ireturn, 1) := by decide +kernel
theorem d23_0 : decode jdk_29_method_65_code 0 = .ok (.iload_n 0, 1) := by decide +kernel
theorem d23_1 : decode jdk_29_method_65_code 1 = .ok (.iload_n 1, 1) := by decide +kernel
theorem d23_2 : decode jdk_29_method_65_code 2 = .ok (.if_icmp .lt 7, 3) := by decide +kernel
theorem d23_5 : decode jdk_29_method_65_code 5 = .ok (.iload_n 0, 1) := by decide +kernel
theorem d23_6 : decode jdk_29_method_65_code 6 = .ok (.goto 4, 3) := by decide +kernel
theorem d23_10 : decode jdk_29_method_65_code 10 = .ok (.ireturn, 1) := by decide +kernel
theorem d24_0 : decode jdk_29_method_69_code 0 = .ok (.iload_n 0, 1) := by decide +kernel
theorem d24_1 : decode jdk_29_method_69_code 1 = .ok (.iload_n 1, 1) := by decide +kernel
theorem d24_2 : decode jdk_29_method_69_code 2 = .ok (.if_icmp .gt 7, 3) := by decide +kernel
theorem d24_5 : decode jdk_29_method_69_code 5 = .ok (.iload_n 0, 1) := by decide +kernel
theorem d24_6 : decode jdk_29_method_69_code 6 = .ok (.goto 4, 3) := by decide +kernel
theorem d24_10 : decode jdk_29_method_69_code 10 = .ok (.ireturn, 1) := by decide +kernel
theorem d25_0 : decode jdk_43_method_23_code 0 = .ok (.iload_n 1, 1) := by decide +kernel
theorem d25_1 : decode jdk_43_method_23_code 1 = .ok (.i2b, 1) := by decide +kernel
theorem d25_2 : decode jdk_43_method_23_code 2 = .ok (.istore 4, 2) := by decide +kernel
theorem d25_4 : decode jdk_43_method_23_code 4 = .ok (.iload_n 2, 1) := by decide +kernel
theorem d25_5 : decode jdk_43_method_23_code 5 = .ok (.istore 5, 2) := by decide +kernel
theorem d25_7 : decode jdk_43_method_23_code 7 = .ok (.iload 5, 2) := by decide +kernel
theorem d25_9 : decode jdk_43_method_23_code 9 = .ok (.iload_n 3, 1) := by decide +kernel
theorem d25_10 : decode jdk_43_method_23_code 10 = .ok (.if_icmp .ge 21, 3) := by decide +kernel
theorem d25_13 : decode jdk_43_method_23_code 13 = .ok (.aload_n 0, 1) := by decide +kernel
theorem d25_14 : decode jdk_43_method_23_code 14 = .ok (.iload 5, 2) := by decide +kernel
theorem d25_16 : decode jdk_43_method_23_code 16 = .ok (.baload, 1) := by decide +kernel
theorem d25_17 : decode jdk_43_method_23_code 17 = .ok (.iload 4, 2) := by decide +kernel
theorem d25_19 : decode jdk_43_method_23_code 19 = .ok (.if_icmp .ne 6, 3) := by decide +kernel
theorem d25_22 : decode jdk_43_method_23_code 22 = .ok (.iload 5, 2) := by decide +kernel
theorem d25_24 : decode jdk_43_method_23_code 24 = .ok (.ireturn, 1) := by decide +kernel
theorem d25_25 : decode jdk_43_method_23_code 25 = .ok (.iinc 5 1, 3) := by decide +kernel
theorem d25_28 : decode jdk_43_method_23_code 28 = .ok (.goto (-21), 3) := by decide +kernel
theorem d25_31 : decode jdk_43_method_23_code 31 = .ok (.iconst (-1), 1) := by decide +kernel
theorem d25_32 : decode jdk_43_method_23_code 32 = .ok (.ireturn, 1) := by decide +kernel
theorem d26_0 : decode prog_7_method_3_code 0 = .ok (.aload_n 0, 1) := by decide +kernel
theorem d26_1 : decode prog_7_method_3_code 1 = .ok (.ldc 29, 2) := by decide +kernel
theorem d26_3 : decode prog_7_method_3_code 3 = .ok (.invokestatic 31, 3) := by decide +kernel
theorem d26_6 : decode prog_7_method_3_code 6 = .ok (.checkcast 8, 3) := by decide +kernel
theorem d26_9 : decode prog_7_method_3_code 9 = .ok (.invokestatic 37, 3) := by decide +kernel
theorem d26_12 : decode prog_7_method_3_code 12 = .ok (.ifCond .ne 17, 3) := by decide +kernel
theorem d26_29 : decode prog_7_method_3_code 29 = .ok (.aload_n 0, 1) := by decide +kernel
theorem d26_30 : decode prog_7_method_3_code 30 = .ok (.areturn, 1) := by decide +kernel
theorem d27_0 : decode jdk_31_method_11_code 0 = .ok (.aload_n 0, 1) := by decide +kernel
theorem d27_1 : decode jdk_31_method_11_code 1 = .ok (.ifnonnull 12, 3) := by decide +kernel
theorem d27_13 : decode jdk_31_method_11_code 13 = .ok (.aload_n 0, 1) := by decide +kernel
theorem d27_14 : decode jdk_31_method_11_code 14 = .ok (.areturn, 1) := by decide +kernel
theorem d28_0 : decode jdk_42_method_66_code 0 = .ok (.aload_n 0, 1) := by decide +kernel
theorem d28_1 : decode jdk_42_method_66_code 1 = .ok (.aload_n 1, 1) := by decide +kernel
theorem d28_2 : decode jdk_42_method_66_code 2 = .ok (.if_acmp .ne 5, 3) := by decide +kernel
theorem d28_5 : decode jdk_42_method_66_code 5 = .ok (.iconst 1, 1) := by decide +kernel
theorem d28_6 : decode jdk_42_method_66_code 6 = .ok (.ireturn, 1) := by decide +kernel
theorem pd_1 : parseMethodDescriptor "(IZ)C" = some ⟨[.int, .boolean], (some .char)⟩ := by decide +kernel
theorem pd_2 : parseMethodDescriptor "(I)C" = some ⟨[.int], (some .char)⟩ := by decide +kernel
theorem pd_3 : parseMethodDescriptor "([C)V" = some ⟨[.array .char], none⟩ := by decide +kernel
theorem pd_4 : parseMethodDescriptor "([CIILjava/lang/Void;)V" = some ⟨[.array .char, .int, .int, .object "java/lang/Void"], none⟩ := by decide +kernel
theorem pd_5 : parseMethodDescriptor "()V" = some ⟨[], none⟩ := by decide +kernel
theorem pd_6 : parseMethodDescriptor "(Ljava/lang/String;)Z" = some ⟨[.object "java/lang/String"], (some .boolean)⟩ := by decide +kernel
theorem pd_7 : parseMethodDescriptor "()Z" = some ⟨[], (some .boolean)⟩ := by decide +kernel
theorem pd_8 : parseMethodDescriptor "([CII)[B" = some ⟨[.array .char, .int, .int], (some (.array .byte))⟩ := by decide +kernel
theorem pd_9 : parseMethodDescriptor "([CI[BII)I" = some ⟨[.array .char, .int, .array .byte, .int, .int], (some .int)⟩ := by decide +kernel
theorem pd_10 : parseMethodDescriptor "([BI)B" = some ⟨[.array .byte, .int], (some .byte)⟩ := by decide +kernel
theorem pd_11 : parseMethodDescriptor "(C)Z" = some ⟨[.char], (some .boolean)⟩ := by decide +kernel
theorem pd_12 : parseMethodDescriptor "()I" = some ⟨[], (some .int)⟩ := by decide +kernel
theorem pd_13 : parseMethodDescriptor "()B" = some ⟨[], (some .byte)⟩ := by decide +kernel
theorem pd_14 : parseMethodDescriptor "(I)C" = some ⟨[.int], (some .char)⟩ := by decide +kernel
theorem pd_15 : parseMethodDescriptor "()Z" = some ⟨[], (some .boolean)⟩ := by decide +kernel
theorem pd_16 : parseMethodDescriptor "([BI)C" = some ⟨[.array .byte, .int], (some .char)⟩ := by decide +kernel
theorem pd_17 : parseMethodDescriptor "(II)V" = some ⟨[.int, .int], none⟩ := by decide +kernel
theorem pd_18 : parseMethodDescriptor "(IILjava/util/function/BiFunction;)I" = some ⟨[.int, .int, .object "java/util/function/BiFunction"], (some .int)⟩ := by decide +kernel
theorem pd_19 : parseMethodDescriptor "(I)I" = some ⟨[.int], (some .int)⟩ := by decide +kernel
theorem pd_20 : parseMethodDescriptor "(II)I" = some ⟨[.int, .int], (some .int)⟩ := by decide +kernel
theorem pd_21 : parseMethodDescriptor "([BIII)I" = some ⟨[.array .byte, .int, .int, .int], (some .int)⟩ := by decide +kernel
theorem pd_22 : parseMethodDescriptor "(I)Z" = some ⟨[.int], (some .boolean)⟩ := by decide +kernel
theorem pd_23 : parseMethodDescriptor "(II)I" = some ⟨[.int, .int], (some .int)⟩ := by decide +kernel
theorem pd_24 : parseMethodDescriptor "(II)I" = some ⟨[.int, .int], (some .int)⟩ := by decide +kernel
theorem pd_25 : parseMethodDescriptor "([BIII)I" = some ⟨[.array .byte, .int, .int, .int], (some .int)⟩ := by decide +kernel
theorem pd_26 : parseMethodDescriptor "(Ljava/lang/String;)Ljava/lang/String;" = some ⟨[.object "java/lang/String"], (some (.object "java/lang/String"))⟩ := by decide +kernel
theorem pd_27 : parseMethodDescriptor "(Ljava/lang/Object;Ljava/lang/String;)Ljava/lang/Object;" = some ⟨[.object "java/lang/Object", .object "java/lang/String"], (some (.object "java/lang/Object"))⟩ := by decide +kernel
theorem pd_28 : parseMethodDescriptor "(Ljava/lang/Object;)Z" = some ⟨[.object "java/lang/Object"], (some .boolean)⟩ := by decide +kernel
def own_S (Z : State) (h : Heap) (a b : Addr) (kc : ClassId) (N : Int32) (vs : List Value) : Prop := Exa Z h a "java/lang/String" ∧ Fld Z h a "java/lang/String" "coder" "B" (.int 0) ∧ Fld Z h a "java/lang/String" "value" "[B" (.ref b) ∧ Arv Z h b kc .byte N vs (.int 0)
def own_T (Z : State) (h : Heap) (z : Int32) (g : Value) : Prop := Sta Z h "java/lang/String" "COMPACT_STRINGS" "Z" (.int z) ∧ ¬ z = 0 ∧ Sta Z h "jdk/internal/util/Preconditions" "SIOOBE_FORMATTER" "Ljava/util/function/BiFunction;" g ∧ g.isRef = true
theorem own_S_ext {Z : State} {h h' : Heap} {a b : Addr} {kc : ClassId} {N : Int32} {vs : List Value} (E : Ext h h') (S : own_S Z h a b kc N vs) : own_S Z h' a b kc N vs := ⟨S.1.ext E, S.2.1.ext E, S.2.2.1.ext E, S.2.2.2.ext E⟩
theorem own_T_ext {Z : State} {h h' : Heap} {z : Int32} {g : Value} (E : Ext h h') (T : own_T Z h z g) : own_T Z h' z g := ⟨T.1.ext E, T.2.1, T.2.2.1.ext E, T.2.2.2⟩
theorem own_sh0 (x : Int32) : x >>> ((0 : Int32) &&& 31) = x := by
  have e : (0 : Int32) &&& 31 = 0 := by decide
  rw [e]; exact Int32.shiftRight_zero
theorem own_256 (P : Int32 → Prop) (H : ∀ n : Fin 256, P (Int32.ofNat n.val)) {x : Int32} (h0 : ¬ x < 0) (h1 : ¬ 255 < x) : P x := by
  have a0 : 0 ≤ x.toInt := by
    rcases Int.lt_or_le x.toInt 0 with q | q
    · exact absurd (Int32.lt_iff_toInt_lt.mpr q) h0
    · exact q
  have a1 : x.toInt ≤ 255 := by
    rcases Int.lt_or_le 255 x.toInt with q | q
    · exact absurd (Int32.lt_iff_toInt_lt.mpr (show (255 : Int32).toInt < x.toInt from q)) h1
    · exact q
  have e : x = Int32.ofNat x.toInt.toNat := by
    apply Int32.toInt_inj.mp
    rw [Int32.toInt_ofNat_of_lt (by omega)]
    omega
  rw [e]
  exact H ⟨x.toInt.toNat, by omega⟩
theorem own_lo8 {x : Int32} (h0 : ¬ x < 0) (h1 : ¬ 255 < x) : x.toInt8.toInt32 &&& 255 = x := own_256 (fun x => x.toInt8.toInt32 &&& 255 = x) (by decide +kernel) h0 h1
theorem own_c16 {x : Int32} (h0 : ¬ x < 0) (h1 : ¬ 255 < x) : x.toUInt32.toUInt16.toUInt32.toInt32 = x := own_256 (fun x => x.toUInt32.toUInt16.toUInt32.toInt32 = x) (by decide +kernel) h0 h1
set_option maxRecDepth 65536 in
theorem cod_b (p : Program) (l : Launch) (e : Env) (s : State) (m : MethodId) (args : Array Value) (below : List Frame) (meth : Method) (c : Code) (Z : State) (a0 : Array Value) (h : Heap) (hw : ∀ d ∈ tables_1, d.before a0 Z = true) (a b : Addr) (kc : ClassId) (N : Int32) (vs : List Value) (z : Int32) (g : Value) (S : own_S Z h a b kc N vs) (T : own_T Z h z g) (K : own_C p s m meth c Z jdk_42_method_152_code "java/lang/String" (some .byte) 1) :
    own_E p l e { frames := 0, cells := 0, slots := 0, locals := 0 } s m args below meth c h [] 0 0 0 #[.val (.ref a)] [] (own_P s below h (some (.int (0 : Int32)))) := by
  refine own_getS K (pc := 0) (hw _ (List.mem_of_getElem? (i := 39) rfl)) T.1 d13_0 ?_
  refine own_ifN K (pc := 3) d13_3 (by rw [if0]; exact (feq T.2.1).1) ?_
  refine own_aloadN K (pc := 6) d13_6 rfl rfl ?_
  refine own_getF K (pc := 7) (hw _ (List.mem_of_getElem? (i := 29) rfl)) S.2.1 d13_7 ?_
  refine own_goto K (pc := 10) (pc' := 14) d13_10 (by decide) (by decide) ?_
  exact own_retB K (pc := 14) d13_14 (by decide)
theorem cod (l : Launch) (Z : State) (a0 : Array Value) (h : Heap) (hw : ∀ d ∈ tables_1, d.before a0 Z = true) (a b : Addr) (kc : ClassId) (N : Int32) (vs : List Value) (z : Int32) (g : Value) (S : own_S Z h a b kc N vs) (T : own_T Z h z g) : own_M l (⟨"java/lang/String", "coder", "()B"⟩ : MethodName) jdk_42_method_152_code 1 (some .byte) [] { frames := 0, cells := 0, slots := 0, locals := 0 } Z h #[(.ref a)] (some (.int (0 : Int32))) := by
  refine own_met (by decide +kernel) rfl rfl (Ls := #[.val (.ref a)]) (fun m => by first | (simp [entryFrame, mkF, argsToLocals, Value.category]; done) | rfl | (rcases ref_cases hg with rfl | ⟨y, rfl⟩ <;> first | (simp [entryFrame, mkF, argsToLocals, Value.category]; done) | rfl)) ?_
  intro p e s m below meth c K
  exact cod_b p l e s m _ below meth c Z a0 h hw a b kc N vs z g S T K
set_option maxRecDepth 65536 in
theorem lat_b (p : Program) (l : Launch) (e : Env) (s : State) (m : MethodId) (args : Array Value) (below : List Frame) (meth : Method) (c : Code) (Z : State) (a0 : Array Value) (h : Heap) (hw : ∀ d ∈ tables_1, d.before a0 Z = true) (a b : Addr) (kc : ClassId) (N : Int32) (vs : List Value) (z : Int32) (g : Value) (S : own_S Z h a b kc N vs) (T : own_T Z h z g) (K : own_C p s m meth c Z jdk_42_method_154_code "java/lang/String" (some .boolean) 1) :
    own_E p l e { frames := 0, cells := 0, slots := 0, locals := 0 } s m args below meth c h [] 0 0 0 #[.val (.ref a)] [] (own_P s below h (some (.int (1 : Int32)))) := by
  refine own_getS K (pc := 0) (hw _ (List.mem_of_getElem? (i := 39) rfl)) T.1 d15_0 ?_
  refine own_ifN K (pc := 3) d15_3 (by rw [if0]; exact (feq T.2.1).1) ?_
  refine own_aloadN K (pc := 6) d15_6 rfl rfl ?_
  refine own_getF K (pc := 7) (hw _ (List.mem_of_getElem? (i := 29) rfl)) S.2.1 d15_7 ?_
  refine own_ifN K (pc := 10) d15_10 (by decide) ?_
  refine own_iconst K (pc := 13) d15_13 (x := (1 : Int32)) (by decide) ?_
  refine own_goto K (pc := 14) (pc' := 18) d15_14 (by decide) (by decide) ?_
  exact own_retZ K (pc := 18) d15_18 (by decide)
theorem lat (l : Launch) (Z : State) (a0 : Array Value) (h : Heap) (hw : ∀ d ∈ tables_1, d.before a0 Z = true) (a b : Addr) (kc : ClassId) (N : Int32) (vs : List Value) (z : Int32) (g : Value) (S : own_S Z h a b kc N vs) (T : own_T Z h z g) : own_M l (⟨"java/lang/String", "isLatin1", "()Z"⟩ : MethodName) jdk_42_method_154_code 1 (some .boolean) [] { frames := 0, cells := 0, slots := 0, locals := 0 } Z h #[(.ref a)] (some (.int (1 : Int32))) := by
  refine own_met (by decide +kernel) rfl rfl (Ls := #[.val (.ref a)]) (fun m => by first | (simp [entryFrame, mkF, argsToLocals, Value.category]; done) | rfl | (rcases ref_cases hg with rfl | ⟨y, rfl⟩ <;> first | (simp [entryFrame, mkF, argsToLocals, Value.category]; done) | rfl)) ?_
  intro p e s m below meth c K
  exact lat_b p l e s m _ below meth c Z a0 h hw a b kc N vs z g S T K
set_option maxRecDepth 65536 in
theorem len_b (p : Program) (l : Launch) (e : Env) (s : State) (m : MethodId) (args : Array Value) (below : List Frame) (meth : Method) (c : Code) (Z : State) (a0 : Array Value) (h : Heap) (hw : ∀ d ∈ tables_1, d.before a0 Z = true) (a b : Addr) (kc : ClassId) (N : Int32) (vs : List Value) (z : Int32) (g : Value) (S : own_S Z h a b kc N vs) (T : own_T Z h z g) (K : own_C p s m meth c Z jdk_42_method_54_code "java/lang/String" (some .int) 1) :
    own_E p l e { frames := 1, cells := 0, slots := 0, locals := 13 } s m args below meth c h [] 0 0 0 #[.val (.ref a)] [] (own_P s below h (some (.int N))) := by
  refine own_aloadN K (pc := 0) d12_0 rfl rfl ?_
  refine own_getF K (pc := 1) (hw _ (List.mem_of_getElem? (i := 28) rfl)) S.2.2.1 d12_1 ?_
  refine own_alen K (pc := 4) S.2.2.2 d12_4 ?_
  refine own_aloadN K (pc := 5) d12_5 rfl rfl ?_
  refine own_callV K (pc := 6) (W := 1) (rest := [(.int N)]) (argsL := []) (u := (.int (0 : Int32))) rfl rfl (cod l Z a0 h hw a b kc N vs z g S T) S.1 (hw _ (List.mem_of_getElem? (i := 58) rfl)) (hw _ (List.mem_of_getElem? (i := 59) rfl)) (hw _ (List.mem_of_getElem? (i := 61) rfl)) (hw _ (List.mem_of_getElem? (i := 60) rfl)) (hw _ (List.mem_of_getElem? (i := 62) rfl)) (hw _ (List.mem_of_getElem? (i := 10) rfl)) (by decide) d12_6 pd_13 rfl rfl rfl (Nat.le_of_eq rfl) (by decide) (by decide) (Nat.zero_le _) (Nat.zero_le _) ?_
  refine own_ishr K (pc := 9) d12_9 ?_
  rw [own_sh0]
  exact own_retI K (pc := 10) d12_10 rfl
theorem len (l : Launch) (Z : State) (a0 : Array Value) (h : Heap) (hw : ∀ d ∈ tables_1, d.before a0 Z = true) (a b : Addr) (kc : ClassId) (N : Int32) (vs : List Value) (z : Int32) (g : Value) (S : own_S Z h a b kc N vs) (T : own_T Z h z g) : own_M l (⟨"java/lang/String", "length", "()I"⟩ : MethodName) jdk_42_method_54_code 1 (some .int) [] { frames := 1, cells := 0, slots := 0, locals := 13 } Z h #[(.ref a)] (some (.int N)) := by
  refine own_met (by decide +kernel) rfl rfl (Ls := #[.val (.ref a)]) (fun m => by first | (simp [entryFrame, mkF, argsToLocals, Value.category]; done) | rfl | (rcases ref_cases hg with rfl | ⟨y, rfl⟩ <;> first | (simp [entryFrame, mkF, argsToLocals, Value.category]; done) | rfl)) ?_
  intro p e s m below meth c K
  exact len_b p l e s m _ below meth c Z a0 h hw a b kc N vs z g S T K
set_option maxRecDepth 65536 in
theorem isn_b (p : Program) (l : Launch) (e : Env) (s : State) (m : MethodId) (args : Array Value) (below : List Frame) (meth : Method) (c : Code) (Z : State) (a0 : Array Value) (h : Heap) (hw : ∀ d ∈ tables_1, d.before a0 Z = true) (a b : Addr) (kc : ClassId) (N : Int32) (vs : List Value) (z : Int32) (g : Value) (S : own_S Z h a b kc N vs) (T : own_T Z h z g) (q : ¬ N = 0) (K : own_C p s m meth c Z jdk_42_method_55_code "java/lang/String" (some .boolean) 1) :
    own_E p l e { frames := 0, cells := 0, slots := 0, locals := 0 } s m args below meth c h [] 0 0 0 #[.val (.ref a)] [] (own_P s below h (some (.int (0 : Int32)))) := by
  refine own_aloadN K (pc := 0) d7_0 rfl rfl ?_
  refine own_getF K (pc := 1) (hw _ (List.mem_of_getElem? (i := 28) rfl)) S.2.2.1 d7_1 ?_
  refine own_alen K (pc := 4) S.2.2.2 d7_4 ?_
  refine own_ifY K (pc := 5) (pc' := 12) d7_5 (by rw [if0]; exact (feq q).2) (by decide) (by decide) ?_
  refine own_iconst K (pc := 12) d7_12 (x := (0 : Int32)) (by decide) ?_
  exact own_retZ K (pc := 13) d7_13 (by decide)
theorem isn (l : Launch) (Z : State) (a0 : Array Value) (h : Heap) (hw : ∀ d ∈ tables_1, d.before a0 Z = true) (a b : Addr) (kc : ClassId) (N : Int32) (vs : List Value) (z : Int32) (g : Value) (S : own_S Z h a b kc N vs) (T : own_T Z h z g) (q : ¬ N = 0) : own_M l (⟨"java/lang/String", "isEmpty", "()Z"⟩ : MethodName) jdk_42_method_55_code 1 (some .boolean) [] { frames := 0, cells := 0, slots := 0, locals := 0 } Z h #[(.ref a)] (some (.int (0 : Int32))) := by
  refine own_met (by decide +kernel) rfl rfl (Ls := #[.val (.ref a)]) (fun m => by first | (simp [entryFrame, mkF, argsToLocals, Value.category]; done) | rfl | (rcases ref_cases hg with rfl | ⟨y, rfl⟩ <;> first | (simp [entryFrame, mkF, argsToLocals, Value.category]; done) | rfl)) ?_
  intro p e s m below meth c K
  exact isn_b p l e s m _ below meth c Z a0 h hw a b kc N vs z g S T q K
set_option maxRecDepth 65536 in
theorem ise_b (p : Program) (l : Launch) (e : Env) (s : State) (m : MethodId) (args : Array Value) (below : List Frame) (meth : Method) (c : Code) (Z : State) (a0 : Array Value) (h : Heap) (hw : ∀ d ∈ tables_1, d.before a0 Z = true) (a b : Addr) (kc : ClassId) (vs : List Value) (z : Int32) (g : Value) (S : own_S Z h a b kc 0 vs) (T : own_T Z h z g) (K : own_C p s m meth c Z jdk_42_method_55_code "java/lang/String" (some .boolean) 1) :
    own_E p l e { frames := 0, cells := 0, slots := 0, locals := 0 } s m args below meth c h [] 0 0 0 #[.val (.ref a)] [] (own_P s below h (some (.int (1 : Int32)))) := by
  refine own_aloadN K (pc := 0) d7_0 rfl rfl ?_
  refine own_getF K (pc := 1) (hw _ (List.mem_of_getElem? (i := 28) rfl)) S.2.2.1 d7_1 ?_
  refine own_alen K (pc := 4) S.2.2.2 d7_4 ?_
  refine own_ifN K (pc := 5) d7_5 (by decide) ?_
  refine own_iconst K (pc := 8) d7_8 (x := (1 : Int32)) (by decide) ?_
  refine own_goto K (pc := 9) (pc' := 13) d7_9 (by decide) (by decide) ?_
  exact own_retZ K (pc := 13) d7_13 (by decide)
theorem ise (l : Launch) (Z : State) (a0 : Array Value) (h : Heap) (hw : ∀ d ∈ tables_1, d.before a0 Z = true) (a b : Addr) (kc : ClassId) (vs : List Value) (z : Int32) (g : Value) (S : own_S Z h a b kc 0 vs) (T : own_T Z h z g) : own_M l (⟨"java/lang/String", "isEmpty", "()Z"⟩ : MethodName) jdk_42_method_55_code 1 (some .boolean) [] { frames := 0, cells := 0, slots := 0, locals := 0 } Z h #[(.ref a)] (some (.int (1 : Int32))) := by
  refine own_met (by decide +kernel) rfl rfl (Ls := #[.val (.ref a)]) (fun m => by first | (simp [entryFrame, mkF, argsToLocals, Value.category]; done) | rfl | (rcases ref_cases hg with rfl | ⟨y, rfl⟩ <;> first | (simp [entryFrame, mkF, argsToLocals, Value.category]; done) | rfl)) ?_
  intro p e s m below meth c K
  exact ise_b p l e s m _ below meth c Z a0 h hw a b kc vs z g S T K
set_option maxRecDepth 65536 in
theorem pci_b (p : Program) (l : Launch) (e : Env) (s : State) (m : MethodId) (args : Array Value) (below : List Frame) (meth : Method) (c : Code) (Z : State) (a0 : Array Value) (h : Heap) (hw : ∀ d ∈ tables_1, d.before a0 Z = true) (i N : Int32) (h1 : ¬ i < 0) (h2 : i < N) (g : Value) (hg : g.isRef = true) (K : own_C p s m meth c Z jdk_41_method_11_code "jdk/internal/util/Preconditions" (some .int) 3) :
    own_E p l e { frames := 0, cells := 0, slots := 0, locals := 0 } s m args below meth c h [] 0 0 0 #[.val (.int i), .val (.int N), .val g] [] (own_P s below h (some (.int i))) := by
  refine own_iloadN K (pc := 0) d18_0 rfl ?_
  refine own_ifN K (pc := 1) d18_1 (by rw [if0]; exact (flt h1).1) ?_
  refine own_iloadN K (pc := 4) d18_4 rfl ?_
  refine own_iloadN K (pc := 5) d18_5 rfl ?_
  refine own_icmpY K (pc := 6) (pc' := 16) d18_6 (tlt h2).1 (by decide) (by decide) ?_
  refine own_iloadN K (pc := 16) d18_16 rfl ?_
  exact own_retI K (pc := 17) d18_17 rfl
theorem pci (l : Launch) (Z : State) (a0 : Array Value) (h : Heap) (hw : ∀ d ∈ tables_1, d.before a0 Z = true) (i N : Int32) (h1 : ¬ i < 0) (h2 : i < N) (g : Value) (hg : g.isRef = true) : own_M l (⟨"jdk/internal/util/Preconditions", "checkIndex", "(IILjava/util/function/BiFunction;)I"⟩ : MethodName) jdk_41_method_11_code 3 (some .int) [] { frames := 0, cells := 0, slots := 0, locals := 0 } Z h #[(.int i), (.int N), g] (some (.int i)) := by
  refine own_met (by decide +kernel) rfl rfl (Ls := #[.val (.int i), .val (.int N), .val g]) (fun m => by first | (simp [entryFrame, mkF, argsToLocals, Value.category]; done) | rfl | (rcases ref_cases hg with rfl | ⟨y, rfl⟩ <;> first | (simp [entryFrame, mkF, argsToLocals, Value.category]; done) | rfl)) ?_
  intro p e s m below meth c K
  exact pci_b p l e s m _ below meth c Z a0 h hw i N h1 h2 g hg K
set_option maxRecDepth 65536 in
theorem sci_b (p : Program) (l : Launch) (e : Env) (s : State) (m : MethodId) (args : Array Value) (below : List Frame) (meth : Method) (c : Code) (Z : State) (a0 : Array Value) (h : Heap) (hw : ∀ d ∈ tables_1, d.before a0 Z = true) (i N : Int32) (h1 : ¬ i < 0) (h2 : i < N) (z : Int32) (g : Value) (T : own_T Z h z g) (K : own_C p s m meth c Z jdk_42_method_155_code "java/lang/String" none 2) :
    own_E p l e { frames := 1, cells := 0, slots := 0, locals := 14 } s m args below meth c h [] 0 0 0 #[.val (.int i), .val (.int N)] [] (own_P s below h none) := by
  refine own_iloadN K (pc := 0) d17_0 rfl ?_
  refine own_iloadN K (pc := 1) d17_1 rfl ?_
  refine own_getS K (pc := 2) (hw _ (List.mem_of_getElem? (i := 80) rfl)) T.2.2.1 d17_2 ?_
  refine own_callS K (pc := 5) (W := 0) (rest := []) (argsL := [(.int i), (.int N), g]) (u := (.int i)) rfl rfl (pci l Z a0 h hw i N h1 h2 g T.2.2.2) (hw _ (List.mem_of_getElem? (i := 82) rfl)) (hw _ (List.mem_of_getElem? (i := 83) rfl)) (hw _ (List.mem_of_getElem? (i := 81) rfl)) (hw _ (List.mem_of_getElem? (i := 84) rfl)) (by decide) d17_5 pd_18 rfl rfl rfl (Nat.le_of_eq rfl) (by decide) (by decide) (Nat.zero_le _) (Nat.zero_le _) ?_
  refine own_pop K (pc := 8) d17_8 rfl ?_
  exact own_retV K (pc := 9) d17_9
theorem sci (l : Launch) (Z : State) (a0 : Array Value) (h : Heap) (hw : ∀ d ∈ tables_1, d.before a0 Z = true) (i N : Int32) (h1 : ¬ i < 0) (h2 : i < N) (z : Int32) (g : Value) (T : own_T Z h z g) : own_M l (⟨"java/lang/String", "checkIndex", "(II)V"⟩ : MethodName) jdk_42_method_155_code 2 none [] { frames := 1, cells := 0, slots := 0, locals := 14 } Z h #[(.int i), (.int N)] none := by
  refine own_met (by decide +kernel) rfl rfl (Ls := #[.val (.int i), .val (.int N)]) (fun m => by first | (simp [entryFrame, mkF, argsToLocals, Value.category]; done) | rfl | (rcases ref_cases hg with rfl | ⟨y, rfl⟩ <;> first | (simp [entryFrame, mkF, argsToLocals, Value.category]; done) | rfl)) ?_
  intro p e s m below meth c K
  exact sci_b p l e s m _ below meth c Z a0 h hw i N h1 h2 z g T K
set_option maxRecDepth 65536 in
theorem lca_b (p : Program) (l : Launch) (e : Env) (s : State) (m : MethodId) (args : Array Value) (below : List Frame) (meth : Method) (c : Code) (Z : State) (a0 : Array Value) (h : Heap) (hw : ∀ d ∈ tables_1, d.before a0 Z = true) (a b : Addr) (kc : ClassId) (N : Int32) (vs : List Value) (z : Int32) (g : Value) (S : own_S Z h a b kc N vs) (T : own_T Z h z g) (i ch : Int32) (h1 : ¬ i < 0) (h2 : i < N) (hv : vs.getD i.toNatClampNeg (.int 0) = .int ch.toInt8.toInt32) (c1 : ¬ ch < 0) (c2 : ¬ 255 < ch) (K : own_C p s m meth c Z jdk_43_method_2_code "java/lang/StringLatin1" (some .char) 2) :
    own_E p l e { frames := 2, cells := 0, slots := 0, locals := 27 } s m args below meth c h [] 0 0 0 #[.val (.ref b), .val (.int i)] [] (own_P s below h (some (.int ch))) := by
  refine own_iloadN K (pc := 0) d16_0 rfl ?_
  refine own_aloadN K (pc := 1) d16_1 rfl rfl ?_
  refine own_alen K (pc := 2) S.2.2.2 d16_2 ?_
  refine own_callSv K (pc := 3) (W := 0) (rest := []) (argsL := [(.int i), (.int N)]) rfl rfl (sci l Z a0 h hw i N h1 h2 z g T) (hw _ (List.mem_of_getElem? (i := 77) rfl)) (hw _ (List.mem_of_getElem? (i := 78) rfl)) (hw _ (List.mem_of_getElem? (i := 10) rfl)) (hw _ (List.mem_of_getElem? (i := 79) rfl)) (by decide) d16_3 pd_17 rfl rfl rfl (Nat.le_of_eq rfl) (by decide) (by decide) (Nat.zero_le _) (Nat.zero_le _) ?_
  refine own_aloadN K (pc := 6) d16_6 rfl rfl ?_
  refine own_iloadN K (pc := 7) d16_7 rfl ?_
  refine own_bald K (pc := 8) S.2.2.2 h1 h2 hv d16_8 ?_
  refine own_sipush K (pc := 9) d16_9 (x := (255 : Int32)) (by decide) ?_
  refine own_iand K (pc := 12) d16_12 ?_
  rw [own_lo8 c1 c2]
  refine own_i2c K (pc := 13) d16_13 ?_
  rw [own_c16 c1 c2]
  exact own_retC K (pc := 14) d16_14 (own_c16 c1 c2)
theorem lca (l : Launch) (Z : State) (a0 : Array Value) (h : Heap) (hw : ∀ d ∈ tables_1, d.before a0 Z = true) (a b : Addr) (kc : ClassId) (N : Int32) (vs : List Value) (z : Int32) (g : Value) (S : own_S Z h a b kc N vs) (T : own_T Z h z g) (i ch : Int32) (h1 : ¬ i < 0) (h2 : i < N) (hv : vs.getD i.toNatClampNeg (.int 0) = .int ch.toInt8.toInt32) (c1 : ¬ ch < 0) (c2 : ¬ 255 < ch) : own_M l (⟨"java/lang/StringLatin1", "charAt", "([BI)C"⟩ : MethodName) jdk_43_method_2_code 2 (some .char) [] { frames := 2, cells := 0, slots := 0, locals := 27 } Z h #[(.ref b), (.int i)] (some (.int ch)) := by
  refine own_met (by decide +kernel) rfl rfl (Ls := #[.val (.ref b), .val (.int i)]) (fun m => by first | (simp [entryFrame, mkF, argsToLocals, Value.category]; done) | rfl | (rcases ref_cases hg with rfl | ⟨y, rfl⟩ <;> first | (simp [entryFrame, mkF, argsToLocals, Value.category]; done) | rfl)) ?_
  intro p e s m below meth c K
  exact lca_b p l e s m _ below meth c Z a0 h hw a b kc N vs z g S T i ch h1 h2 hv c1 c2 K
set_option maxRecDepth 65536 in
theorem cha_b (p : Program) (l : Launch) (e : Env) (s : State) (m : MethodId) (args : Array Value) (below : List Frame) (meth : Method) (c : Code) (Z : State) (a0 : Array Value) (h : Heap) (hw : ∀ d ∈ tables_1, d.before a0 Z = true) (a b : Addr) (kc : ClassId) (N : Int32) (vs : List Value) (z : Int32) (g : Value) (S : own_S Z h a b kc N vs) (T : own_T Z h z g) (i ch : Int32) (h1 : ¬ i < 0) (h2 : i < N) (hv : vs.getD i.toNatClampNeg (.int 0) = .int ch.toInt8.toInt32) (c1 : ¬ ch < 0) (c2 : ¬ 255 < ch) (K : own_C p s m meth c Z jdk_42_method_56_code "java/lang/String" (some .char) 2) :
    own_E p l e { frames := 3, cells := 0, slots := 0, locals := 40 } s m args below meth c h [] 0 0 0 #[.val (.ref a), .val (.int i)] [] (own_P s below h (some (.int ch))) := by
  refine own_aloadN K (pc := 0) d14_0 rfl rfl ?_
  refine own_callV K (pc := 1) (W := 0) (rest := []) (argsL := []) (u := (.int (1 : Int32))) rfl rfl (lat l Z a0 h hw a b kc N vs z g S T) S.1 (hw _ (List.mem_of_getElem? (i := 68) rfl)) (hw _ (List.mem_of_getElem? (i := 69) rfl)) (hw _ (List.mem_of_getElem? (i := 71) rfl)) (hw _ (List.mem_of_getElem? (i := 70) rfl)) (hw _ (List.mem_of_getElem? (i := 72) rfl)) (hw _ (List.mem_of_getElem? (i := 10) rfl)) (by decide) d14_1 pd_15 rfl rfl rfl (Nat.le_of_eq rfl) (by decide) (by decide) (Nat.zero_le _) (Nat.zero_le _) ?_
  refine own_ifN K (pc := 4) d14_4 (by decide) ?_
  refine own_aloadN K (pc := 7) d14_7 rfl rfl ?_
  refine own_getF K (pc := 8) (hw _ (List.mem_of_getElem? (i := 28) rfl)) S.2.2.1 d14_8 ?_
  refine own_iloadN K (pc := 11) d14_11 rfl ?_
  refine own_callS K (pc := 12) (W := 0) (rest := []) (argsL := [(.ref b), (.int i)]) (u := (.int ch)) rfl rfl (lca l Z a0 h hw a b kc N vs z g S T i ch h1 h2 hv c1 c2) (hw _ (List.mem_of_getElem? (i := 73) rfl)) (hw _ (List.mem_of_getElem? (i := 74) rfl)) (hw _ (List.mem_of_getElem? (i := 75) rfl)) (hw _ (List.mem_of_getElem? (i := 76) rfl)) (by decide) d14_12 pd_16 rfl rfl rfl (Nat.le_of_eq rfl) (by decide) (by decide) (Nat.zero_le _) (Nat.zero_le _) ?_
  exact own_retC K (pc := 15) d14_15 (own_c16 c1 c2)
theorem cha (l : Launch) (Z : State) (a0 : Array Value) (h : Heap) (hw : ∀ d ∈ tables_1, d.before a0 Z = true) (a b : Addr) (kc : ClassId) (N : Int32) (vs : List Value) (z : Int32) (g : Value) (S : own_S Z h a b kc N vs) (T : own_T Z h z g) (i ch : Int32) (h1 : ¬ i < 0) (h2 : i < N) (hv : vs.getD i.toNatClampNeg (.int 0) = .int ch.toInt8.toInt32) (c1 : ¬ ch < 0) (c2 : ¬ 255 < ch) : own_M l (⟨"java/lang/String", "charAt", "(I)C"⟩ : MethodName) jdk_42_method_56_code 2 (some .char) [] { frames := 3, cells := 0, slots := 0, locals := 40 } Z h #[(.ref a), (.int i)] (some (.int ch)) := by
  refine own_met (by decide +kernel) rfl rfl (Ls := #[.val (.ref a), .val (.int i)]) (fun m => by first | (simp [entryFrame, mkF, argsToLocals, Value.category]; done) | rfl | (rcases ref_cases hg with rfl | ⟨y, rfl⟩ <;> first | (simp [entryFrame, mkF, argsToLocals, Value.category]; done) | rfl)) ?_
  intro p e s m below meth c K
  exact cha_b p l e s m _ below meth c Z a0 h hw a b kc N vs z g S T i ch h1 h2 hv c1 c2 K
def own_sym : List Value := [.int 33, .int 35, .int 36, .int 37, .int 38, .int 39, .int 42, .int 43, .int 45, .int 46, .int 94, .int 95, .int 96, .int 124, .int 126]
def ix_15 (x : Int32) : Int32 := -1
def ix_14 (x : Int32) : Int32 := if (126 : Int32) = x then 14 else ix_15 x
def ix_13 (x : Int32) : Int32 := if (124 : Int32) = x then 13 else ix_14 x
def ix_12 (x : Int32) : Int32 := if (96 : Int32) = x then 12 else ix_13 x
def ix_11 (x : Int32) : Int32 := if (95 : Int32) = x then 11 else ix_12 x
def ix_10 (x : Int32) : Int32 := if (94 : Int32) = x then 10 else ix_11 x
def ix_9 (x : Int32) : Int32 := if (46 : Int32) = x then 9 else ix_10 x
def ix_8 (x : Int32) : Int32 := if (45 : Int32) = x then 8 else ix_9 x
def ix_7 (x : Int32) : Int32 := if (43 : Int32) = x then 7 else ix_8 x
def ix_6 (x : Int32) : Int32 := if (42 : Int32) = x then 6 else ix_7 x
def ix_5 (x : Int32) : Int32 := if (39 : Int32) = x then 5 else ix_6 x
def ix_4 (x : Int32) : Int32 := if (38 : Int32) = x then 4 else ix_5 x
def ix_3 (x : Int32) : Int32 := if (37 : Int32) = x then 3 else ix_4 x
def ix_2 (x : Int32) : Int32 := if (36 : Int32) = x then 2 else ix_3 x
def ix_1 (x : Int32) : Int32 := if (35 : Int32) = x then 1 else ix_2 x
def ix_0 (x : Int32) : Int32 := if (33 : Int32) = x then 0 else ix_1 x
set_option maxRecDepth 65536 in
theorem can_b (p : Program) (l : Launch) (e : Env) (s : State) (m : MethodId) (args : Array Value) (below : List Frame) (meth : Method) (c : Code) (Z : State) (a0 : Array Value) (h : Heap) (hw : ∀ d ∈ tables_1, d.before a0 Z = true) (ch : Int32) (c1 : ¬ ch < 0) (c2 : ¬ 255 < ch) (K : own_C p s m meth c Z jdk_43_method_4_code "java/lang/StringLatin1" (some .boolean) 1) :
    own_E p l e { frames := 0, cells := 0, slots := 0, locals := 0 } s m args below meth c h [] 0 0 0 #[.val (.int ch)] [] (own_P s below h (some (.int (1 : Int32)))) := by
  refine own_iloadN K (pc := 0) d22_0 rfl ?_
  refine own_ifN K (pc := 1) d22_1 (by rw [if0]; exact (flt c1).1) ?_
  refine own_iloadN K (pc := 4) d22_4 rfl ?_
  refine own_sipush K (pc := 5) d22_5 (x := (255 : Int32)) (by decide) ?_
  refine own_icmpN K (pc := 8) d22_8 (flt c2).2.2.1 ?_
  refine own_iconst K (pc := 11) d22_11 (x := (1 : Int32)) (by decide) ?_
  refine own_goto K (pc := 12) (pc' := 16) d22_12 (by decide) (by decide) ?_
  exact own_retZ K (pc := 16) d22_16 (by decide)
theorem can (l : Launch) (Z : State) (a0 : Array Value) (h : Heap) (hw : ∀ d ∈ tables_1, d.before a0 Z = true) (ch : Int32) (c1 : ¬ ch < 0) (c2 : ¬ 255 < ch) : own_M l (⟨"java/lang/StringLatin1", "canEncode", "(I)Z"⟩ : MethodName) jdk_43_method_4_code 1 (some .boolean) [] { frames := 0, cells := 0, slots := 0, locals := 0 } Z h #[(.int ch)] (some (.int (1 : Int32))) := by
  refine own_met (by decide +kernel) rfl rfl (Ls := #[.val (.int ch)]) (fun m => by first | (simp [entryFrame, mkF, argsToLocals, Value.category]; done) | rfl | (rcases ref_cases hg with rfl | ⟨y, rfl⟩ <;> first | (simp [entryFrame, mkF, argsToLocals, Value.category]; done) | rfl)) ?_
  intro p e s m below meth c K
  exact can_b p l e s m _ below meth c Z a0 h hw ch c1 c2 K
set_option maxRecDepth 65536 in
theorem max_b (p : Program) (l : Launch) (e : Env) (s : State) (m : MethodId) (args : Array Value) (below : List Frame) (meth : Method) (c : Code) (Z : State) (a0 : Array Value) (h : Heap) (hw : ∀ d ∈ tables_1, d.before a0 Z = true) (K : own_C p s m meth c Z jdk_29_method_65_code "java/lang/Math" (some .int) 2) :
    own_E p l e { frames := 0, cells := 0, slots := 0, locals := 0 } s m args below meth c h [] 0 0 0 #[.val (.int (0 : Int32)), .val (.int (0 : Int32))] [] (own_P s below h (some (.int (0 : Int32)))) := by
  refine own_iloadN K (pc := 0) d23_0 rfl ?_
  refine own_iloadN K (pc := 1) d23_1 rfl ?_
  refine own_icmpN K (pc := 2) d23_2 (by decide) ?_
  refine own_iloadN K (pc := 5) d23_5 rfl ?_
  refine own_goto K (pc := 6) (pc' := 10) d23_6 (by decide) (by decide) ?_
  exact own_retI K (pc := 10) d23_10 rfl
theorem max (l : Launch) (Z : State) (a0 : Array Value) (h : Heap) (hw : ∀ d ∈ tables_1, d.before a0 Z = true) : own_M l (⟨"java/lang/Math", "max", "(II)I"⟩ : MethodName) jdk_29_method_65_code 2 (some .int) [] { frames := 0, cells := 0, slots := 0, locals := 0 } Z h #[(.int (0 : Int32)), (.int (0 : Int32))] (some (.int (0 : Int32))) := by
  refine own_met (by decide +kernel) rfl rfl (Ls := #[.val (.int (0 : Int32)), .val (.int (0 : Int32))]) (fun m => by first | (simp [entryFrame, mkF, argsToLocals, Value.category]; done) | rfl | (rcases ref_cases hg with rfl | ⟨y, rfl⟩ <;> first | (simp [entryFrame, mkF, argsToLocals, Value.category]; done) | rfl)) ?_
  intro p e s m below meth c K
  exact max_b p l e s m _ below meth c Z a0 h hw  K
set_option maxRecDepth 65536 in
theorem min_b (p : Program) (l : Launch) (e : Env) (s : State) (m : MethodId) (args : Array Value) (below : List Frame) (meth : Method) (c : Code) (Z : State) (a0 : Array Value) (h : Heap) (hw : ∀ d ∈ tables_1, d.before a0 Z = true) (K : own_C p s m meth c Z jdk_29_method_69_code "java/lang/Math" (some .int) 2) :
    own_E p l e { frames := 0, cells := 0, slots := 0, locals := 0 } s m args below meth c h [] 0 0 0 #[.val (.int (15 : Int32)), .val (.int (15 : Int32))] [] (own_P s below h (some (.int (15 : Int32)))) := by
  refine own_iloadN K (pc := 0) d24_0 rfl ?_
  refine own_iloadN K (pc := 1) d24_1 rfl ?_
  refine own_icmpN K (pc := 2) d24_2 (by decide) ?_
  refine own_iloadN K (pc := 5) d24_5 rfl ?_
  refine own_goto K (pc := 6) (pc' := 10) d24_6 (by decide) (by decide) ?_
  exact own_retI K (pc := 10) d24_10 rfl
theorem min (l : Launch) (Z : State) (a0 : Array Value) (h : Heap) (hw : ∀ d ∈ tables_1, d.before a0 Z = true) : own_M l (⟨"java/lang/Math", "min", "(II)I"⟩ : MethodName) jdk_29_method_69_code 2 (some .int) [] { frames := 0, cells := 0, slots := 0, locals := 0 } Z h #[(.int (15 : Int32)), (.int (15 : Int32))] (some (.int (15 : Int32))) := by
  refine own_met (by decide +kernel) rfl rfl (Ls := #[.val (.int (15 : Int32)), .val (.int (15 : Int32))]) (fun m => by first | (simp [entryFrame, mkF, argsToLocals, Value.category]; done) | rfl | (rcases ref_cases hg with rfl | ⟨y, rfl⟩ <;> first | (simp [entryFrame, mkF, argsToLocals, Value.category]; done) | rfl)) ?_
  intro p e s m below meth c K
  exact min_b p l e s m _ below meth c Z a0 h hw  K
set_option maxRecDepth 65536 in
theorem ic_15 (p : Program) (l : Launch) (e : Env) (s : State) (m : MethodId) (args : Array Value) (below : List Frame) (meth : Method) (c : Code) (Z : State) (a0 : Array Value) (h : Heap) (R : Room) (hw : ∀ d ∈ tables_1, d.before a0 Z = true) (a b : Addr) (kc : ClassId) (z : Int32) (g : Value) (S : own_S Z h a b kc 15 own_sym) (T : own_T Z h z g) (ch x : Int32) (K : own_C p s m meth c Z jdk_43_method_23_code "java/lang/StringLatin1" (some .int) 6) :
    own_E p l e R s m args below meth c h [] 0 0 7 #[.val (.ref b), .val (.int ch), .val (.int (0 : Int32)), .val (.int (15 : Int32)), .val (.int x), .val (.int (15 : Int32))] [] (own_P s below h (some (.int (ix_15 x)))) := by
  refine own_iload K (pc := 7) d25_7 rfl ?_
  refine own_iloadN K (pc := 9) d25_9 rfl ?_
  refine own_icmpY K (pc := 10) (pc' := 31) d25_10 (by decide) (by decide) (by decide) ?_
  refine own_iconst K (pc := 31) d25_31 (x := (-1 : Int32)) (by decide) ?_
  exact own_retI K (pc := 32) d25_32 rfl
set_option maxRecDepth 65536 in
theorem ic_14 (p : Program) (l : Launch) (e : Env) (s : State) (m : MethodId) (args : Array Value) (below : List Frame) (meth : Method) (c : Code) (Z : State) (a0 : Array Value) (h : Heap) (R : Room) (hw : ∀ d ∈ tables_1, d.before a0 Z = true) (a b : Addr) (kc : ClassId) (z : Int32) (g : Value) (S : own_S Z h a b kc 15 own_sym) (T : own_T Z h z g) (ch x : Int32) (K : own_C p s m meth c Z jdk_43_method_23_code "java/lang/StringLatin1" (some .int) 6) :
    own_E p l e R s m args below meth c h [] 0 0 7 #[.val (.ref b), .val (.int ch), .val (.int (0 : Int32)), .val (.int (15 : Int32)), .val (.int x), .val (.int (14 : Int32))] [] (own_P s below h (some (.int (ix_14 x)))) := by
  by_cases q : (126 : Int32) = x
  · refine own_iload K (pc := 7) d25_7 rfl ?_
    refine own_iloadN K (pc := 9) d25_9 rfl ?_
    refine own_icmpN K (pc := 10) d25_10 (by decide) ?_
    refine own_aloadN K (pc := 13) d25_13 rfl rfl ?_
    refine own_iload K (pc := 14) d25_14 rfl ?_
    refine own_bald K (pc := 16) S.2.2.2 (by decide) (by decide) rfl d25_16 ?_
    refine own_iload K (pc := 17) d25_17 rfl ?_
    refine own_icmpN K (pc := 19) d25_19 (teq q).2 ?_
    refine own_iload K (pc := 22) d25_22 rfl ?_
    exact own_retI K (pc := 24) d25_24 (if_pos q).symm
  · rw [show ix_14 x = ix_15 x from if_neg q]
    refine own_iload K (pc := 7) d25_7 rfl ?_
    refine own_iloadN K (pc := 9) d25_9 rfl ?_
    refine own_icmpN K (pc := 10) d25_10 (by decide) ?_
    refine own_aloadN K (pc := 13) d25_13 rfl rfl ?_
    refine own_iload K (pc := 14) d25_14 rfl ?_
    refine own_bald K (pc := 16) S.2.2.2 (by decide) (by decide) rfl d25_16 ?_
    refine own_iload K (pc := 17) d25_17 rfl ?_
    refine own_icmpY K (pc := 19) (pc' := 25) d25_19 (feq q).2 (by decide) (by decide) ?_
    refine own_iinc K (pc := 25) (Ls' := #[.val (.ref b), .val (.int ch), .val (.int (0 : Int32)), .val (.int (15 : Int32)), .val (.int x), .val (.int (15 : Int32))]) d25_25 rfl rfl ?_
    refine own_goto K (pc := 28) (pc' := 7) d25_28 (by decide) (by decide) ?_
    exact ic_15 p l e s m args below meth c Z a0 h R hw a b kc z g S T ch x K
set_option maxRecDepth 65536 in
theorem ic_13 (p : Program) (l : Launch) (e : Env) (s : State) (m : MethodId) (args : Array Value) (below : List Frame) (meth : Method) (c : Code) (Z : State) (a0 : Array Value) (h : Heap) (R : Room) (hw : ∀ d ∈ tables_1, d.before a0 Z = true) (a b : Addr) (kc : ClassId) (z : Int32) (g : Value) (S : own_S Z h a b kc 15 own_sym) (T : own_T Z h z g) (ch x : Int32) (K : own_C p s m meth c Z jdk_43_method_23_code "java/lang/StringLatin1" (some .int) 6) :
    own_E p l e R s m args below meth c h [] 0 0 7 #[.val (.ref b), .val (.int ch), .val (.int (0 : Int32)), .val (.int (15 : Int32)), .val (.int x), .val (.int (13 : Int32))] [] (own_P s below h (some (.int (ix_13 x)))) := by
  by_cases q : (124 : Int32) = x
  · refine own_iload K (pc := 7) d25_7 rfl ?_
    refine own_iloadN K (pc := 9) d25_9 rfl ?_
    refine own_icmpN K (pc := 10) d25_10 (by decide) ?_
    refine own_aloadN K (pc := 13) d25_13 rfl rfl ?_
    refine own_iload K (pc := 14) d25_14 rfl ?_
    refine own_bald K (pc := 16) S.2.2.2 (by decide) (by decide) rfl d25_16 ?_
    refine own_iload K (pc := 17) d25_17 rfl ?_
    refine own_icmpN K (pc := 19) d25_19 (teq q).2 ?_
    refine own_iload K (pc := 22) d25_22 rfl ?_
    exact own_retI K (pc := 24) d25_24 (if_pos q).symm
  · rw [show ix_13 x = ix_14 x from if_neg q]
    refine own_iload K (pc := 7) d25_7 rfl ?_
    refine own_iloadN K (pc := 9) d25_9 rfl ?_
    refine own_icmpN K (pc := 10) d25_10 (by decide) ?_
    refine own_aloadN K (pc := 13) d25_13 rfl rfl ?_
    refine own_iload K (pc := 14) d25_14 rfl ?_
    refine own_bald K (pc := 16) S.2.2.2 (by decide) (by decide) rfl d25_16 ?_
    refine own_iload K (pc := 17) d25_17 rfl ?_
    refine own_icmpY K (pc := 19) (pc' := 25) d25_19 (feq q).2 (by decide) (by decide) ?_
    refine own_iinc K (pc := 25) (Ls' := #[.val (.ref b), .val (.int ch), .val (.int (0 : Int32)), .val (.int (15 : Int32)), .val (.int x), .val (.int (14 : Int32))]) d25_25 rfl rfl ?_
    refine own_goto K (pc := 28) (pc' := 7) d25_28 (by decide) (by decide) ?_
    exact ic_14 p l e s m args below meth c Z a0 h R hw a b kc z g S T ch x K
set_option maxRecDepth 65536 in
theorem ic_12 (p : Program) (l : Launch) (e : Env) (s : State) (m : MethodId) (args : Array Value) (below : List Frame) (meth : Method) (c : Code) (Z : State) (a0 : Array Value) (h : Heap) (R : Room) (hw : ∀ d ∈ tables_1, d.before a0 Z = true) (a b : Addr) (kc : ClassId) (z : Int32) (g : Value) (S : own_S Z h a b kc 15 own_sym) (T : own_T Z h z g) (ch x : Int32) (K : own_C p s m meth c Z jdk_43_method_23_code "java/lang/StringLatin1" (some .int) 6) :
    own_E p l e R s m args below meth c h [] 0 0 7 #[.val (.ref b), .val (.int ch), .val (.int (0 : Int32)), .val (.int (15 : Int32)), .val (.int x), .val (.int (12 : Int32))] [] (own_P s below h (some (.int (ix_12 x)))) := by
  by_cases q : (96 : Int32) = x
  · refine own_iload K (pc := 7) d25_7 rfl ?_
    refine own_iloadN K (pc := 9) d25_9 rfl ?_
    refine own_icmpN K (pc := 10) d25_10 (by decide) ?_
    refine own_aloadN K (pc := 13) d25_13 rfl rfl ?_
    refine own_iload K (pc := 14) d25_14 rfl ?_
    refine own_bald K (pc := 16) S.2.2.2 (by decide) (by decide) rfl d25_16 ?_
    refine own_iload K (pc := 17) d25_17 rfl ?_
    refine own_icmpN K (pc := 19) d25_19 (teq q).2 ?_
    refine own_iload K (pc := 22) d25_22 rfl ?_
    exact own_retI K (pc := 24) d25_24 (if_pos q).symm
  · rw [show ix_12 x = ix_13 x from if_neg q]
    refine own_iload K (pc := 7) d25_7 rfl ?_
    refine own_iloadN K (pc := 9) d25_9 rfl ?_
    refine own_icmpN K (pc := 10) d25_10 (by decide) ?_
    refine own_aloadN K (pc := 13) d25_13 rfl rfl ?_
    refine own_iload K (pc := 14) d25_14 rfl ?_
    refine own_bald K (pc := 16) S.2.2.2 (by decide) (by decide) rfl d25_16 ?_
    refine own_iload K (pc := 17) d25_17 rfl ?_
    refine own_icmpY K (pc := 19) (pc' := 25) d25_19 (feq q).2 (by decide) (by decide) ?_
    refine own_iinc K (pc := 25) (Ls' := #[.val (.ref b), .val (.int ch), .val (.int (0 : Int32)), .val (.int (15 : Int32)), .val (.int x), .val (.int (13 : Int32))]) d25_25 rfl rfl ?_
    refine own_goto K (pc := 28) (pc' := 7) d25_28 (by decide) (by decide) ?_
    exact ic_13 p l e s m args below meth c Z a0 h R hw a b kc z g S T ch x K
set_option maxRecDepth 65536 in
theorem ic_11 (p : Program) (l : Launch) (e : Env) (s : State) (m : MethodId) (args : Array Value) (below : List Frame) (meth : Method) (c : Code) (Z : State) (a0 : Array Value) (h : Heap) (R : Room) (hw : ∀ d ∈ tables_1, d.before a0 Z = true) (a b : Addr) (kc : ClassId) (z : Int32) (g : Value) (S : own_S Z h a b kc 15 own_sym) (T : own_T Z h z g) (ch x : Int32) (K : own_C p s m meth c Z jdk_43_method_23_code "java/lang/StringLatin1" (some .int) 6) :
    own_E p l e R s m args below meth c h [] 0 0 7 #[.val (.ref b), .val (.int ch), .val (.int (0 : Int32)), .val (.int (15 : Int32)), .val (.int x), .val (.int (11 : Int32))] [] (own_P s below h (some (.int (ix_11 x)))) := by
  by_cases q : (95 : Int32) = x
  · refine own_iload K (pc := 7) d25_7 rfl ?_
    refine own_iloadN K (pc := 9) d25_9 rfl ?_
    refine own_icmpN K (pc := 10) d25_10 (by decide) ?_
    refine own_aloadN K (pc := 13) d25_13 rfl rfl ?_
    refine own_iload K (pc := 14) d25_14 rfl ?_
    refine own_bald K (pc := 16) S.2.2.2 (by decide) (by decide) rfl d25_16 ?_
    refine own_iload K (pc := 17) d25_17 rfl ?_
    refine own_icmpN K (pc := 19) d25_19 (teq q).2 ?_
    refine own_iload K (pc := 22) d25_22 rfl ?_
    exact own_retI K (pc := 24) d25_24 (if_pos q).symm
  · rw [show ix_11 x = ix_12 x from if_neg q]
    refine own_iload K (pc := 7) d25_7 rfl ?_
    refine own_iloadN K (pc := 9) d25_9 rfl ?_
    refine own_icmpN K (pc := 10) d25_10 (by decide) ?_
    refine own_aloadN K (pc := 13) d25_13 rfl rfl ?_
    refine own_iload K (pc := 14) d25_14 rfl ?_
    refine own_bald K (pc := 16) S.2.2.2 (by decide) (by decide) rfl d25_16 ?_
    refine own_iload K (pc := 17) d25_17 rfl ?_
    refine own_icmpY K (pc := 19) (pc' := 25) d25_19 (feq q).2 (by decide) (by decide) ?_
    refine own_iinc K (pc := 25) (Ls' := #[.val (.ref b), .val (.int ch), .val (.int (0 : Int32)), .val (.int (15 : Int32)), .val (.int x), .val (.int (12 : Int32))]) d25_25 rfl rfl ?_
    refine own_goto K (pc := 28) (pc' := 7) d25_28 (by decide) (by decide) ?_
    exact ic_12 p l e s m args below meth c Z a0 h R hw a b kc z g S T ch x K
set_option maxRecDepth 65536 in
theorem ic_10 (p : Program) (l : Launch) (e : Env) (s : State) (m : MethodId) (args : Array Value) (below : List Frame) (meth : Method) (c : Code) (Z : State) (a0 : Array Value) (h : Heap) (R : Room) (hw : ∀ d ∈ tables_1, d.before a0 Z = true) (a b : Addr) (kc : ClassId) (z : Int32) (g : Value) (S : own_S Z h a b kc 15 own_sym) (T : own_T Z h z g) (ch x : Int32) (K : own_C p s m meth c Z jdk_43_method_23_code "java/lang/StringLatin1" (some .int) 6) :
    own_E p l e R s m args below meth c h [] 0 0 7 #[.val (.ref b), .val (.int ch), .val (.int (0 : Int32)), .val (.int (15 : Int32)), .val (.int x), .val (.int (10 : Int32))] [] (own_P s below h (some (.int (ix_10 x)))) := by
  by_cases q : (94 : Int32) = x
  · refine own_iload K (pc := 7) d25_7 rfl ?_
    refine own_iloadN K (pc := 9) d25_9 rfl ?_
    refine own_icmpN K (pc := 10) d25_10 (by decide) ?_
    refine own_aloadN K (pc := 13) d25_13 rfl rfl ?_
    refine own_iload K (pc := 14) d25_14 rfl ?_
    refine own_bald K (pc := 16) S.2.2.2 (by decide) (by decide) rfl d25_16 ?_
    refine own_iload K (pc := 17) d25_17 rfl ?_
    refine own_icmpN K (pc := 19) d25_19 (teq q).2 ?_
    refine own_iload K (pc := 22) d25_22 rfl ?_
    exact own_retI K (pc := 24) d25_24 (if_pos q).symm
  · rw [show ix_10 x = ix_11 x from if_neg q]
    refine own_iload K (pc := 7) d25_7 rfl ?_
    refine own_iloadN K (pc := 9) d25_9 rfl ?_
    refine own_icmpN K (pc := 10) d25_10 (by decide) ?_
    refine own_aloadN K (pc := 13) d25_13 rfl rfl ?_
    refine own_iload K (pc := 14) d25_14 rfl ?_
    refine own_bald K (pc := 16) S.2.2.2 (by decide) (by decide) rfl d25_16 ?_
    refine own_iload K (pc := 17) d25_17 rfl ?_
    refine own_icmpY K (pc := 19) (pc' := 25) d25_19 (feq q).2 (by decide) (by decide) ?_
    refine own_iinc K (pc := 25) (Ls' := #[.val (.ref b), .val (.int ch), .val (.int (0 : Int32)), .val (.int (15 : Int32)), .val (.int x), .val (.int (11 : Int32))]) d25_25 rfl rfl ?_
    refine own_goto K (pc := 28) (pc' := 7) d25_28 (by decide) (by decide) ?_
    exact ic_11 p l e s m args below meth c Z a0 h R hw a b kc z g S T ch x K
set_option maxRecDepth 65536 in
theorem ic_9 (p : Program) (l : Launch) (e : Env) (s : State) (m : MethodId) (args : Array Value) (below : List Frame) (meth : Method) (c : Code) (Z : State) (a0 : Array Value) (h : Heap) (R : Room) (hw : ∀ d ∈ tables_1, d.before a0 Z = true) (a b : Addr) (kc : ClassId) (z : Int32) (g : Value) (S : own_S Z h a b kc 15 own_sym) (T : own_T Z h z g) (ch x : Int32) (K : own_C p s m meth c Z jdk_43_method_23_code "java/lang/StringLatin1" (some .int) 6) :
    own_E p l e R s m args below meth c h [] 0 0 7 #[.val (.ref b), .val (.int ch), .val (.int (0 : Int32)), .val (.int (15 : Int32)), .val (.int x), .val (.int (9 : Int32))] [] (own_P s below h (some (.int (ix_9 x)))) := by
  by_cases q : (46 : Int32) = x
  · refine own_iload K (pc := 7) d25_7 rfl ?_
    refine own_iloadN K (pc := 9) d25_9 rfl ?_
    refine own_icmpN K (pc := 10) d25_10 (by decide) ?_
    refine own_aloadN K (pc := 13) d25_13 rfl rfl ?_
    refine own_iload K (pc := 14) d25_14 rfl ?_
    refine own_bald K (pc := 16) S.2.2.2 (by decide) (by decide) rfl d25_16 ?_
    refine own_iload K (pc := 17) d25_17 rfl ?_
    refine own_icmpN K (pc := 19) d25_19 (teq q).2 ?_
    refine own_iload K (pc := 22) d25_22 rfl ?_
    exact own_retI K (pc := 24) d25_24 (if_pos q).symm
  · rw [show ix_9 x = ix_10 x from if_neg q]
    refine own_iload K (pc := 7) d25_7 rfl ?_
    refine own_iloadN K (pc := 9) d25_9 rfl ?_
    refine own_icmpN K (pc := 10) d25_10 (by decide) ?_
    refine own_aloadN K (pc := 13) d25_13 rfl rfl ?_
    refine own_iload K (pc := 14) d25_14 rfl ?_
    refine own_bald K (pc := 16) S.2.2.2 (by decide) (by decide) rfl d25_16 ?_
    refine own_iload K (pc := 17) d25_17 rfl ?_
    refine own_icmpY K (pc := 19) (pc' := 25) d25_19 (feq q).2 (by decide) (by decide) ?_
    refine own_iinc K (pc := 25) (Ls' := #[.val (.ref b), .val (.int ch), .val (.int (0 : Int32)), .val (.int (15 : Int32)), .val (.int x), .val (.int (10 : Int32))]) d25_25 rfl rfl ?_
    refine own_goto K (pc := 28) (pc' := 7) d25_28 (by decide) (by decide) ?_
    exact ic_10 p l e s m args below meth c Z a0 h R hw a b kc z g S T ch x K
set_option maxRecDepth 65536 in
theorem ic_8 (p : Program) (l : Launch) (e : Env) (s : State) (m : MethodId) (args : Array Value) (below : List Frame) (meth : Method) (c : Code) (Z : State) (a0 : Array Value) (h : Heap) (R : Room) (hw : ∀ d ∈ tables_1, d.before a0 Z = true) (a b : Addr) (kc : ClassId) (z : Int32) (g : Value) (S : own_S Z h a b kc 15 own_sym) (T : own_T Z h z g) (ch x : Int32) (K : own_C p s m meth c Z jdk_43_method_23_code "java/lang/StringLatin1" (some .int) 6) :
    own_E p l e R s m args below meth c h [] 0 0 7 #[.val (.ref b), .val (.int ch), .val (.int (0 : Int32)), .val (.int (15 : Int32)), .val (.int x), .val (.int (8 : Int32))] [] (own_P s below h (some (.int (ix_8 x)))) := by
  by_cases q : (45 : Int32) = x
  · refine own_iload K (pc := 7) d25_7 rfl ?_
    refine own_iloadN K (pc := 9) d25_9 rfl ?_
    refine own_icmpN K (pc := 10) d25_10 (by decide) ?_
    refine own_aloadN K (pc := 13) d25_13 rfl rfl ?_
    refine own_iload K (pc := 14) d25_14 rfl ?_
    refine own_bald K (pc := 16) S.2.2.2 (by decide) (by decide) rfl d25_16 ?_
    refine own_iload K (pc := 17) d25_17 rfl ?_
    refine own_icmpN K (pc := 19) d25_19 (teq q).2 ?_
    refine own_iload K (pc := 22) d25_22 rfl ?_
    exact own_retI K (pc := 24) d25_24 (if_pos q).symm
  · rw [show ix_8 x = ix_9 x from if_neg q]
    refine own_iload K (pc := 7) d25_7 rfl ?_
    refine own_iloadN K (pc := 9) d25_9 rfl ?_
    refine own_icmpN K (pc := 10) d25_10 (by decide) ?_
    refine own_aloadN K (pc := 13) d25_13 rfl rfl ?_
    refine own_iload K (pc := 14) d25_14 rfl ?_
    refine own_bald K (pc := 16) S.2.2.2 (by decide) (by decide) rfl d25_16 ?_
    refine own_iload K (pc := 17) d25_17 rfl ?_
    refine own_icmpY K (pc := 19) (pc' := 25) d25_19 (feq q).2 (by decide) (by decide) ?_
    refine own_iinc K (pc := 25) (Ls' := #[.val (.ref b), .val (.int ch), .val (.int (0 : Int32)), .val (.int (15 : Int32)), .val (.int x), .val (.int (9 : Int32))]) d25_25 rfl rfl ?_
    refine own_goto K (pc := 28) (pc' := 7) d25_28 (by decide) (by decide) ?_
    exact ic_9 p l e s m args below meth c Z a0 h R hw a b kc z g S T ch x K
set_option maxRecDepth 65536 in
theorem ic_7 (p : Program) (l : Launch) (e : Env) (s : State) (m : MethodId) (args : Array Value) (below : List Frame) (meth : Method) (c : Code) (Z : State) (a0 : Array Value) (h : Heap) (R : Room) (hw : ∀ d ∈ tables_1, d.before a0 Z = true) (a b : Addr) (kc : ClassId) (z : Int32) (g : Value) (S : own_S Z h a b kc 15 own_sym) (T : own_T Z h z g) (ch x : Int32) (K : own_C p s m meth c Z jdk_43_method_23_code "java/lang/StringLatin1" (some .int) 6) :
    own_E p l e R s m args below meth c h [] 0 0 7 #[.val (.ref b), .val (.int ch), .val (.int (0 : Int32)), .val (.int (15 : Int32)), .val (.int x), .val (.int (7 : Int32))] [] (own_P s below h (some (.int (ix_7 x)))) := by
  by_cases q : (43 : Int32) = x
  · refine own_iload K (pc := 7) d25_7 rfl ?_
    refine own_iloadN K (pc := 9) d25_9 rfl ?_
    refine own_icmpN K (pc := 10) d25_10 (by decide) ?_
    refine own_aloadN K (pc := 13) d25_13 rfl rfl ?_
    refine own_iload K (pc := 14) d25_14 rfl ?_
    refine own_bald K (pc := 16) S.2.2.2 (by decide) (by decide) rfl d25_16 ?_
    refine own_iload K (pc := 17) d25_17 rfl ?_
    refine own_icmpN K (pc := 19) d25_19 (teq q).2 ?_
    refine own_iload K (pc := 22) d25_22 rfl ?_
    exact own_retI K (pc := 24) d25_24 (if_pos q).symm
  · rw [show ix_7 x = ix_8 x from if_neg q]
    refine own_iload K (pc := 7) d25_7 rfl ?_
    refine own_iloadN K (pc := 9) d25_9 rfl ?_
    refine own_icmpN K (pc := 10) d25_10 (by decide) ?_
    refine own_aloadN K (pc := 13) d25_13 rfl rfl ?_
    refine own_iload K (pc := 14) d25_14 rfl ?_
    refine own_bald K (pc := 16) S.2.2.2 (by decide) (by decide) rfl d25_16 ?_
    refine own_iload K (pc := 17) d25_17 rfl ?_
    refine own_icmpY K (pc := 19) (pc' := 25) d25_19 (feq q).2 (by decide) (by decide) ?_
    refine own_iinc K (pc := 25) (Ls' := #[.val (.ref b), .val (.int ch), .val (.int (0 : Int32)), .val (.int (15 : Int32)), .val (.int x), .val (.int (8 : Int32))]) d25_25 rfl rfl ?_
    refine own_goto K (pc := 28) (pc' := 7) d25_28 (by decide) (by decide) ?_
    exact ic_8 p l e s m args below meth c Z a0 h R hw a b kc z g S T ch x K
set_option maxRecDepth 65536 in
theorem ic_6 (p : Program) (l : Launch) (e : Env) (s : State) (m : MethodId) (args : Array Value) (below : List Frame) (meth : Method) (c : Code) (Z : State) (a0 : Array Value) (h : Heap) (R : Room) (hw : ∀ d ∈ tables_1, d.before a0 Z = true) (a b : Addr) (kc : ClassId) (z : Int32) (g : Value) (S : own_S Z h a b kc 15 own_sym) (T : own_T Z h z g) (ch x : Int32) (K : own_C p s m meth c Z jdk_43_method_23_code "java/lang/StringLatin1" (some .int) 6) :
    own_E p l e R s m args below meth c h [] 0 0 7 #[.val (.ref b), .val (.int ch), .val (.int (0 : Int32)), .val (.int (15 : Int32)), .val (.int x), .val (.int (6 : Int32))] [] (own_P s below h (some (.int (ix_6 x)))) := by
  by_cases q : (42 : Int32) = x
  · refine own_iload K (pc := 7) d25_7 rfl ?_
    refine own_iloadN K (pc := 9) d25_9 rfl ?_
    refine own_icmpN K (pc := 10) d25_10 (by decide) ?_
    refine own_aloadN K (pc := 13) d25_13 rfl rfl ?_
    refine own_iload K (pc := 14) d25_14 rfl ?_
    refine own_bald K (pc := 16) S.2.2.2 (by decide) (by decide) rfl d25_16 ?_
    refine own_iload K (pc := 17) d25_17 rfl ?_
    refine own_icmpN K (pc := 19) d25_19 (teq q).2 ?_
    refine own_iload K (pc := 22) d25_22 rfl ?_
    exact own_retI K (pc := 24) d25_24 (if_pos q).symm
  · rw [show ix_6 x = ix_7 x from if_neg q]
    refine own_iload K (pc := 7) d25_7 rfl ?_
    refine own_iloadN K (pc := 9) d25_9 rfl ?_
    refine own_icmpN K (pc := 10) d25_10 (by decide) ?_
    refine own_aloadN K (pc := 13) d25_13 rfl rfl ?_
    refine own_iload K (pc := 14) d25_14 rfl ?_
    refine own_bald K (pc := 16) S.2.2.2 (by decide) (by decide) rfl d25_16 ?_
    refine own_iload K (pc := 17) d25_17 rfl ?_
    refine own_icmpY K (pc := 19) (pc' := 25) d25_19 (feq q).2 (by decide) (by decide) ?_
    refine own_iinc K (pc := 25) (Ls' := #[.val (.ref b), .val (.int ch), .val (.int (0 : Int32)), .val (.int (15 : Int32)), .val (.int x), .val (.int (7 : Int32))]) d25_25 rfl rfl ?_
    refine own_goto K (pc := 28) (pc' := 7) d25_28 (by decide) (by decide) ?_
    exact ic_7 p l e s m args below meth c Z a0 h R hw a b kc z g S T ch x K
set_option maxRecDepth 65536 in
theorem ic_5 (p : Program) (l : Launch) (e : Env) (s : State) (m : MethodId) (args : Array Value) (below : List Frame) (meth : Method) (c : Code) (Z : State) (a0 : Array Value) (h : Heap) (R : Room) (hw : ∀ d ∈ tables_1, d.before a0 Z = true) (a b : Addr) (kc : ClassId) (z : Int32) (g : Value) (S : own_S Z h a b kc 15 own_sym) (T : own_T Z h z g) (ch x : Int32) (K : own_C p s m meth c Z jdk_43_method_23_code "java/lang/StringLatin1" (some .int) 6) :
    own_E p l e R s m args below meth c h [] 0 0 7 #[.val (.ref b), .val (.int ch), .val (.int (0 : Int32)), .val (.int (15 : Int32)), .val (.int x), .val (.int (5 : Int32))] [] (own_P s below h (some (.int (ix_5 x)))) := by
  by_cases q : (39 : Int32) = x
  · refine own_iload K (pc := 7) d25_7 rfl ?_
    refine own_iloadN K (pc := 9) d25_9 rfl ?_
    refine own_icmpN K (pc := 10) d25_10 (by decide) ?_
    refine own_aloadN K (pc := 13) d25_13 rfl rfl ?_
    refine own_iload K (pc := 14) d25_14 rfl ?_
    refine own_bald K (pc := 16) S.2.2.2 (by decide) (by decide) rfl d25_16 ?_
    refine own_iload K (pc := 17) d25_17 rfl ?_
    refine own_icmpN K (pc := 19) d25_19 (teq q).2 ?_
    refine own_iload K (pc := 22) d25_22 rfl ?_
    exact own_retI K (pc := 24) d25_24 (if_pos q).symm
  · rw [show ix_5 x = ix_6 x from if_neg q]
    refine own_iload K (pc := 7) d25_7 rfl ?_
    refine own_iloadN K (pc := 9) d25_9 rfl ?_
    refine own_icmpN K (pc := 10) d25_10 (by decide) ?_
    refine own_aloadN K (pc := 13) d25_13 rfl rfl ?_
    refine own_iload K (pc := 14) d25_14 rfl ?_
    refine own_bald K (pc := 16) S.2.2.2 (by decide) (by decide) rfl d25_16 ?_
    refine own_iload K (pc := 17) d25_17 rfl ?_
    refine own_icmpY K (pc := 19) (pc' := 25) d25_19 (feq q).2 (by decide) (by decide) ?_
    refine own_iinc K (pc := 25) (Ls' := #[.val (.ref b), .val (.int ch), .val (.int (0 : Int32)), .val (.int (15 : Int32)), .val (.int x), .val (.int (6 : Int32))]) d25_25 rfl rfl ?_
    refine own_goto K (pc := 28) (pc' := 7) d25_28 (by decide) (by decide) ?_
    exact ic_6 p l e s m args below meth c Z a0 h R hw a b kc z g S T ch x K
set_option maxRecDepth 65536 in
theorem ic_4 (p : Program) (l : Launch) (e : Env) (s : State) (m : MethodId) (args : Array Value) (below : List Frame) (meth : Method) (c : Code) (Z : State) (a0 : Array Value) (h : Heap) (R : Room) (hw : ∀ d ∈ tables_1, d.before a0 Z = true) (a b : Addr) (kc : ClassId) (z : Int32) (g : Value) (S : own_S Z h a b kc 15 own_sym) (T : own_T Z h z g) (ch x : Int32) (K : own_C p s m meth c Z jdk_43_method_23_code "java/lang/StringLatin1" (some .int) 6) :
    own_E p l e R s m args below meth c h [] 0 0 7 #[.val (.ref b), .val (.int ch), .val (.int (0 : Int32)), .val (.int (15 : Int32)), .val (.int x), .val (.int (4 : Int32))] [] (own_P s below h (some (.int (ix_4 x)))) := by
  by_cases q : (38 : Int32) = x
  · refine own_iload K (pc := 7) d25_7 rfl ?_
    refine own_iloadN K (pc := 9) d25_9 rfl ?_
    refine own_icmpN K (pc := 10) d25_10 (by decide) ?_
    refine own_aloadN K (pc := 13) d25_13 rfl rfl ?_
    refine own_iload K (pc := 14) d25_14 rfl ?_
    refine own_bald K (pc := 16) S.2.2.2 (by decide) (by decide) rfl d25_16 ?_
    refine own_iload K (pc := 17) d25_17 rfl ?_
    refine own_icmpN K (pc := 19) d25_19 (teq q).2 ?_
    refine own_iload K (pc := 22) d25_22 rfl ?_
    exact own_retI K (pc := 24) d25_24 (if_pos q).symm
  · rw [show ix_4 x = ix_5 x from if_neg q]
    refine own_iload K (pc := 7) d25_7 rfl ?_
    refine own_iloadN K (pc := 9) d25_9 rfl ?_
    refine own_icmpN K (pc := 10) d25_10 (by decide) ?_
    refine own_aloadN K (pc := 13) d25_13 rfl rfl ?_
    refine own_iload K (pc := 14) d25_14 rfl ?_
    refine own_bald K (pc := 16) S.2.2.2 (by decide) (by decide) rfl d25_16 ?_
    refine own_iload K (pc := 17) d25_17 rfl ?_
    refine own_icmpY K (pc := 19) (pc' := 25) d25_19 (feq q).2 (by decide) (by decide) ?_
    refine own_iinc K (pc := 25) (Ls' := #[.val (.ref b), .val (.int ch), .val (.int (0 : Int32)), .val (.int (15 : Int32)), .val (.int x), .val (.int (5 : Int32))]) d25_25 rfl rfl ?_
    refine own_goto K (pc := 28) (pc' := 7) d25_28 (by decide) (by decide) ?_
    exact ic_5 p l e s m args below meth c Z a0 h R hw a b kc z g S T ch x K
set_option maxRecDepth 65536 in
theorem ic_3 (p : Program) (l : Launch) (e : Env) (s : State) (m : MethodId) (args : Array Value) (below : List Frame) (meth : Method) (c : Code) (Z : State) (a0 : Array Value) (h : Heap) (R : Room) (hw : ∀ d ∈ tables_1, d.before a0 Z = true) (a b : Addr) (kc : ClassId) (z : Int32) (g : Value) (S : own_S Z h a b kc 15 own_sym) (T : own_T Z h z g) (ch x : Int32) (K : own_C p s m meth c Z jdk_43_method_23_code "java/lang/StringLatin1" (some .int) 6) :
    own_E p l e R s m args below meth c h [] 0 0 7 #[.val (.ref b), .val (.int ch), .val (.int (0 : Int32)), .val (.int (15 : Int32)), .val (.int x), .val (.int (3 : Int32))] [] (own_P s below h (some (.int (ix_3 x)))) := by
  by_cases q : (37 : Int32) = x
  · refine own_iload K (pc := 7) d25_7 rfl ?_
    refine own_iloadN K (pc := 9) d25_9 rfl ?_
    refine own_icmpN K (pc := 10) d25_10 (by decide) ?_
    refine own_aloadN K (pc := 13) d25_13 rfl rfl ?_
    refine own_iload K (pc := 14) d25_14 rfl ?_
    refine own_bald K (pc := 16) S.2.2.2 (by decide) (by decide) rfl d25_16 ?_
    refine own_iload K (pc := 17) d25_17 rfl ?_
    refine own_icmpN K (pc := 19) d25_19 (teq q).2 ?_
    refine own_iload K (pc := 22) d25_22 rfl ?_
    exact own_retI K (pc := 24) d25_24 (if_pos q).symm
  · rw [show ix_3 x = ix_4 x from if_neg q]
    refine own_iload K (pc := 7) d25_7 rfl ?_
    refine own_iloadN K (pc := 9) d25_9 rfl ?_
    refine own_icmpN K (pc := 10) d25_10 (by decide) ?_
    refine own_aloadN K (pc := 13) d25_13 rfl rfl ?_
    refine own_iload K (pc := 14) d25_14 rfl ?_
    refine own_bald K (pc := 16) S.2.2.2 (by decide) (by decide) rfl d25_16 ?_
    refine own_iload K (pc := 17) d25_17 rfl ?_
    refine own_icmpY K (pc := 19) (pc' := 25) d25_19 (feq q).2 (by decide) (by decide) ?_
    refine own_iinc K (pc := 25) (Ls' := #[.val (.ref b), .val (.int ch), .val (.int (0 : Int32)), .val (.int (15 : Int32)), .val (.int x), .val (.int (4 : Int32))]) d25_25 rfl rfl ?_
    refine own_goto K (pc := 28) (pc' := 7) d25_28 (by decide) (by decide) ?_
    exact ic_4 p l e s m args below meth c Z a0 h R hw a b kc z g S T ch x K
set_option maxRecDepth 65536 in
theorem ic_2 (p : Program) (l : Launch) (e : Env) (s : State) (m : MethodId) (args : Array Value) (below : List Frame) (meth : Method) (c : Code) (Z : State) (a0 : Array Value) (h : Heap) (R : Room) (hw : ∀ d ∈ tables_1, d.before a0 Z = true) (a b : Addr) (kc : ClassId) (z : Int32) (g : Value) (S : own_S Z h a b kc 15 own_sym) (T : own_T Z h z g) (ch x : Int32) (K : own_C p s m meth c Z jdk_43_method_23_code "java/lang/StringLatin1" (some .int) 6) :
    own_E p l e R s m args below meth c h [] 0 0 7 #[.val (.ref b), .val (.int ch), .val (.int (0 : Int32)), .val (.int (15 : Int32)), .val (.int x), .val (.int (2 : Int32))] [] (own_P s below h (some (.int (ix_2 x)))) := by
  by_cases q : (36 : Int32) = x
  · refine own_iload K (pc := 7) d25_7 rfl ?_
    refine own_iloadN K (pc := 9) d25_9 rfl ?_
    refine own_icmpN K (pc := 10) d25_10 (by decide) ?_
    refine own_aloadN K (pc := 13) d25_13 rfl rfl ?_
    refine own_iload K (pc := 14) d25_14 rfl ?_
    refine own_bald K (pc := 16) S.2.2.2 (by decide) (by decide) rfl d25_16 ?_
    refine own_iload K (pc := 17) d25_17 rfl ?_
    refine own_icmpN K (pc := 19) d25_19 (teq q).2 ?_
    refine own_iload K (pc := 22) d25_22 rfl ?_
    exact own_retI K (pc := 24) d25_24 (if_pos q).symm
  · rw [show ix_2 x = ix_3 x from if_neg q]
    refine own_iload K (pc := 7) d25_7 rfl ?_
    refine own_iloadN K (pc := 9) d25_9 rfl ?_
    refine own_icmpN K (pc := 10) d25_10 (by decide) ?_
    refine own_aloadN K (pc := 13) d25_13 rfl rfl ?_
    refine own_iload K (pc := 14) d25_14 rfl ?_
    refine own_bald K (pc := 16) S.2.2.2 (by decide) (by decide) rfl d25_16 ?_
    refine own_iload K (pc := 17) d25_17 rfl ?_
    refine own_icmpY K (pc := 19) (pc' := 25) d25_19 (feq q).2 (by decide) (by decide) ?_
    refine own_iinc K (pc := 25) (Ls' := #[.val (.ref b), .val (.int ch), .val (.int (0 : Int32)), .val (.int (15 : Int32)), .val (.int x), .val (.int (3 : Int32))]) d25_25 rfl rfl ?_
    refine own_goto K (pc := 28) (pc' := 7) d25_28 (by decide) (by decide) ?_
    exact ic_3 p l e s m args below meth c Z a0 h R hw a b kc z g S T ch x K
set_option maxRecDepth 65536 in
theorem ic_1 (p : Program) (l : Launch) (e : Env) (s : State) (m : MethodId) (args : Array Value) (below : List Frame) (meth : Method) (c : Code) (Z : State) (a0 : Array Value) (h : Heap) (R : Room) (hw : ∀ d ∈ tables_1, d.before a0 Z = true) (a b : Addr) (kc : ClassId) (z : Int32) (g : Value) (S : own_S Z h a b kc 15 own_sym) (T : own_T Z h z g) (ch x : Int32) (K : own_C p s m meth c Z jdk_43_method_23_code "java/lang/StringLatin1" (some .int) 6) :
    own_E p l e R s m args below meth c h [] 0 0 7 #[.val (.ref b), .val (.int ch), .val (.int (0 : Int32)), .val (.int (15 : Int32)), .val (.int x), .val (.int (1 : Int32))] [] (own_P s below h (some (.int (ix_1 x)))) := by
  by_cases q : (35 : Int32) = x
  · refine own_iload K (pc := 7) d25_7 rfl ?_
    refine own_iloadN K (pc := 9) d25_9 rfl ?_
    refine own_icmpN K (pc := 10) d25_10 (by decide) ?_
    refine own_aloadN K (pc := 13) d25_13 rfl rfl ?_
    refine own_iload K (pc := 14) d25_14 rfl ?_
    refine own_bald K (pc := 16) S.2.2.2 (by decide) (by decide) rfl d25_16 ?_
    refine own_iload K (pc := 17) d25_17 rfl ?_
    refine own_icmpN K (pc := 19) d25_19 (teq q).2 ?_
    refine own_iload K (pc := 22) d25_22 rfl ?_
    exact own_retI K (pc := 24) d25_24 (if_pos q).symm
  · rw [show ix_1 x = ix_2 x from if_neg q]
    refine own_iload K (pc := 7) d25_7 rfl ?_
    refine own_iloadN K (pc := 9) d25_9 rfl ?_
    refine own_icmpN K (pc := 10) d25_10 (by decide) ?_
    refine own_aloadN K (pc := 13) d25_13 rfl rfl ?_
    refine own_iload K (pc := 14) d25_14 rfl ?_
    refine own_bald K (pc := 16) S.2.2.2 (by decide) (by decide) rfl d25_16 ?_
    refine own_iload K (pc := 17) d25_17 rfl ?_
    refine own_icmpY K (pc := 19) (pc' := 25) d25_19 (feq q).2 (by decide) (by decide) ?_
    refine own_iinc K (pc := 25) (Ls' := #[.val (.ref b), .val (.int ch), .val (.int (0 : Int32)), .val (.int (15 : Int32)), .val (.int x), .val (.int (2 : Int32))]) d25_25 rfl rfl ?_
    refine own_goto K (pc := 28) (pc' := 7) d25_28 (by decide) (by decide) ?_
    exact ic_2 p l e s m args below meth c Z a0 h R hw a b kc z g S T ch x K
set_option maxRecDepth 65536 in
theorem ic_0 (p : Program) (l : Launch) (e : Env) (s : State) (m : MethodId) (args : Array Value) (below : List Frame) (meth : Method) (c : Code) (Z : State) (a0 : Array Value) (h : Heap) (R : Room) (hw : ∀ d ∈ tables_1, d.before a0 Z = true) (a b : Addr) (kc : ClassId) (z : Int32) (g : Value) (S : own_S Z h a b kc 15 own_sym) (T : own_T Z h z g) (ch x : Int32) (K : own_C p s m meth c Z jdk_43_method_23_code "java/lang/StringLatin1" (some .int) 6) :
    own_E p l e R s m args below meth c h [] 0 0 7 #[.val (.ref b), .val (.int ch), .val (.int (0 : Int32)), .val (.int (15 : Int32)), .val (.int x), .val (.int (0 : Int32))] [] (own_P s below h (some (.int (ix_0 x)))) := by
  by_cases q : (33 : Int32) = x
  · refine own_iload K (pc := 7) d25_7 rfl ?_
    refine own_iloadN K (pc := 9) d25_9 rfl ?_
    refine own_icmpN K (pc := 10) d25_10 (by decide) ?_
    refine own_aloadN K (pc := 13) d25_13 rfl rfl ?_
    refine own_iload K (pc := 14) d25_14 rfl ?_
    refine own_bald K (pc := 16) S.2.2.2 (by decide) (by decide) rfl d25_16 ?_
    refine own_iload K (pc := 17) d25_17 rfl ?_
    refine own_icmpN K (pc := 19) d25_19 (teq q).2 ?_
    refine own_iload K (pc := 22) d25_22 rfl ?_
    exact own_retI K (pc := 24) d25_24 (if_pos q).symm
  · rw [show ix_0 x = ix_1 x from if_neg q]
    refine own_iload K (pc := 7) d25_7 rfl ?_
    refine own_iloadN K (pc := 9) d25_9 rfl ?_
    refine own_icmpN K (pc := 10) d25_10 (by decide) ?_
    refine own_aloadN K (pc := 13) d25_13 rfl rfl ?_
    refine own_iload K (pc := 14) d25_14 rfl ?_
    refine own_bald K (pc := 16) S.2.2.2 (by decide) (by decide) rfl d25_16 ?_
    refine own_iload K (pc := 17) d25_17 rfl ?_
    refine own_icmpY K (pc := 19) (pc' := 25) d25_19 (feq q).2 (by decide) (by decide) ?_
    refine own_iinc K (pc := 25) (Ls' := #[.val (.ref b), .val (.int ch), .val (.int (0 : Int32)), .val (.int (15 : Int32)), .val (.int x), .val (.int (1 : Int32))]) d25_25 rfl rfl ?_
    refine own_goto K (pc := 28) (pc' := 7) d25_28 (by decide) (by decide) ?_
    exact ic_1 p l e s m args below meth c Z a0 h R hw a b kc z g S T ch x K
theorem ioc_b (p : Program) (l : Launch) (e : Env) (s : State) (m : MethodId) (args : Array Value) (below : List Frame) (meth : Method) (c : Code) (Z : State) (a0 : Array Value) (h : Heap) (hw : ∀ d ∈ tables_1, d.before a0 Z = true) (a b : Addr) (kc : ClassId) (z : Int32) (g : Value) (S : own_S Z h a b kc 15 own_sym) (T : own_T Z h z g) (ch : Int32) (c1 : ¬ ch < 0) (c2 : ¬ 255 < ch) (K : own_C p s m meth c Z jdk_43_method_23_code "java/lang/StringLatin1" (some .int) 6) :
    own_E p l e { frames := 0, cells := 0, slots := 0, locals := 0 } s m args below meth c h [] 0 0 0 #[.val (.ref b), .val (.int ch), .val (.int (0 : Int32)), .val (.int (15 : Int32)), .unset, .unset] [] (own_P s below h (some (.int (ix_0 ch.toInt8.toInt32)))) := by
  refine own_iloadN K (pc := 0) d25_0 rfl ?_
  refine own_i2b K (pc := 1) d25_1 ?_
  refine own_istore K (pc := 2) (Ls' := #[.val (.ref b), .val (.int ch), .val (.int (0 : Int32)), .val (.int (15 : Int32)), .val (.int (ch.toInt8.toInt32)), .unset]) d25_2 rfl ?_
  refine own_iloadN K (pc := 4) d25_4 rfl ?_
  refine own_istore K (pc := 5) (Ls' := #[.val (.ref b), .val (.int ch), .val (.int (0 : Int32)), .val (.int (15 : Int32)), .val (.int (ch.toInt8.toInt32)), .val (.int (0 : Int32))]) d25_5 rfl ?_
  exact ic_0 p l e s m args below meth c Z a0 h _ hw a b kc z g S T ch _ K
theorem ioc (l : Launch) (Z : State) (a0 : Array Value) (h : Heap) (hw : ∀ d ∈ tables_1, d.before a0 Z = true) (a b : Addr) (kc : ClassId) (z : Int32) (g : Value) (S : own_S Z h a b kc 15 own_sym) (T : own_T Z h z g) (ch : Int32) (c1 : ¬ ch < 0) (c2 : ¬ 255 < ch) : own_M l (⟨"java/lang/StringLatin1", "indexOfChar", "([BIII)I"⟩ : MethodName) jdk_43_method_23_code 6 (some .int) [] { frames := 0, cells := 0, slots := 0, locals := 0 } Z h #[(.ref b), (.int ch), (.int (0 : Int32)), (.int (15 : Int32))] (some (.int (ix_0 ch.toInt8.toInt32))) := by
  refine own_met (by decide +kernel) rfl rfl (Ls := #[.val (.ref b), .val (.int ch), .val (.int (0 : Int32)), .val (.int (15 : Int32)), .unset, .unset]) (fun m => by first | (simp [entryFrame, mkF, argsToLocals, Value.category]; done) | rfl | (rcases ref_cases hg with rfl | ⟨y, rfl⟩ <;> first | (simp [entryFrame, mkF, argsToLocals, Value.category]; done) | rfl)) ?_
  intro p e s m below meth c K
  exact ioc_b p l e s m _ below meth c Z a0 h hw a b kc z g S T ch c1 c2 K
set_option maxRecDepth 65536 in
theorem lio_b (p : Program) (l : Launch) (e : Env) (s : State) (m : MethodId) (args : Array Value) (below : List Frame) (meth : Method) (c : Code) (Z : State) (a0 : Array Value) (h : Heap) (hw : ∀ d ∈ tables_1, d.before a0 Z = true) (a b : Addr) (kc : ClassId) (z : Int32) (g : Value) (S : own_S Z h a b kc 15 own_sym) (T : own_T Z h z g) (ch : Int32) (c1 : ¬ ch < 0) (c2 : ¬ 255 < ch) (K : own_C p s m meth c Z jdk_43_method_22_code "java/lang/StringLatin1" (some .int) 4) :
    own_E p l e { frames := 1, cells := 0, slots := 0, locals := 17 } s m args below meth c h [] 0 0 0 #[.val (.ref b), .val (.int ch), .val (.int (0 : Int32)), .val (.int (15 : Int32))] [] (own_P s below h (some (.int (ix_0 ch.toInt8.toInt32)))) := by
  refine own_iloadN K (pc := 0) d21_0 rfl ?_
  refine own_callS K (pc := 1) (W := 0) (rest := []) (argsL := [(.int ch)]) (u := (.int (1 : Int32))) rfl rfl (can l Z a0 h hw ch c1 c2) (hw _ (List.mem_of_getElem? (i := 100) rfl)) (hw _ (List.mem_of_getElem? (i := 101) rfl)) (hw _ (List.mem_of_getElem? (i := 75) rfl)) (hw _ (List.mem_of_getElem? (i := 102) rfl)) (by decide) d21_1 pd_22 rfl rfl rfl (Nat.le_of_eq rfl) (by decide) (by decide) (Nat.zero_le _) (Nat.zero_le _) ?_
  refine own_ifY K (pc := 4) (pc' := 9) d21_4 (by decide) (by decide) (by decide) ?_
  refine own_iloadN K (pc := 9) d21_9 rfl ?_
  refine own_iconst K (pc := 10) d21_10 (x := (0 : Int32)) (by decide) ?_
  refine own_callS K (pc := 11) (W := 0) (rest := []) (argsL := [(.int (0 : Int32)), (.int (0 : Int32))]) (u := (.int (0 : Int32))) rfl rfl (max l Z a0 h hw ) (hw _ (List.mem_of_getElem? (i := 103) rfl)) (hw _ (List.mem_of_getElem? (i := 104) rfl)) (hw _ (List.mem_of_getElem? (i := 105) rfl)) (hw _ (List.mem_of_getElem? (i := 106) rfl)) (by decide) d21_11 pd_23 rfl rfl rfl (Nat.le_of_eq rfl) (by decide) (by decide) (Nat.zero_le _) (Nat.zero_le _) ?_
  refine own_istoreN K (pc := 14) (Ls' := #[.val (.ref b), .val (.int ch), .val (.int (0 : Int32)), .val (.int (15 : Int32))]) d21_14 rfl ?_
  refine own_iloadN K (pc := 15) d21_15 rfl ?_
  refine own_aloadN K (pc := 16) d21_16 rfl rfl ?_
  refine own_alen K (pc := 17) S.2.2.2 d21_17 ?_
  refine own_callS K (pc := 18) (W := 0) (rest := []) (argsL := [(.int (15 : Int32)), (.int (15 : Int32))]) (u := (.int (15 : Int32))) rfl rfl (min l Z a0 h hw ) (hw _ (List.mem_of_getElem? (i := 107) rfl)) (hw _ (List.mem_of_getElem? (i := 108) rfl)) (hw _ (List.mem_of_getElem? (i := 105) rfl)) (hw _ (List.mem_of_getElem? (i := 109) rfl)) (by decide) d21_18 pd_24 rfl rfl rfl (Nat.le_of_eq rfl) (by decide) (by decide) (Nat.zero_le _) (Nat.zero_le _) ?_
  refine own_istoreN K (pc := 21) (Ls' := #[.val (.ref b), .val (.int ch), .val (.int (0 : Int32)), .val (.int (15 : Int32))]) d21_21 rfl ?_
  refine own_iloadN K (pc := 22) d21_22 rfl ?_
  refine own_iloadN K (pc := 23) d21_23 rfl ?_
  refine own_icmpY K (pc := 24) (pc' := 29) d21_24 (by decide) (by decide) (by decide) ?_
  refine own_aloadN K (pc := 29) d21_29 rfl rfl ?_
  refine own_iloadN K (pc := 30) d21_30 rfl ?_
  refine own_iloadN K (pc := 31) d21_31 rfl ?_
  refine own_iloadN K (pc := 32) d21_32 rfl ?_
  refine own_callS K (pc := 33) (W := 0) (rest := []) (argsL := [(.ref b), (.int ch), (.int (0 : Int32)), (.int (15 : Int32))]) (u := (.int (ix_0 ch.toInt8.toInt32))) rfl rfl (ioc l Z a0 h hw a b kc z g S T ch c1 c2) (hw _ (List.mem_of_getElem? (i := 110) rfl)) (hw _ (List.mem_of_getElem? (i := 111) rfl)) (hw _ (List.mem_of_getElem? (i := 75) rfl)) (hw _ (List.mem_of_getElem? (i := 112) rfl)) (by decide) d21_33 pd_25 rfl rfl rfl (Nat.le_of_eq rfl) (by decide) (by decide) (Nat.zero_le _) (Nat.zero_le _) ?_
  exact own_retI K (pc := 36) d21_36 rfl
theorem lio (l : Launch) (Z : State) (a0 : Array Value) (h : Heap) (hw : ∀ d ∈ tables_1, d.before a0 Z = true) (a b : Addr) (kc : ClassId) (z : Int32) (g : Value) (S : own_S Z h a b kc 15 own_sym) (T : own_T Z h z g) (ch : Int32) (c1 : ¬ ch < 0) (c2 : ¬ 255 < ch) : own_M l (⟨"java/lang/StringLatin1", "indexOf", "([BIII)I"⟩ : MethodName) jdk_43_method_22_code 4 (some .int) [] { frames := 1, cells := 0, slots := 0, locals := 17 } Z h #[(.ref b), (.int ch), (.int (0 : Int32)), (.int (15 : Int32))] (some (.int (ix_0 ch.toInt8.toInt32))) := by
  refine own_met (by decide +kernel) rfl rfl (Ls := #[.val (.ref b), .val (.int ch), .val (.int (0 : Int32)), .val (.int (15 : Int32))]) (fun m => by first | (simp [entryFrame, mkF, argsToLocals, Value.category]; done) | rfl | (rcases ref_cases hg with rfl | ⟨y, rfl⟩ <;> first | (simp [entryFrame, mkF, argsToLocals, Value.category]; done) | rfl)) ?_
  intro p e s m below meth c K
  exact lio_b p l e s m _ below meth c Z a0 h hw a b kc z g S T ch c1 c2 K
set_option maxRecDepth 65536 in
theorem sii_b (p : Program) (l : Launch) (e : Env) (s : State) (m : MethodId) (args : Array Value) (below : List Frame) (meth : Method) (c : Code) (Z : State) (a0 : Array Value) (h : Heap) (hw : ∀ d ∈ tables_1, d.before a0 Z = true) (a b : Addr) (kc : ClassId) (z : Int32) (g : Value) (S : own_S Z h a b kc 15 own_sym) (T : own_T Z h z g) (ch : Int32) (c1 : ¬ ch < 0) (c2 : ¬ 255 < ch) (K : own_C p s m meth c Z jdk_42_method_80_code "java/lang/String" (some .int) 3) :
    own_E p l e { frames := 2, cells := 0, slots := 0, locals := 32 } s m args below meth c h [] 0 0 0 #[.val (.ref a), .val (.int ch), .val (.int (0 : Int32))] [] (own_P s below h (some (.int (ix_0 ch.toInt8.toInt32)))) := by
  refine own_aloadN K (pc := 0) d20_0 rfl rfl ?_
  refine own_callV K (pc := 1) (W := 0) (rest := []) (argsL := []) (u := (.int (1 : Int32))) rfl rfl (lat l Z a0 h hw a b kc _ _ z g S T) S.1 (hw _ (List.mem_of_getElem? (i := 68) rfl)) (hw _ (List.mem_of_getElem? (i := 69) rfl)) (hw _ (List.mem_of_getElem? (i := 71) rfl)) (hw _ (List.mem_of_getElem? (i := 70) rfl)) (hw _ (List.mem_of_getElem? (i := 72) rfl)) (hw _ (List.mem_of_getElem? (i := 10) rfl)) (by decide) d20_1 pd_15 rfl rfl rfl (Nat.le_of_eq rfl) (by decide) (by decide) (Nat.zero_le _) (Nat.zero_le _) ?_
  refine own_ifN K (pc := 4) d20_4 (by decide) ?_
  refine own_aloadN K (pc := 7) d20_7 rfl rfl ?_
  refine own_getF K (pc := 8) (hw _ (List.mem_of_getElem? (i := 28) rfl)) S.2.2.1 d20_8 ?_
  refine own_iloadN K (pc := 11) d20_11 rfl ?_
  refine own_iloadN K (pc := 12) d20_12 rfl ?_
  refine own_aloadN K (pc := 13) d20_13 rfl rfl ?_
  refine own_callV K (pc := 14) (W := 3) (rest := [(.int (0 : Int32)), (.int ch), (.ref b)]) (argsL := []) (u := (.int (15 : Int32))) rfl rfl (len l Z a0 h hw a b kc _ _ z g S T) S.1 (hw _ (List.mem_of_getElem? (i := 96) rfl)) (hw _ (List.mem_of_getElem? (i := 54) rfl)) (hw _ (List.mem_of_getElem? (i := 56) rfl)) (hw _ (List.mem_of_getElem? (i := 55) rfl)) (hw _ (List.mem_of_getElem? (i := 57) rfl)) (hw _ (List.mem_of_getElem? (i := 10) rfl)) (by decide) d20_14 pd_12 rfl rfl rfl (Nat.le_of_eq rfl) (by decide) (by decide) (Nat.zero_le _) (Nat.zero_le _) ?_
  refine own_callS K (pc := 17) (W := 0) (rest := []) (argsL := [(.ref b), (.int ch), (.int (0 : Int32)), (.int (15 : Int32))]) (u := (.int (ix_0 ch.toInt8.toInt32))) rfl rfl (lio l Z a0 h hw a b kc z g S T ch c1 c2) (hw _ (List.mem_of_getElem? (i := 97) rfl)) (hw _ (List.mem_of_getElem? (i := 98) rfl)) (hw _ (List.mem_of_getElem? (i := 75) rfl)) (hw _ (List.mem_of_getElem? (i := 99) rfl)) (by decide) d20_17 pd_21 rfl rfl rfl (Nat.le_of_eq rfl) (by decide) (by decide) (Nat.zero_le _) (Nat.zero_le _) ?_
  refine own_goto K (pc := 20) (pc' := 36) d20_20 (by decide) (by decide) ?_
  exact own_retI K (pc := 36) d20_36 rfl
theorem sii (l : Launch) (Z : State) (a0 : Array Value) (h : Heap) (hw : ∀ d ∈ tables_1, d.before a0 Z = true) (a b : Addr) (kc : ClassId) (z : Int32) (g : Value) (S : own_S Z h a b kc 15 own_sym) (T : own_T Z h z g) (ch : Int32) (c1 : ¬ ch < 0) (c2 : ¬ 255 < ch) : own_M l (⟨"java/lang/String", "indexOf", "(II)I"⟩ : MethodName) jdk_42_method_80_code 3 (some .int) [] { frames := 2, cells := 0, slots := 0, locals := 32 } Z h #[(.ref a), (.int ch), (.int (0 : Int32))] (some (.int (ix_0 ch.toInt8.toInt32))) := by
  refine own_met (by decide +kernel) rfl rfl (Ls := #[.val (.ref a), .val (.int ch), .val (.int (0 : Int32))]) (fun m => by first | (simp [entryFrame, mkF, argsToLocals, Value.category]; done) | rfl | (rcases ref_cases hg with rfl | ⟨y, rfl⟩ <;> first | (simp [entryFrame, mkF, argsToLocals, Value.category]; done) | rfl)) ?_
  intro p e s m below meth c K
  exact sii_b p l e s m _ below meth c Z a0 h hw a b kc z g S T ch c1 c2 K
set_option maxRecDepth 65536 in
theorem sio_b (p : Program) (l : Launch) (e : Env) (s : State) (m : MethodId) (args : Array Value) (below : List Frame) (meth : Method) (c : Code) (Z : State) (a0 : Array Value) (h : Heap) (hw : ∀ d ∈ tables_1, d.before a0 Z = true) (a b : Addr) (kc : ClassId) (z : Int32) (g : Value) (S : own_S Z h a b kc 15 own_sym) (T : own_T Z h z g) (ch : Int32) (c1 : ¬ ch < 0) (c2 : ¬ 255 < ch) (K : own_C p s m meth c Z jdk_42_method_79_code "java/lang/String" (some .int) 2) :
    own_E p l e { frames := 3, cells := 0, slots := 0, locals := 46 } s m args below meth c h [] 0 0 0 #[.val (.ref a), .val (.int ch)] [] (own_P s below h (some (.int (ix_0 ch.toInt8.toInt32)))) := by
  refine own_aloadN K (pc := 0) d19_0 rfl rfl ?_
  refine own_iloadN K (pc := 1) d19_1 rfl ?_
  refine own_iconst K (pc := 2) d19_2 (x := (0 : Int32)) (by decide) ?_
  refine own_callV K (pc := 3) (W := 0) (rest := []) (argsL := [(.int ch), (.int (0 : Int32))]) (u := (.int (ix_0 ch.toInt8.toInt32))) rfl rfl (sii l Z a0 h hw a b kc z g S T ch c1 c2) S.1 (hw _ (List.mem_of_getElem? (i := 91) rfl)) (hw _ (List.mem_of_getElem? (i := 92) rfl)) (hw _ (List.mem_of_getElem? (i := 94) rfl)) (hw _ (List.mem_of_getElem? (i := 93) rfl)) (hw _ (List.mem_of_getElem? (i := 95) rfl)) (hw _ (List.mem_of_getElem? (i := 10) rfl)) (by decide) d19_3 pd_20 rfl rfl rfl (Nat.le_of_eq rfl) (by decide) (by decide) (Nat.zero_le _) (Nat.zero_le _) ?_
  exact own_retI K (pc := 6) d19_6 rfl
theorem sio (l : Launch) (Z : State) (a0 : Array Value) (h : Heap) (hw : ∀ d ∈ tables_1, d.before a0 Z = true) (a b : Addr) (kc : ClassId) (z : Int32) (g : Value) (S : own_S Z h a b kc 15 own_sym) (T : own_T Z h z g) (ch : Int32) (c1 : ¬ ch < 0) (c2 : ¬ 255 < ch) : own_M l (⟨"java/lang/String", "indexOf", "(I)I"⟩ : MethodName) jdk_42_method_79_code 2 (some .int) [] { frames := 3, cells := 0, slots := 0, locals := 46 } Z h #[(.ref a), (.int ch)] (some (.int (ix_0 ch.toInt8.toInt32))) := by
  refine own_met (by decide +kernel) rfl rfl (Ls := #[.val (.ref a), .val (.int ch)]) (fun m => by first | (simp [entryFrame, mkF, argsToLocals, Value.category]; done) | rfl | (rcases ref_cases hg with rfl | ⟨y, rfl⟩ <;> first | (simp [entryFrame, mkF, argsToLocals, Value.category]; done) | rfl)) ?_
  intro p e s m below meth c K
  exact sio_b p l e s m _ below meth c Z a0 h hw a b kc z g S T ch c1 c2 K
theorem own_nlt {i n : Nat} (hi : i ≤ 4000) (hn : n ≤ 4000) : (Int32.ofNat i < Int32.ofNat n) ↔ i < n := by
  rw [Int32.lt_iff_toInt_lt, Int32.toInt_ofNat_of_lt (by omega), Int32.toInt_ofNat_of_lt (by omega)]; omega
theorem own_nn {i : Nat} (hi : i ≤ 4000) : ¬ Int32.ofNat i < 0 := by
  rw [Int32.lt_iff_toInt_lt, Int32.toInt_ofNat_of_lt (by omega)]
  have e : (0 : Int32).toInt = 0 := rfl
  omega
theorem own_nat {i : Nat} (hi : i ≤ 4000) : (Int32.ofNat i).toNatClampNeg = i := by
  simp only [Int32.toNatClampNeg, Int32.toInt_ofNat_of_lt (show i < 2 ^ 31 by omega)]; rfl
theorem own_inc (i : Nat) : Int32.ofNat i + Int32.ofInt 1 = Int32.ofNat (i + 1) := by rw [Int32.ofNat_add]; rfl
theorem own_ne0 {n : Nat} (h0 : 0 < n) (hn : n ≤ 4000) : ¬ Int32.ofNat n = 0 := fun q => by
  have e := congrArg Int32.toInt q
  rw [Int32.toInt_ofNat_of_lt (by omega)] at e
  have e0 : (0 : Int32).toInt = 0 := rfl
  omega
theorem own_st3 {A B C x3 : Slot} {v : Int32} (hx : x3 = .unset ∨ ∃ w : Value, x3 = .val w ∧ w.category = 1) : storeLocals #[A, B, C, x3] 3 (.int v) = some #[A, B, C, .val (.int v)] := XS.store1 (l := #[A, B, C, x3]) (i := 3) (o := x3) rfl hx rfl
section OwnV
variable {s Z : State} {EL : List (String × Nat)} {vm : Vm} {h h' : Heap}
theorem own_V_ext (E : Ext h h') (V : own_V s Z EL vm h) : own_V s Z EL vm h' := by
  obtain ⟨⟨k, hS, hk⟩, hC⟩ := V
  exact ⟨⟨k, hS, Nat.le_trans hk E.1⟩, hC.trans (CHr.ext E hC.1)⟩
theorem own_V_wr {a : Addr} {sl : Nat} {v : Value} (W : Wr h h' a sl v) (Sf : Safe Z EL vm h a) (V : own_V s Z EL vm h) : own_V s Z EL vm h' := by
  obtain ⟨⟨k, hS, hk⟩, hC⟩ := V
  exact ⟨⟨k, hS, by rw [W.size]; exact hk⟩, hC.trans (CHr.wr W Sf hC.1)⟩
theorem own_V_keep {ws : List Addr} (K : Keep h h' ws) (Sf : ∀ x ∈ ws, Safe Z EL vm h x) (V : own_V s Z EL vm h) : own_V s Z EL vm h' := by
  obtain ⟨⟨k, hS, hk⟩, hC⟩ := V
  exact ⟨⟨k, hS, Nat.le_trans hk K.1⟩, hC.trans (CHr.keep K Sf hC.1)⟩
end OwnV
def own_bs (cs : List Int32) : List Value := cs.map fun c => .int c.toInt8.toInt32
theorem own_at {cs ds : List Int32} {i : Nat} {ch : Int32} (h : cs.drop i = ch :: ds) : (own_bs cs).getD i (.int 0) = .int ch.toInt8.toInt32 ∧ cs.drop (i + 1) = ds ∧ ch ∈ cs := by
  have e : cs[i]? = some ch := by rw [← List.head?_drop, h]; rfl
  refine ⟨by simp [own_bs, List.getD, e], ?_, List.mem_of_getElem? e⟩
  rw [← List.drop_drop, h]; rfl
def tk_132 (ch : Int32) : Int32 := 1
def tk_136 (ch : Int32) : Int32 := 0
def tk_126 (ch : Int32) : Int32 := if ch = 126 then tk_132 ch else tk_136 ch
def tk_120 (ch : Int32) : Int32 := if ch = 124 then tk_132 ch else tk_126 ch
def tk_114 (ch : Int32) : Int32 := if ch = 96 then tk_132 ch else tk_120 ch
def tk_108 (ch : Int32) : Int32 := if ch = 95 then tk_132 ch else tk_114 ch
def tk_102 (ch : Int32) : Int32 := if ch = 94 then tk_132 ch else tk_108 ch
def tk_96 (ch : Int32) : Int32 := if ch = 46 then tk_132 ch else tk_102 ch
def tk_90 (ch : Int32) : Int32 := if ch = 45 then tk_132 ch else tk_96 ch
def tk_84 (ch : Int32) : Int32 := if ch = 43 then tk_132 ch else tk_90 ch
def tk_78 (ch : Int32) : Int32 := if ch = 42 then tk_132 ch else tk_84 ch
def tk_72 (ch : Int32) : Int32 := if ch = 39 then tk_132 ch else tk_78 ch
def tk_66 (ch : Int32) : Int32 := if ch = 38 then tk_132 ch else tk_72 ch
def tk_60 (ch : Int32) : Int32 := if ch = 37 then tk_132 ch else tk_66 ch
def tk_54 (ch : Int32) : Int32 := if ch = 36 then tk_132 ch else tk_60 ch
def tk_48 (ch : Int32) : Int32 := if ch = 35 then tk_132 ch else tk_54 ch
def tk_42 (ch : Int32) : Int32 := if ch = 33 then tk_132 ch else tk_48 ch
def tk_40 (ch : Int32) : Int32 := 1
def tk_34 (ch : Int32) : Int32 := if 57 < ch then tk_42 ch else tk_40 ch
def tk_28 (ch : Int32) : Int32 := if ch < 48 then tk_42 ch else tk_34 ch
def tk_26 (ch : Int32) : Int32 := 1
def tk_20 (ch : Int32) : Int32 := if 90 < ch then tk_28 ch else tk_26 ch
def tk_14 (ch : Int32) : Int32 := if ch < 65 then tk_28 ch else tk_20 ch
def tk_12 (ch : Int32) : Int32 := 1
def tk_6 (ch : Int32) : Int32 := if 122 < ch then tk_14 ch else tk_12 ch
def tk_0 (ch : Int32) : Int32 := if ch < 97 then tk_14 ch else tk_6 ch
theorem tkl_132 (p : Program) (l : Launch) (e : Env) (s : State) (m : MethodId) (args : Array Value) (below : List Frame) (meth : Method) (c : Code) (Z : State) (a0 : Array Value) (h : Heap) (R : Room) (hw : ∀ d ∈ tables_1, d.before a0 Z = true) (ch : Int32) (K : own_C p s m meth c Z method_2_code "com/example/brokkr/brokkr/HttpSyntaxHeaderNamePinLaw" (some .boolean) 1) :
    own_E p l e R s m args below meth c h [] 0 0 132 #[.val (.int ch)] [] (own_P s below h (some (.int (tk_132 ch)))) := by
  refine own_iconst K (pc := 132) d11_132 (x := (1 : Int32)) (by decide) ?_
  refine own_goto K (pc := 133) (pc' := 137) d11_133 (by decide) (by decide) ?_
  exact own_retZ K (pc := 137) d11_137 rfl
theorem tkl_136 (p : Program) (l : Launch) (e : Env) (s : State) (m : MethodId) (args : Array Value) (below : List Frame) (meth : Method) (c : Code) (Z : State) (a0 : Array Value) (h : Heap) (R : Room) (hw : ∀ d ∈ tables_1, d.before a0 Z = true) (ch : Int32) (K : own_C p s m meth c Z method_2_code "com/example/brokkr/brokkr/HttpSyntaxHeaderNamePinLaw" (some .boolean) 1) :
    own_E p l e R s m args below meth c h [] 0 0 136 #[.val (.int ch)] [] (own_P s below h (some (.int (tk_136 ch)))) := by
  refine own_iconst K (pc := 136) d11_136 (x := (0 : Int32)) (by decide) ?_
  exact own_retZ K (pc := 137) d11_137 rfl
theorem tkl_126 (p : Program) (l : Launch) (e : Env) (s : State) (m : MethodId) (args : Array Value) (below : List Frame) (meth : Method) (c : Code) (Z : State) (a0 : Array Value) (h : Heap) (R : Room) (hw : ∀ d ∈ tables_1, d.before a0 Z = true) (ch : Int32) (K : own_C p s m meth c Z method_2_code "com/example/brokkr/brokkr/HttpSyntaxHeaderNamePinLaw" (some .boolean) 1) :
    own_E p l e R s m args below meth c h [] 0 0 126 #[.val (.int ch)] [] (own_P s below h (some (.int (tk_126 ch)))) := by
  by_cases q : ch = 126
  · rw [show tk_126 ch = tk_132 ch from if_pos q]
    refine own_iloadN K (pc := 126) d11_126 rfl ?_
    refine own_bipush K (pc := 127) d11_127 (x := (126 : Int32)) (by decide) ?_
    refine own_icmpN K (pc := 129) d11_129 (teq q).2 ?_
    exact tkl_132 p l e s m args below meth c Z a0 h R hw ch K
  · rw [show tk_126 ch = tk_136 ch from if_neg q]
    refine own_iloadN K (pc := 126) d11_126 rfl ?_
    refine own_bipush K (pc := 127) d11_127 (x := (126 : Int32)) (by decide) ?_
    refine own_icmpY K (pc := 129) (pc' := 136) d11_129 (feq q).2 (by decide) (by decide) ?_
    exact tkl_136 p l e s m args below meth c Z a0 h R hw ch K
theorem tkl_120 (p : Program) (l : Launch) (e : Env) (s : State) (m : MethodId) (args : Array Value) (below : List Frame) (meth : Method) (c : Code) (Z : State) (a0 : Array Value) (h : Heap) (R : Room) (hw : ∀ d ∈ tables_1, d.before a0 Z = true) (ch : Int32) (K : own_C p s m meth c Z method_2_code "com/example/brokkr/brokkr/HttpSyntaxHeaderNamePinLaw" (some .boolean) 1) :
    own_E p l e R s m args below meth c h [] 0 0 120 #[.val (.int ch)] [] (own_P s below h (some (.int (tk_120 ch)))) := by
  by_cases q : ch = 124
  · rw [show tk_120 ch = tk_132 ch from if_pos q]
    refine own_iloadN K (pc := 120) d11_120 rfl ?_
    refine own_bipush K (pc := 121) d11_121 (x := (124 : Int32)) (by decide) ?_
    refine own_icmpY K (pc := 123) (pc' := 132) d11_123 (teq q).1 (by decide) (by decide) ?_
    exact tkl_132 p l e s m args below meth c Z a0 h R hw ch K
  · rw [show tk_120 ch = tk_126 ch from if_neg q]
    refine own_iloadN K (pc := 120) d11_120 rfl ?_
    refine own_bipush K (pc := 121) d11_121 (x := (124 : Int32)) (by decide) ?_
    refine own_icmpN K (pc := 123) d11_123 (feq q).1 ?_
    exact tkl_126 p l e s m args below meth c Z a0 h R hw ch K
theorem tkl_114 (p : Program) (l : Launch) (e : Env) (s : State) (m : MethodId) (args : Array Value) (below : List Frame) (meth : Method) (c : Code) (Z : State) (a0 : Array Value) (h : Heap) (R : Room) (hw : ∀ d ∈ tables_1, d.before a0 Z = true) (ch : Int32) (K : own_C p s m meth c Z method_2_code "com/example/brokkr/brokkr/HttpSyntaxHeaderNamePinLaw" (some .boolean) 1) :
    own_E p l e R s m args below meth c h [] 0 0 114 #[.val (.int ch)] [] (own_P s below h (some (.int (tk_114 ch)))) := by
  by_cases q : ch = 96
  · rw [show tk_114 ch = tk_132 ch from if_pos q]
    refine own_iloadN K (pc := 114) d11_114 rfl ?_
    refine own_bipush K (pc := 115) d11_115 (x := (96 : Int32)) (by decide) ?_
    refine own_icmpY K (pc := 117) (pc' := 132) d11_117 (teq q).1 (by decide) (by decide) ?_
    exact tkl_132 p l e s m args below meth c Z a0 h R hw ch K
  · rw [show tk_114 ch = tk_120 ch from if_neg q]
    refine own_iloadN K (pc := 114) d11_114 rfl ?_
    refine own_bipush K (pc := 115) d11_115 (x := (96 : Int32)) (by decide) ?_
    refine own_icmpN K (pc := 117) d11_117 (feq q).1 ?_
    exact tkl_120 p l e s m args below meth c Z a0 h R hw ch K
theorem tkl_108 (p : Program) (l : Launch) (e : Env) (s : State) (m : MethodId) (args : Array Value) (below : List Frame) (meth : Method) (c : Code) (Z : State) (a0 : Array Value) (h : Heap) (R : Room) (hw : ∀ d ∈ tables_1, d.before a0 Z = true) (ch : Int32) (K : own_C p s m meth c Z method_2_code "com/example/brokkr/brokkr/HttpSyntaxHeaderNamePinLaw" (some .boolean) 1) :
    own_E p l e R s m args below meth c h [] 0 0 108 #[.val (.int ch)] [] (own_P s below h (some (.int (tk_108 ch)))) := by
  by_cases q : ch = 95
  · rw [show tk_108 ch = tk_132 ch from if_pos q]
    refine own_iloadN K (pc := 108) d11_108 rfl ?_
    refine own_bipush K (pc := 109) d11_109 (x := (95 : Int32)) (by decide) ?_
    refine own_icmpY K (pc := 111) (pc' := 132) d11_111 (teq q).1 (by decide) (by decide) ?_
    exact tkl_132 p l e s m args below meth c Z a0 h R hw ch K
  · rw [show tk_108 ch = tk_114 ch from if_neg q]
    refine own_iloadN K (pc := 108) d11_108 rfl ?_
    refine own_bipush K (pc := 109) d11_109 (x := (95 : Int32)) (by decide) ?_
    refine own_icmpN K (pc := 111) d11_111 (feq q).1 ?_
    exact tkl_114 p l e s m args below meth c Z a0 h R hw ch K
theorem tkl_102 (p : Program) (l : Launch) (e : Env) (s : State) (m : MethodId) (args : Array Value) (below : List Frame) (meth : Method) (c : Code) (Z : State) (a0 : Array Value) (h : Heap) (R : Room) (hw : ∀ d ∈ tables_1, d.before a0 Z = true) (ch : Int32) (K : own_C p s m meth c Z method_2_code "com/example/brokkr/brokkr/HttpSyntaxHeaderNamePinLaw" (some .boolean) 1) :
    own_E p l e R s m args below meth c h [] 0 0 102 #[.val (.int ch)] [] (own_P s below h (some (.int (tk_102 ch)))) := by
  by_cases q : ch = 94
  · rw [show tk_102 ch = tk_132 ch from if_pos q]
    refine own_iloadN K (pc := 102) d11_102 rfl ?_
    refine own_bipush K (pc := 103) d11_103 (x := (94 : Int32)) (by decide) ?_
    refine own_icmpY K (pc := 105) (pc' := 132) d11_105 (teq q).1 (by decide) (by decide) ?_
    exact tkl_132 p l e s m args below meth c Z a0 h R hw ch K
  · rw [show tk_102 ch = tk_108 ch from if_neg q]
    refine own_iloadN K (pc := 102) d11_102 rfl ?_
    refine own_bipush K (pc := 103) d11_103 (x := (94 : Int32)) (by decide) ?_
    refine own_icmpN K (pc := 105) d11_105 (feq q).1 ?_
    exact tkl_108 p l e s m args below meth c Z a0 h R hw ch K
theorem tkl_96 (p : Program) (l : Launch) (e : Env) (s : State) (m : MethodId) (args : Array Value) (below : List Frame) (meth : Method) (c : Code) (Z : State) (a0 : Array Value) (h : Heap) (R : Room) (hw : ∀ d ∈ tables_1, d.before a0 Z = true) (ch : Int32) (K : own_C p s m meth c Z method_2_code "com/example/brokkr/brokkr/HttpSyntaxHeaderNamePinLaw" (some .boolean) 1) :
    own_E p l e R s m args below meth c h [] 0 0 96 #[.val (.int ch)] [] (own_P s below h (some (.int (tk_96 ch)))) := by
  by_cases q : ch = 46
  · rw [show tk_96 ch = tk_132 ch from if_pos q]
    refine own_iloadN K (pc := 96) d11_96 rfl ?_
    refine own_bipush K (pc := 97) d11_97 (x := (46 : Int32)) (by decide) ?_
    refine own_icmpY K (pc := 99) (pc' := 132) d11_99 (teq q).1 (by decide) (by decide) ?_
    exact tkl_132 p l e s m args below meth c Z a0 h R hw ch K
  · rw [show tk_96 ch = tk_102 ch from if_neg q]
    refine own_iloadN K (pc := 96) d11_96 rfl ?_
    refine own_bipush K (pc := 97) d11_97 (x := (46 : Int32)) (by decide) ?_
    refine own_icmpN K (pc := 99) d11_99 (feq q).1 ?_
    exact tkl_102 p l e s m args below meth c Z a0 h R hw ch K
theorem tkl_90 (p : Program) (l : Launch) (e : Env) (s : State) (m : MethodId) (args : Array Value) (below : List Frame) (meth : Method) (c : Code) (Z : State) (a0 : Array Value) (h : Heap) (R : Room) (hw : ∀ d ∈ tables_1, d.before a0 Z = true) (ch : Int32) (K : own_C p s m meth c Z method_2_code "com/example/brokkr/brokkr/HttpSyntaxHeaderNamePinLaw" (some .boolean) 1) :
    own_E p l e R s m args below meth c h [] 0 0 90 #[.val (.int ch)] [] (own_P s below h (some (.int (tk_90 ch)))) := by
  by_cases q : ch = 45
  · rw [show tk_90 ch = tk_132 ch from if_pos q]
    refine own_iloadN K (pc := 90) d11_90 rfl ?_
    refine own_bipush K (pc := 91) d11_91 (x := (45 : Int32)) (by decide) ?_
    refine own_icmpY K (pc := 93) (pc' := 132) d11_93 (teq q).1 (by decide) (by decide) ?_
    exact tkl_132 p l e s m args below meth c Z a0 h R hw ch K
  · rw [show tk_90 ch = tk_96 ch from if_neg q]
    refine own_iloadN K (pc := 90) d11_90 rfl ?_
    refine own_bipush K (pc := 91) d11_91 (x := (45 : Int32)) (by decide) ?_
    refine own_icmpN K (pc := 93) d11_93 (feq q).1 ?_
    exact tkl_96 p l e s m args below meth c Z a0 h R hw ch K
theorem tkl_84 (p : Program) (l : Launch) (e : Env) (s : State) (m : MethodId) (args : Array Value) (below : List Frame) (meth : Method) (c : Code) (Z : State) (a0 : Array Value) (h : Heap) (R : Room) (hw : ∀ d ∈ tables_1, d.before a0 Z = true) (ch : Int32) (K : own_C p s m meth c Z method_2_code "com/example/brokkr/brokkr/HttpSyntaxHeaderNamePinLaw" (some .boolean) 1) :
    own_E p l e R s m args below meth c h [] 0 0 84 #[.val (.int ch)] [] (own_P s below h (some (.int (tk_84 ch)))) := by
  by_cases q : ch = 43
  · rw [show tk_84 ch = tk_132 ch from if_pos q]
    refine own_iloadN K (pc := 84) d11_84 rfl ?_
    refine own_bipush K (pc := 85) d11_85 (x := (43 : Int32)) (by decide) ?_
    refine own_icmpY K (pc := 87) (pc' := 132) d11_87 (teq q).1 (by decide) (by decide) ?_
    exact tkl_132 p l e s m args below meth c Z a0 h R hw ch K
  · rw [show tk_84 ch = tk_90 ch from if_neg q]
    refine own_iloadN K (pc := 84) d11_84 rfl ?_
    refine own_bipush K (pc := 85) d11_85 (x := (43 : Int32)) (by decide) ?_
    refine own_icmpN K (pc := 87) d11_87 (feq q).1 ?_
    exact tkl_90 p l e s m args below meth c Z a0 h R hw ch K
theorem tkl_78 (p : Program) (l : Launch) (e : Env) (s : State) (m : MethodId) (args : Array Value) (below : List Frame) (meth : Method) (c : Code) (Z : State) (a0 : Array Value) (h : Heap) (R : Room) (hw : ∀ d ∈ tables_1, d.before a0 Z = true) (ch : Int32) (K : own_C p s m meth c Z method_2_code "com/example/brokkr/brokkr/HttpSyntaxHeaderNamePinLaw" (some .boolean) 1) :
    own_E p l e R s m args below meth c h [] 0 0 78 #[.val (.int ch)] [] (own_P s below h (some (.int (tk_78 ch)))) := by
  by_cases q : ch = 42
  · rw [show tk_78 ch = tk_132 ch from if_pos q]
    refine own_iloadN K (pc := 78) d11_78 rfl ?_
    refine own_bipush K (pc := 79) d11_79 (x := (42 : Int32)) (by decide) ?_
    refine own_icmpY K (pc := 81) (pc' := 132) d11_81 (teq q).1 (by decide) (by decide) ?_
    exact tkl_132 p l e s m args below meth c Z a0 h R hw ch K
  · rw [show tk_78 ch = tk_84 ch from if_neg q]
    refine own_iloadN K (pc := 78) d11_78 rfl ?_
    refine own_bipush K (pc := 79) d11_79 (x := (42 : Int32)) (by decide) ?_
    refine own_icmpN K (pc := 81) d11_81 (feq q).1 ?_
    exact tkl_84 p l e s m args below meth c Z a0 h R hw ch K
theorem tkl_72 (p : Program) (l : Launch) (e : Env) (s : State) (m : MethodId) (args : Array Value) (below : List Frame) (meth : Method) (c : Code) (Z : State) (a0 : Array Value) (h : Heap) (R : Room) (hw : ∀ d ∈ tables_1, d.before a0 Z = true) (ch : Int32) (K : own_C p s m meth c Z method_2_code "com/example/brokkr/brokkr/HttpSyntaxHeaderNamePinLaw" (some .boolean) 1) :
    own_E p l e R s m args below meth c h [] 0 0 72 #[.val (.int ch)] [] (own_P s below h (some (.int (tk_72 ch)))) := by
  by_cases q : ch = 39
  · rw [show tk_72 ch = tk_132 ch from if_pos q]
    refine own_iloadN K (pc := 72) d11_72 rfl ?_
    refine own_bipush K (pc := 73) d11_73 (x := (39 : Int32)) (by decide) ?_
    refine own_icmpY K (pc := 75) (pc' := 132) d11_75 (teq q).1 (by decide) (by decide) ?_
    exact tkl_132 p l e s m args below meth c Z a0 h R hw ch K
  · rw [show tk_72 ch = tk_78 ch from if_neg q]
    refine own_iloadN K (pc := 72) d11_72 rfl ?_
    refine own_bipush K (pc := 73) d11_73 (x := (39 : Int32)) (by decide) ?_
    refine own_icmpN K (pc := 75) d11_75 (feq q).1 ?_
    exact tkl_78 p l e s m args below meth c Z a0 h R hw ch K
theorem tkl_66 (p : Program) (l : Launch) (e : Env) (s : State) (m : MethodId) (args : Array Value) (below : List Frame) (meth : Method) (c : Code) (Z : State) (a0 : Array Value) (h : Heap) (R : Room) (hw : ∀ d ∈ tables_1, d.before a0 Z = true) (ch : Int32) (K : own_C p s m meth c Z method_2_code "com/example/brokkr/brokkr/HttpSyntaxHeaderNamePinLaw" (some .boolean) 1) :
    own_E p l e R s m args below meth c h [] 0 0 66 #[.val (.int ch)] [] (own_P s below h (some (.int (tk_66 ch)))) := by
  by_cases q : ch = 38
  · rw [show tk_66 ch = tk_132 ch from if_pos q]
    refine own_iloadN K (pc := 66) d11_66 rfl ?_
    refine own_bipush K (pc := 67) d11_67 (x := (38 : Int32)) (by decide) ?_
    refine own_icmpY K (pc := 69) (pc' := 132) d11_69 (teq q).1 (by decide) (by decide) ?_
    exact tkl_132 p l e s m args below meth c Z a0 h R hw ch K
  · rw [show tk_66 ch = tk_72 ch from if_neg q]
    refine own_iloadN K (pc := 66) d11_66 rfl ?_
    refine own_bipush K (pc := 67) d11_67 (x := (38 : Int32)) (by decide) ?_
    refine own_icmpN K (pc := 69) d11_69 (feq q).1 ?_
    exact tkl_72 p l e s m args below meth c Z a0 h R hw ch K
theorem tkl_60 (p : Program) (l : Launch) (e : Env) (s : State) (m : MethodId) (args : Array Value) (below : List Frame) (meth : Method) (c : Code) (Z : State) (a0 : Array Value) (h : Heap) (R : Room) (hw : ∀ d ∈ tables_1, d.before a0 Z = true) (ch : Int32) (K : own_C p s m meth c Z method_2_code "com/example/brokkr/brokkr/HttpSyntaxHeaderNamePinLaw" (some .boolean) 1) :
    own_E p l e R s m args below meth c h [] 0 0 60 #[.val (.int ch)] [] (own_P s below h (some (.int (tk_60 ch)))) := by
  by_cases q : ch = 37
  · rw [show tk_60 ch = tk_132 ch from if_pos q]
    refine own_iloadN K (pc := 60) d11_60 rfl ?_
    refine own_bipush K (pc := 61) d11_61 (x := (37 : Int32)) (by decide) ?_
    refine own_icmpY K (pc := 63) (pc' := 132) d11_63 (teq q).1 (by decide) (by decide) ?_
    exact tkl_132 p l e s m args below meth c Z a0 h R hw ch K
  · rw [show tk_60 ch = tk_66 ch from if_neg q]
    refine own_iloadN K (pc := 60) d11_60 rfl ?_
    refine own_bipush K (pc := 61) d11_61 (x := (37 : Int32)) (by decide) ?_
    refine own_icmpN K (pc := 63) d11_63 (feq q).1 ?_
    exact tkl_66 p l e s m args below meth c Z a0 h R hw ch K
theorem tkl_54 (p : Program) (l : Launch) (e : Env) (s : State) (m : MethodId) (args : Array Value) (below : List Frame) (meth : Method) (c : Code) (Z : State) (a0 : Array Value) (h : Heap) (R : Room) (hw : ∀ d ∈ tables_1, d.before a0 Z = true) (ch : Int32) (K : own_C p s m meth c Z method_2_code "com/example/brokkr/brokkr/HttpSyntaxHeaderNamePinLaw" (some .boolean) 1) :
    own_E p l e R s m args below meth c h [] 0 0 54 #[.val (.int ch)] [] (own_P s below h (some (.int (tk_54 ch)))) := by
  by_cases q : ch = 36
  · rw [show tk_54 ch = tk_132 ch from if_pos q]
    refine own_iloadN K (pc := 54) d11_54 rfl ?_
    refine own_bipush K (pc := 55) d11_55 (x := (36 : Int32)) (by decide) ?_
    refine own_icmpY K (pc := 57) (pc' := 132) d11_57 (teq q).1 (by decide) (by decide) ?_
    exact tkl_132 p l e s m args below meth c Z a0 h R hw ch K
  · rw [show tk_54 ch = tk_60 ch from if_neg q]
    refine own_iloadN K (pc := 54) d11_54 rfl ?_
    refine own_bipush K (pc := 55) d11_55 (x := (36 : Int32)) (by decide) ?_
    refine own_icmpN K (pc := 57) d11_57 (feq q).1 ?_
    exact tkl_60 p l e s m args below meth c Z a0 h R hw ch K
theorem tkl_48 (p : Program) (l : Launch) (e : Env) (s : State) (m : MethodId) (args : Array Value) (below : List Frame) (meth : Method) (c : Code) (Z : State) (a0 : Array Value) (h : Heap) (R : Room) (hw : ∀ d ∈ tables_1, d.before a0 Z = true) (ch : Int32) (K : own_C p s m meth c Z method_2_code "com/example/brokkr/brokkr/HttpSyntaxHeaderNamePinLaw" (some .boolean) 1) :
    own_E p l e R s m args below meth c h [] 0 0 48 #[.val (.int ch)] [] (own_P s below h (some (.int (tk_48 ch)))) := by
  by_cases q : ch = 35
  · rw [show tk_48 ch = tk_132 ch from if_pos q]
    refine own_iloadN K (pc := 48) d11_48 rfl ?_
    refine own_bipush K (pc := 49) d11_49 (x := (35 : Int32)) (by decide) ?_
    refine own_icmpY K (pc := 51) (pc' := 132) d11_51 (teq q).1 (by decide) (by decide) ?_
    exact tkl_132 p l e s m args below meth c Z a0 h R hw ch K
  · rw [show tk_48 ch = tk_54 ch from if_neg q]
    refine own_iloadN K (pc := 48) d11_48 rfl ?_
    refine own_bipush K (pc := 49) d11_49 (x := (35 : Int32)) (by decide) ?_
    refine own_icmpN K (pc := 51) d11_51 (feq q).1 ?_
    exact tkl_54 p l e s m args below meth c Z a0 h R hw ch K
theorem tkl_42 (p : Program) (l : Launch) (e : Env) (s : State) (m : MethodId) (args : Array Value) (below : List Frame) (meth : Method) (c : Code) (Z : State) (a0 : Array Value) (h : Heap) (R : Room) (hw : ∀ d ∈ tables_1, d.before a0 Z = true) (ch : Int32) (K : own_C p s m meth c Z method_2_code "com/example/brokkr/brokkr/HttpSyntaxHeaderNamePinLaw" (some .boolean) 1) :
    own_E p l e R s m args below meth c h [] 0 0 42 #[.val (.int ch)] [] (own_P s below h (some (.int (tk_42 ch)))) := by
  by_cases q : ch = 33
  · rw [show tk_42 ch = tk_132 ch from if_pos q]
    refine own_iloadN K (pc := 42) d11_42 rfl ?_
    refine own_bipush K (pc := 43) d11_43 (x := (33 : Int32)) (by decide) ?_
    refine own_icmpY K (pc := 45) (pc' := 132) d11_45 (teq q).1 (by decide) (by decide) ?_
    exact tkl_132 p l e s m args below meth c Z a0 h R hw ch K
  · rw [show tk_42 ch = tk_48 ch from if_neg q]
    refine own_iloadN K (pc := 42) d11_42 rfl ?_
    refine own_bipush K (pc := 43) d11_43 (x := (33 : Int32)) (by decide) ?_
    refine own_icmpN K (pc := 45) d11_45 (feq q).1 ?_
    exact tkl_48 p l e s m args below meth c Z a0 h R hw ch K
theorem tkl_40 (p : Program) (l : Launch) (e : Env) (s : State) (m : MethodId) (args : Array Value) (below : List Frame) (meth : Method) (c : Code) (Z : State) (a0 : Array Value) (h : Heap) (R : Room) (hw : ∀ d ∈ tables_1, d.before a0 Z = true) (ch : Int32) (K : own_C p s m meth c Z method_2_code "com/example/brokkr/brokkr/HttpSyntaxHeaderNamePinLaw" (some .boolean) 1) :
    own_E p l e R s m args below meth c h [] 0 0 40 #[.val (.int ch)] [] (own_P s below h (some (.int (tk_40 ch)))) := by
  refine own_iconst K (pc := 40) d11_40 (x := (1 : Int32)) (by decide) ?_
  exact own_retZ K (pc := 41) d11_41 rfl
theorem tkl_34 (p : Program) (l : Launch) (e : Env) (s : State) (m : MethodId) (args : Array Value) (below : List Frame) (meth : Method) (c : Code) (Z : State) (a0 : Array Value) (h : Heap) (R : Room) (hw : ∀ d ∈ tables_1, d.before a0 Z = true) (ch : Int32) (K : own_C p s m meth c Z method_2_code "com/example/brokkr/brokkr/HttpSyntaxHeaderNamePinLaw" (some .boolean) 1) :
    own_E p l e R s m args below meth c h [] 0 0 34 #[.val (.int ch)] [] (own_P s below h (some (.int (tk_34 ch)))) := by
  by_cases q : 57 < ch
  · rw [show tk_34 ch = tk_42 ch from if_pos q]
    refine own_iloadN K (pc := 34) d11_34 rfl ?_
    refine own_bipush K (pc := 35) d11_35 (x := (57 : Int32)) (by decide) ?_
    refine own_icmpY K (pc := 37) (pc' := 42) d11_37 (tlt q).2.2.1 (by decide) (by decide) ?_
    exact tkl_42 p l e s m args below meth c Z a0 h R hw ch K
  · rw [show tk_34 ch = tk_40 ch from if_neg q]
    refine own_iloadN K (pc := 34) d11_34 rfl ?_
    refine own_bipush K (pc := 35) d11_35 (x := (57 : Int32)) (by decide) ?_
    refine own_icmpN K (pc := 37) d11_37 (flt q).2.2.1 ?_
    exact tkl_40 p l e s m args below meth c Z a0 h R hw ch K
theorem tkl_28 (p : Program) (l : Launch) (e : Env) (s : State) (m : MethodId) (args : Array Value) (below : List Frame) (meth : Method) (c : Code) (Z : State) (a0 : Array Value) (h : Heap) (R : Room) (hw : ∀ d ∈ tables_1, d.before a0 Z = true) (ch : Int32) (K : own_C p s m meth c Z method_2_code "com/example/brokkr/brokkr/HttpSyntaxHeaderNamePinLaw" (some .boolean) 1) :
    own_E p l e R s m args below meth c h [] 0 0 28 #[.val (.int ch)] [] (own_P s below h (some (.int (tk_28 ch)))) := by
  by_cases q : ch < 48
  · rw [show tk_28 ch = tk_42 ch from if_pos q]
    refine own_iloadN K (pc := 28) d11_28 rfl ?_
    refine own_bipush K (pc := 29) d11_29 (x := (48 : Int32)) (by decide) ?_
    refine own_icmpY K (pc := 31) (pc' := 42) d11_31 (tlt q).1 (by decide) (by decide) ?_
    exact tkl_42 p l e s m args below meth c Z a0 h R hw ch K
  · rw [show tk_28 ch = tk_34 ch from if_neg q]
    refine own_iloadN K (pc := 28) d11_28 rfl ?_
    refine own_bipush K (pc := 29) d11_29 (x := (48 : Int32)) (by decide) ?_
    refine own_icmpN K (pc := 31) d11_31 (flt q).1 ?_
    exact tkl_34 p l e s m args below meth c Z a0 h R hw ch K
theorem tkl_26 (p : Program) (l : Launch) (e : Env) (s : State) (m : MethodId) (args : Array Value) (below : List Frame) (meth : Method) (c : Code) (Z : State) (a0 : Array Value) (h : Heap) (R : Room) (hw : ∀ d ∈ tables_1, d.before a0 Z = true) (ch : Int32) (K : own_C p s m meth c Z method_2_code "com/example/brokkr/brokkr/HttpSyntaxHeaderNamePinLaw" (some .boolean) 1) :
    own_E p l e R s m args below meth c h [] 0 0 26 #[.val (.int ch)] [] (own_P s below h (some (.int (tk_26 ch)))) := by
  refine own_iconst K (pc := 26) d11_26 (x := (1 : Int32)) (by decide) ?_
  exact own_retZ K (pc := 27) d11_27 rfl
theorem tkl_20 (p : Program) (l : Launch) (e : Env) (s : State) (m : MethodId) (args : Array Value) (below : List Frame) (meth : Method) (c : Code) (Z : State) (a0 : Array Value) (h : Heap) (R : Room) (hw : ∀ d ∈ tables_1, d.before a0 Z = true) (ch : Int32) (K : own_C p s m meth c Z method_2_code "com/example/brokkr/brokkr/HttpSyntaxHeaderNamePinLaw" (some .boolean) 1) :
    own_E p l e R s m args below meth c h [] 0 0 20 #[.val (.int ch)] [] (own_P s below h (some (.int (tk_20 ch)))) := by
  by_cases q : 90 < ch
  · rw [show tk_20 ch = tk_28 ch from if_pos q]
    refine own_iloadN K (pc := 20) d11_20 rfl ?_
    refine own_bipush K (pc := 21) d11_21 (x := (90 : Int32)) (by decide) ?_
    refine own_icmpY K (pc := 23) (pc' := 28) d11_23 (tlt q).2.2.1 (by decide) (by decide) ?_
    exact tkl_28 p l e s m args below meth c Z a0 h R hw ch K
  · rw [show tk_20 ch = tk_26 ch from if_neg q]
    refine own_iloadN K (pc := 20) d11_20 rfl ?_
    refine own_bipush K (pc := 21) d11_21 (x := (90 : Int32)) (by decide) ?_
    refine own_icmpN K (pc := 23) d11_23 (flt q).2.2.1 ?_
    exact tkl_26 p l e s m args below meth c Z a0 h R hw ch K
theorem tkl_14 (p : Program) (l : Launch) (e : Env) (s : State) (m : MethodId) (args : Array Value) (below : List Frame) (meth : Method) (c : Code) (Z : State) (a0 : Array Value) (h : Heap) (R : Room) (hw : ∀ d ∈ tables_1, d.before a0 Z = true) (ch : Int32) (K : own_C p s m meth c Z method_2_code "com/example/brokkr/brokkr/HttpSyntaxHeaderNamePinLaw" (some .boolean) 1) :
    own_E p l e R s m args below meth c h [] 0 0 14 #[.val (.int ch)] [] (own_P s below h (some (.int (tk_14 ch)))) := by
  by_cases q : ch < 65
  · rw [show tk_14 ch = tk_28 ch from if_pos q]
    refine own_iloadN K (pc := 14) d11_14 rfl ?_
    refine own_bipush K (pc := 15) d11_15 (x := (65 : Int32)) (by decide) ?_
    refine own_icmpY K (pc := 17) (pc' := 28) d11_17 (tlt q).1 (by decide) (by decide) ?_
    exact tkl_28 p l e s m args below meth c Z a0 h R hw ch K
  · rw [show tk_14 ch = tk_20 ch from if_neg q]
    refine own_iloadN K (pc := 14) d11_14 rfl ?_
    refine own_bipush K (pc := 15) d11_15 (x := (65 : Int32)) (by decide) ?_
    refine own_icmpN K (pc := 17) d11_17 (flt q).1 ?_
    exact tkl_20 p l e s m args below meth c Z a0 h R hw ch K
theorem tkl_12 (p : Program) (l : Launch) (e : Env) (s : State) (m : MethodId) (args : Array Value) (below : List Frame) (meth : Method) (c : Code) (Z : State) (a0 : Array Value) (h : Heap) (R : Room) (hw : ∀ d ∈ tables_1, d.before a0 Z = true) (ch : Int32) (K : own_C p s m meth c Z method_2_code "com/example/brokkr/brokkr/HttpSyntaxHeaderNamePinLaw" (some .boolean) 1) :
    own_E p l e R s m args below meth c h [] 0 0 12 #[.val (.int ch)] [] (own_P s below h (some (.int (tk_12 ch)))) := by
  refine own_iconst K (pc := 12) d11_12 (x := (1 : Int32)) (by decide) ?_
  exact own_retZ K (pc := 13) d11_13 rfl
theorem tkl_6 (p : Program) (l : Launch) (e : Env) (s : State) (m : MethodId) (args : Array Value) (below : List Frame) (meth : Method) (c : Code) (Z : State) (a0 : Array Value) (h : Heap) (R : Room) (hw : ∀ d ∈ tables_1, d.before a0 Z = true) (ch : Int32) (K : own_C p s m meth c Z method_2_code "com/example/brokkr/brokkr/HttpSyntaxHeaderNamePinLaw" (some .boolean) 1) :
    own_E p l e R s m args below meth c h [] 0 0 6 #[.val (.int ch)] [] (own_P s below h (some (.int (tk_6 ch)))) := by
  by_cases q : 122 < ch
  · rw [show tk_6 ch = tk_14 ch from if_pos q]
    refine own_iloadN K (pc := 6) d11_6 rfl ?_
    refine own_bipush K (pc := 7) d11_7 (x := (122 : Int32)) (by decide) ?_
    refine own_icmpY K (pc := 9) (pc' := 14) d11_9 (tlt q).2.2.1 (by decide) (by decide) ?_
    exact tkl_14 p l e s m args below meth c Z a0 h R hw ch K
  · rw [show tk_6 ch = tk_12 ch from if_neg q]
    refine own_iloadN K (pc := 6) d11_6 rfl ?_
    refine own_bipush K (pc := 7) d11_7 (x := (122 : Int32)) (by decide) ?_
    refine own_icmpN K (pc := 9) d11_9 (flt q).2.2.1 ?_
    exact tkl_12 p l e s m args below meth c Z a0 h R hw ch K
theorem tkl_0 (p : Program) (l : Launch) (e : Env) (s : State) (m : MethodId) (args : Array Value) (below : List Frame) (meth : Method) (c : Code) (Z : State) (a0 : Array Value) (h : Heap) (R : Room) (hw : ∀ d ∈ tables_1, d.before a0 Z = true) (ch : Int32) (K : own_C p s m meth c Z method_2_code "com/example/brokkr/brokkr/HttpSyntaxHeaderNamePinLaw" (some .boolean) 1) :
    own_E p l e R s m args below meth c h [] 0 0 0 #[.val (.int ch)] [] (own_P s below h (some (.int (tk_0 ch)))) := by
  by_cases q : ch < 97
  · rw [show tk_0 ch = tk_14 ch from if_pos q]
    refine own_iloadN K (pc := 0) d11_0 rfl ?_
    refine own_bipush K (pc := 1) d11_1 (x := (97 : Int32)) (by decide) ?_
    refine own_icmpY K (pc := 3) (pc' := 14) d11_3 (tlt q).1 (by decide) (by decide) ?_
    exact tkl_14 p l e s m args below meth c Z a0 h R hw ch K
  · rw [show tk_0 ch = tk_6 ch from if_neg q]
    refine own_iloadN K (pc := 0) d11_0 rfl ?_
    refine own_bipush K (pc := 1) d11_1 (x := (97 : Int32)) (by decide) ?_
    refine own_icmpN K (pc := 3) d11_3 (flt q).1 ?_
    exact tkl_6 p l e s m args below meth c Z a0 h R hw ch K
theorem tk (l : Launch) (Z : State) (a0 : Array Value) (h : Heap) (hw : ∀ d ∈ tables_1, d.before a0 Z = true) (ch : Int32) : own_M l (⟨"com/example/brokkr/brokkr/HttpSyntaxHeaderNamePinLaw", "refTok", "(C)Z"⟩ : MethodName) method_2_code 1 (some .boolean) [] { frames := 0, cells := 0, slots := 0, locals := 0 } Z h #[(.int ch)] (some (.int (tk_0 ch))) := by
  refine own_met (by decide +kernel) rfl rfl (Ls := #[.val (.int ch)]) (fun m => by first | (simp [entryFrame, mkF, argsToLocals, Value.category]; done) | rfl | (rcases ref_cases hg with rfl | ⟨y, rfl⟩ <;> first | (simp [entryFrame, mkF, argsToLocals, Value.category]; done) | rfl)) ?_
  intro p e s m below meth c K
  exact tkl_0 p l e s m _ below meth c Z a0 h _ hw ch K
theorem own_EL {Z : State} {a0 : Array Value} (hw : ∀ d ∈ tables_1, d.before a0 Z = true) : EW Z a0 consts_1 := EW.cons (hw _ (List.mem_of_getElem? (i := 85) rfl)) (by decide) (EW.cons (hw _ (List.mem_of_getElem? (i := 118) rfl)) (by decide) (EW.cons (hw _ (List.mem_of_getElem? (i := 113) rfl)) (by decide) (EW.cons (hw _ (List.mem_of_getElem? (i := 22) rfl)) (by decide) (EW.nil))))
theorem own_wS {Z : State} {a0 : Array Value} (hw : ∀ d ∈ tables_1, d.before a0 Z = true) : ∀ a ∈ Bundle.stringAtoms, a.before a0 Z = true := by
  intro a ha
  simp only [Bundle.stringAtoms, Bundle.sN, List.mem_cons, List.not_mem_nil, or_false] at ha
  rcases ha with rfl | rfl | rfl | rfl | rfl | rfl | rfl
  · exact (hw _ (List.mem_of_getElem? (i := 10) rfl))
  · exact (hw _ (List.mem_of_getElem? (i := 9) rfl))
  · exact (hw _ (List.mem_of_getElem? (i := 23) rfl))
  · exact (hw _ (List.mem_of_getElem? (i := 24) rfl))
  · exact (hw _ (List.mem_of_getElem? (i := 25) rfl))
  · exact (hw _ (List.mem_of_getElem? (i := 26) rfl))
  · exact (hw _ (List.mem_of_getElem? (i := 27) rfl))
abbrev own_RT : Room := { frames := 4, cells := 6, slots := 192, locals := 59 }
theorem rg_33 (p : Program) (l : Launch) (e : Env) (R : Room) (S : State) (m : MethodId) (args : Array Value) (below : List Frame) (meth : Method) (c : Code) (Z : State) (a0 : Array Value) (h : Heap) (locs : List Loc) (cells slots : Nat) (G : State → Prop) (L0 L1 L2 : Slot) (ch : Int32) (K : own_C p S m meth c Z prog_7_method_2_code "com/example/brokkr/brokkr/HttpSyntax" (some .boolean) 4) (r1 : ¬ ch < 97 → ¬ 122 < ch → own_E p l e R S m args below meth c h locs cells slots 78 #[L0, L1, L2, .val (.int ch)] [] G) (r2 : ch < 97 ∨ 122 < ch → own_E p l e R S m args below meth c h locs cells slots 45 #[L0, L1, L2, .val (.int ch)] [] G) :
    own_E p l e R S m args below meth c h locs cells slots 33 #[L0, L1, L2, .val (.int ch)] [] G := by
  by_cases q : ch < 97
  · refine own_iloadN K (pc := 33) d6_33 rfl ?_
    refine own_bipush K (pc := 34) d6_34 (x := (97 : Int32)) (by decide) ?_
    refine own_icmpY K (pc := 36) (pc' := 45) d6_36 (tlt q).1 (by decide) (by decide) ?_
    exact r2 (Or.inl q)
  by_cases q2 : 122 < ch
  · refine own_iloadN K (pc := 33) d6_33 rfl ?_
    refine own_bipush K (pc := 34) d6_34 (x := (97 : Int32)) (by decide) ?_
    refine own_icmpN K (pc := 36) d6_36 (flt q).1 ?_
    refine own_iloadN K (pc := 39) d6_39 rfl ?_
    refine own_bipush K (pc := 40) d6_40 (x := (122 : Int32)) (by decide) ?_
    refine own_icmpN K (pc := 42) d6_42 (tlt q2).2.2.2 ?_
    exact r2 (Or.inr q2)
  · refine own_iloadN K (pc := 33) d6_33 rfl ?_
    refine own_bipush K (pc := 34) d6_34 (x := (97 : Int32)) (by decide) ?_
    refine own_icmpN K (pc := 36) d6_36 (flt q).1 ?_
    refine own_iloadN K (pc := 39) d6_39 rfl ?_
    refine own_bipush K (pc := 40) d6_40 (x := (122 : Int32)) (by decide) ?_
    refine own_icmpY K (pc := 42) (pc' := 78) d6_42 (flt q2).2.2.2 (by decide) (by decide) ?_
    exact r1 q q2
theorem rg_45 (p : Program) (l : Launch) (e : Env) (R : Room) (S : State) (m : MethodId) (args : Array Value) (below : List Frame) (meth : Method) (c : Code) (Z : State) (a0 : Array Value) (h : Heap) (locs : List Loc) (cells slots : Nat) (G : State → Prop) (L0 L1 L2 : Slot) (ch : Int32) (K : own_C p S m meth c Z prog_7_method_2_code "com/example/brokkr/brokkr/HttpSyntax" (some .boolean) 4) (r1 : ¬ ch < 65 → ¬ 90 < ch → own_E p l e R S m args below meth c h locs cells slots 78 #[L0, L1, L2, .val (.int ch)] [] G) (r2 : ch < 65 ∨ 90 < ch → own_E p l e R S m args below meth c h locs cells slots 57 #[L0, L1, L2, .val (.int ch)] [] G) :
    own_E p l e R S m args below meth c h locs cells slots 45 #[L0, L1, L2, .val (.int ch)] [] G := by
  by_cases q : ch < 65
  · refine own_iloadN K (pc := 45) d6_45 rfl ?_
    refine own_bipush K (pc := 46) d6_46 (x := (65 : Int32)) (by decide) ?_
    refine own_icmpY K (pc := 48) (pc' := 57) d6_48 (tlt q).1 (by decide) (by decide) ?_
    exact r2 (Or.inl q)
  by_cases q2 : 90 < ch
  · refine own_iloadN K (pc := 45) d6_45 rfl ?_
    refine own_bipush K (pc := 46) d6_46 (x := (65 : Int32)) (by decide) ?_
    refine own_icmpN K (pc := 48) d6_48 (flt q).1 ?_
    refine own_iloadN K (pc := 51) d6_51 rfl ?_
    refine own_bipush K (pc := 52) d6_52 (x := (90 : Int32)) (by decide) ?_
    refine own_icmpN K (pc := 54) d6_54 (tlt q2).2.2.2 ?_
    exact r2 (Or.inr q2)
  · refine own_iloadN K (pc := 45) d6_45 rfl ?_
    refine own_bipush K (pc := 46) d6_46 (x := (65 : Int32)) (by decide) ?_
    refine own_icmpN K (pc := 48) d6_48 (flt q).1 ?_
    refine own_iloadN K (pc := 51) d6_51 rfl ?_
    refine own_bipush K (pc := 52) d6_52 (x := (90 : Int32)) (by decide) ?_
    refine own_icmpY K (pc := 54) (pc' := 78) d6_54 (flt q2).2.2.2 (by decide) (by decide) ?_
    exact r1 q q2
theorem rg_57 (p : Program) (l : Launch) (e : Env) (R : Room) (S : State) (m : MethodId) (args : Array Value) (below : List Frame) (meth : Method) (c : Code) (Z : State) (a0 : Array Value) (h : Heap) (locs : List Loc) (cells slots : Nat) (G : State → Prop) (L0 L1 L2 : Slot) (ch : Int32) (K : own_C p S m meth c Z prog_7_method_2_code "com/example/brokkr/brokkr/HttpSyntax" (some .boolean) 4) (r1 : ¬ ch < 48 → ¬ 57 < ch → own_E p l e R S m args below meth c h locs cells slots 78 #[L0, L1, L2, .val (.int ch)] [] G) (r2 : ch < 48 ∨ 57 < ch → own_E p l e R S m args below meth c h locs cells slots 69 #[L0, L1, L2, .val (.int ch)] [] G) :
    own_E p l e R S m args below meth c h locs cells slots 57 #[L0, L1, L2, .val (.int ch)] [] G := by
  by_cases q : ch < 48
  · refine own_iloadN K (pc := 57) d6_57 rfl ?_
    refine own_bipush K (pc := 58) d6_58 (x := (48 : Int32)) (by decide) ?_
    refine own_icmpY K (pc := 60) (pc' := 69) d6_60 (tlt q).1 (by decide) (by decide) ?_
    exact r2 (Or.inl q)
  by_cases q2 : 57 < ch
  · refine own_iloadN K (pc := 57) d6_57 rfl ?_
    refine own_bipush K (pc := 58) d6_58 (x := (48 : Int32)) (by decide) ?_
    refine own_icmpN K (pc := 60) d6_60 (flt q).1 ?_
    refine own_iloadN K (pc := 63) d6_63 rfl ?_
    refine own_bipush K (pc := 64) d6_64 (x := (57 : Int32)) (by decide) ?_
    refine own_icmpN K (pc := 66) d6_66 (tlt q2).2.2.2 ?_
    exact r2 (Or.inr q2)
  · refine own_iloadN K (pc := 57) d6_57 rfl ?_
    refine own_bipush K (pc := 58) d6_58 (x := (48 : Int32)) (by decide) ?_
    refine own_icmpN K (pc := 60) d6_60 (flt q).1 ?_
    refine own_iloadN K (pc := 63) d6_63 rfl ?_
    refine own_bipush K (pc := 64) d6_64 (x := (57 : Int32)) (by decide) ?_
    refine own_icmpY K (pc := 66) (pc' := 78) d6_66 (flt q2).2.2.2 (by decide) (by decide) ?_
    exact r1 q q2
abbrev own_al (ch : Int32) : Prop := (¬ ch < 97 ∧ ¬ 122 < ch) ∨ (¬ ch < 65 ∧ ¬ 90 < ch) ∨ (¬ ch < 48 ∧ ¬ 57 < ch)
theorem rg (p : Program) (l : Launch) (e : Env) (R : Room) (S : State) (m : MethodId) (args : Array Value) (below : List Frame) (meth : Method) (c : Code) (Z : State) (a0 : Array Value) (h : Heap) (locs : List Loc) (cells slots : Nat) (G : State → Prop) (L0 L1 L2 : Slot) (ch : Int32) (K : own_C p S m meth c Z prog_7_method_2_code "com/example/brokkr/brokkr/HttpSyntax" (some .boolean) 4) (r1 : own_al ch → own_E p l e R S m args below meth c h locs cells slots 78 #[L0, L1, L2, .val (.int ch)] [] G) (r2 : ¬ own_al ch → own_E p l e R S m args below meth c h locs cells slots 69 #[L0, L1, L2, .val (.int ch)] [] G) :
    own_E p l e R S m args below meth c h locs cells slots 33 #[L0, L1, L2, .val (.int ch)] [] G := by
  refine rg_33 p l e R S m args below meth c Z a0 h locs cells slots G L0 L1 L2 ch K (fun x y => r1 (Or.inl ⟨x, y⟩)) (fun o1 => ?_)
  refine rg_45 p l e R S m args below meth c Z a0 h locs cells slots G L0 L1 L2 ch K (fun x y => r1 (Or.inr (Or.inl ⟨x, y⟩))) (fun o2 => ?_)
  refine rg_57 p l e R S m args below meth c Z a0 h locs cells slots G L0 L1 L2 ch K (fun x y => r1 (Or.inr (Or.inr ⟨x, y⟩))) (fun o3 => ?_)
  refine r2 ?_
  rintro (⟨x, y⟩ | ⟨x, y⟩ | ⟨x, y⟩)
  · exact o1.elim x y
  · exact o2.elim x y
  · exact o3.elim x y
def own_sv (ch : Int32) : Int32 := if own_al ch then 1 else if ix_0 ch.toInt8.toInt32 < 0 then 0 else 1
def own_all : List Int32 → Int32
  | [] => 1
  | ch :: r => if own_sv ch = 1 then own_all r else 0
def own_QT (h0 : Heap) (v : Int32) (u : Option Value) (h : Heap) (L : List Loc) : Prop := u = some (.int v) ∧ L = [] ∧ Ext h0 h
set_option maxHeartbeats 2000000 in
theorem it (p : Program) (l : Launch) (e : Env) (s : State) (m : MethodId) (args : Array Value) (below : List Frame) (meth : Method) (c : Code) (Z : State) (a0 : Array Value) (hw : ∀ d ∈ tables_1, d.before a0 Z = true) (a b : Addr) (kc : ClassId) (z : Int32) (g : Value) (n : Nat) (cs : List Int32) (hn : n ≤ 3) (hcs : cs.length = n) (hp : ∀ x ∈ cs, ¬ x < 0 ∧ ¬ 255 < x) :
    ∀ (ds : List Int32) (i : Nat) (vm : Vm) (h : Heap) (cells slots : Nat) (x3 : Slot), own_C p (s.setVm vm) m meth c Z prog_7_method_2_code "com/example/brokkr/brokkr/HttpSyntax" (some .boolean) 4 → own_V s Z consts_1 vm h → own_S Z h a b kc (Int32.ofNat n) (own_bs cs) → own_T Z h z g → Ext s.heap h → cs.drop i = ds → i + ds.length = n → (x3 = .unset ∨ ∃ w : Value, x3 = .val w ∧ w.category = 1) → cells + 2 * ds.length ≤ 6 → slots + 64 * ds.length ≤ 192 →
      own_E p l e own_RT (s.setVm vm) m args below meth c h [] cells slots 15 #[.val (.ref a), .val (.int (1 : Int32)), .val (.int (Int32.ofNat i)), x3] [] (own_O s below Z consts_1 own_RT (own_QT s.heap (own_all ds)))
  | [], i, vq, h, cells, slots, x3, K, V, S, T, E, hd, hi, hx, hc, hs => by
    have hi : i = n := by simpa using hi
    have hge : ¬ Int32.ofNat i < Int32.ofNat n := by rw [own_nlt (by omega) (by omega)]; omega
    have hc : cells ≤ 6 := by simpa using hc
    have hs : slots ≤ 192 := by simpa using hs
    refine own_iloadN K (pc := 15) d6_15 rfl ?_
    refine own_ifN K (pc := 16) d6_16 (by decide) ?_
    refine own_iloadN K (pc := 19) d6_19 rfl ?_
    refine own_aloadN K (pc := 20) d6_20 rfl rfl ?_
    refine own_callV K (pc := 21) (W := 1) (rest := [(.int (Int32.ofNat i))]) (argsL := []) (u := (.int (Int32.ofNat n))) rfl rfl (len l Z a0 h hw a b kc _ _ z g S T) S.1 (hw _ (List.mem_of_getElem? (i := 53) rfl)) (hw _ (List.mem_of_getElem? (i := 54) rfl)) (hw _ (List.mem_of_getElem? (i := 56) rfl)) (hw _ (List.mem_of_getElem? (i := 55) rfl)) (hw _ (List.mem_of_getElem? (i := 57) rfl)) (hw _ (List.mem_of_getElem? (i := 10) rfl)) (by decide) d6_21 pd_12 rfl rfl rfl (Nat.le_of_eq rfl) (by decide) (by decide) hc hs ?_
    refine own_icmpY K (pc := 24) (pc' := 90) d6_24 (flt hge).2.1 (by decide) (by decide) ?_
    refine own_iloadN K (pc := 90) d6_90 rfl ?_
    exact own_retZH K (own_EL hw) V (pc := 91) d6_91 (z := 1) (by decide) hc hs ⟨rfl, rfl, E⟩
  | ch :: ds, i, vq, h, cells, slots, x3, K, V, S, T, E, hd, hi, hx, hc, hs => by
    simp only [List.length_cons] at hi hc hs
    obtain ⟨hv, hd', hm⟩ := own_at hd
    have hlt : Int32.ofNat i < Int32.ofNat n := (own_nlt (by omega) (by omega)).mpr (by omega)
    obtain ⟨c1, c2⟩ := hp ch hm
    rw [← own_nat (i := i) (by omega)] at hv
    have hgo : ∀ (vm' : Vm) (h' : Heap) (cells' slots' : Nat), own_C p (s.setVm vm') m meth c Z prog_7_method_2_code "com/example/brokkr/brokkr/HttpSyntax" (some .boolean) 4 → own_V s Z consts_1 vm' h' → own_S Z h' a b kc (Int32.ofNat n) (own_bs cs) → own_T Z h' z g → Ext s.heap h' → cells' + 2 * ds.length ≤ 6 → slots' + 64 * ds.length ≤ 192 → own_sv ch = 1 → own_E p l e own_RT (s.setVm vm') m args below meth c h' [] cells' slots' 78 #[.val (.ref a), .val (.int (1 : Int32)), .val (.int (Int32.ofNat i)), .val (.int ch)] [] (own_O s below Z consts_1 own_RT (own_QT s.heap (own_all (ch :: ds)))) := by
      intro vm' h' cells' slots' K V S T E hc hs q
      rw [show own_all (ch :: ds) = own_all ds from if_pos q]
      refine own_iconst K (pc := 78) d6_78 (x := (1 : Int32)) (by decide) ?_
      refine own_goto K (pc := 79) (pc' := 83) d6_79 (by decide) (by decide) ?_
      refine own_istoreN K (pc := 83) (Ls' := #[.val (.ref a), .val (.int (1 : Int32)), .val (.int (Int32.ofNat i)), .val (.int ch)]) d6_83 rfl ?_
      refine own_iinc K (pc := 84) (Ls' := #[.val (.ref a), .val (.int (1 : Int32)), .val (.int (Int32.ofNat (i + 1))), .val (.int ch)]) d6_84 rfl (by rw [own_inc]; rfl) ?_
      refine own_goto K (pc := 87) (pc' := 15) d6_87 (by decide) (by decide) ?_
      exact it p l e s m args below meth c Z a0 hw a b kc z g n cs hn hcs hp ds (i + 1) vm' h' cells' slots' _ K V S T E hd' (by omega) (Or.inr ⟨_, rfl, rfl⟩) hc hs
    refine own_iloadN K (pc := 15) d6_15 rfl ?_
    refine own_ifN K (pc := 16) d6_16 (by decide) ?_
    refine own_iloadN K (pc := 19) d6_19 rfl ?_
    refine own_aloadN K (pc := 20) d6_20 rfl rfl ?_
    refine own_callV K (pc := 21) (W := 1) (rest := [(.int (Int32.ofNat i))]) (argsL := []) (u := (.int (Int32.ofNat n))) rfl rfl (len l Z a0 h hw a b kc _ _ z g S T) S.1 (hw _ (List.mem_of_getElem? (i := 53) rfl)) (hw _ (List.mem_of_getElem? (i := 54) rfl)) (hw _ (List.mem_of_getElem? (i := 56) rfl)) (hw _ (List.mem_of_getElem? (i := 55) rfl)) (hw _ (List.mem_of_getElem? (i := 57) rfl)) (hw _ (List.mem_of_getElem? (i := 10) rfl)) (by decide) d6_21 pd_12 rfl rfl rfl (Nat.le_of_eq rfl) (by decide) (by decide) (by show cells ≤ 6; omega) (by show slots ≤ 192; omega) ?_
    refine own_icmpN K (pc := 24) d6_24 (tlt hlt).2.1 ?_
    refine own_aloadN K (pc := 27) d6_27 rfl rfl ?_
    refine own_iloadN K (pc := 28) d6_28 rfl ?_
    refine own_callV K (pc := 29) (W := 0) (rest := []) (argsL := [(.int (Int32.ofNat i))]) (u := (.int ch)) rfl rfl (cha l Z a0 h hw a b kc _ _ z g S T _ ch (own_nn (by omega)) hlt hv c1 c2) S.1 (hw _ (List.mem_of_getElem? (i := 63) rfl)) (hw _ (List.mem_of_getElem? (i := 64) rfl)) (hw _ (List.mem_of_getElem? (i := 66) rfl)) (hw _ (List.mem_of_getElem? (i := 65) rfl)) (hw _ (List.mem_of_getElem? (i := 67) rfl)) (hw _ (List.mem_of_getElem? (i := 10) rfl)) (by decide) d6_29 pd_14 rfl rfl rfl (Nat.le_of_eq rfl) (by decide) (by decide) (by show cells ≤ 6; omega) (by show slots ≤ 192; omega) ?_
    refine own_istoreN K (pc := 32) (Ls' := #[.val (.ref a), .val (.int (1 : Int32)), .val (.int (Int32.ofNat i)), .val (.int ch)]) d6_32 (own_st3 hx) ?_
    refine rg p l e own_RT (s.setVm vq) m args below meth c Z a0 h [] cells slots _ _ _ _ ch K (fun q => ?_) (fun q => ?_)
    · exact hgo vq h cells slots K V S T E (by omega) (by omega) (if_pos q)
    · refine own_ldcS K (own_EL hw) V (pc := 69) (n := 60) (i := 23) (by simp [consts_1]) (hw _ (List.mem_of_getElem? (i := 85) rfl)) (own_wS hw) (vs := own_sym) (z := 15) (by decide) (by decide) (by decide) d6_69 (by decide) (by decide) (by show cells + 2 ≤ 6; omega) (by show slots + (60 + 4) ≤ 192; omega) ?_
      intro vm1 h1 a1 b1 k1 K V1 C1 E1 X1 X2 X3 X4 _
      have S1 : own_S Z h1 a1 b1 k1 15 own_sym := ⟨X1, X2, X3, X4⟩
      have T1 := own_T_ext E1 T
      have SS := own_S_ext E1 S
      have EE : Ext s.heap h1 := ⟨Nat.le_trans E.1 E1.1, fun x y q => E1.2 _ _ (E.2 _ _ q)⟩
      refine own_iloadN K (pc := 71) d6_71 rfl ?_
      refine own_callV K (pc := 72) (W := 0) (rest := []) (argsL := [(.int ch)]) (u := (.int (ix_0 ch.toInt8.toInt32))) rfl rfl (sio l Z a0 h1 hw a1 b1 k1 z g S1 T1 ch c1 c2) S1.1 (hw _ (List.mem_of_getElem? (i := 86) rfl)) (hw _ (List.mem_of_getElem? (i := 87) rfl)) (hw _ (List.mem_of_getElem? (i := 89) rfl)) (hw _ (List.mem_of_getElem? (i := 88) rfl)) (hw _ (List.mem_of_getElem? (i := 90) rfl)) (hw _ (List.mem_of_getElem? (i := 10) rfl)) (by decide) d6_72 pd_19 rfl rfl rfl (Nat.le_of_eq rfl) (by decide) (by decide) (by show cells + 2 ≤ 6; omega) (by show slots + (60 + 4) ≤ 192; omega) ?_
      by_cases q2 : ix_0 ch.toInt8.toInt32 < 0
      · refine own_ifY K (pc := 75) (pc' := 82) d6_75 (by rw [if0]; exact (tlt q2).1) (by decide) (by decide) ?_
        refine own_iconst K (pc := 82) d6_82 (x := (0 : Int32)) (by decide) ?_
        refine own_istoreN K (pc := 83) (Ls' := #[.val (.ref a), .val (.int (0 : Int32)), .val (.int (Int32.ofNat i)), .val (.int ch)]) d6_83 rfl ?_
        refine own_iinc K (pc := 84) (Ls' := #[.val (.ref a), .val (.int (0 : Int32)), .val (.int (Int32.ofNat (i + 1))), .val (.int ch)]) d6_84 rfl (by rw [own_inc]; rfl) ?_
        refine own_goto K (pc := 87) (pc' := 15) d6_87 (by decide) (by decide) ?_
        refine own_iloadN K (pc := 15) d6_15 rfl ?_
        refine own_ifY K (pc := 16) (pc' := 90) d6_16 (by decide) (by decide) (by decide) ?_
        refine own_iloadN K (pc := 90) d6_90 rfl ?_
        exact own_retZH K (own_EL hw) V1 (pc := 91) d6_91 (z := 0) (by decide) (by show cells + 2 ≤ 6; omega) (by show slots + (60 + 4) ≤ 192; omega) ⟨by rw [show own_all (ch :: ds) = 0 from if_neg (by rw [show own_sv ch = 0 from (if_neg q).trans (if_pos q2)]; decide)], rfl, EE⟩
      · refine own_ifN K (pc := 75) d6_75 (by rw [if0]; exact (flt q2).1) ?_
        exact hgo vm1 h1 _ _ K V1 SS T1 EE (by omega) (by omega) ((if_neg q).trans (if_neg q2))
theorem tokN (l : Launch) (Z : State) (a0 : Array Value) (h : Heap) (hw : ∀ d ∈ tables_1, d.before a0 Z = true) (a b : Addr) (kc : ClassId) (z : Int32) (g : Value) (n : Nat) (cs : List Int32) (hn : n ≤ 3) (hcs : cs.length = n) (hp : ∀ x ∈ cs, ¬ x < 0 ∧ ¬ 255 < x) (S : own_S Z h a b kc (Int32.ofNat n) (own_bs cs)) (T : own_T Z h z g) (h0 : 0 < n) : own_H l (⟨"com/example/brokkr/brokkr/HttpSyntax", "isToken", "(Ljava/lang/String;)Z"⟩ : MethodName) prog_7_method_2_code 4 (some .boolean) [] own_RT Z consts_1 h #[.ref a] (own_QT h (own_all cs)) := by
  refine own_metH (by decide +kernel) (Ls := #[.val (.ref a), .unset, .unset, .unset]) (fun m => by first | (simp [entryFrame, mkF, argsToLocals, Value.category]; done) | rfl) ?_
  intro p e s m below meth c hh hnm K V
  subst hh
  refine own_aloadN K (pc := 0) d6_0 rfl rfl ?_
  refine own_callV K (pc := 1) (W := 0) (rest := []) (argsL := []) (u := (.int (0 : Int32))) rfl rfl (isn l Z a0 _ hw a b kc _ _ z g S T (own_ne0 h0 (by omega))) S.1 (hw _ (List.mem_of_getElem? (i := 34) rfl)) (hw _ (List.mem_of_getElem? (i := 35) rfl)) (hw _ (List.mem_of_getElem? (i := 37) rfl)) (hw _ (List.mem_of_getElem? (i := 36) rfl)) (hw _ (List.mem_of_getElem? (i := 38) rfl)) (hw _ (List.mem_of_getElem? (i := 10) rfl)) (by decide) d6_1 pd_7 rfl rfl rfl (Nat.le_of_eq rfl) (by decide) (by decide) (Nat.zero_le _) (Nat.zero_le _) ?_
  refine own_ifN K (pc := 4) d6_4 (by decide) ?_
  refine own_iconst K (pc := 7) d6_7 (x := (1 : Int32)) (by decide) ?_
  refine own_goto K (pc := 8) (pc' := 12) d6_8 (by decide) (by decide) ?_
  refine own_istoreN K (pc := 12) (Ls' := #[.val (.ref a), .val (.int (1 : Int32)), .unset, .unset]) d6_12 rfl ?_
  refine own_iconst K (pc := 13) d6_13 (x := (0 : Int32)) (by decide) ?_
  refine own_istoreN K (pc := 14) (Ls' := #[.val (.ref a), .val (.int (1 : Int32)), .val (.int (0 : Int32)), .unset]) d6_14 rfl ?_
  exact it p l e s m _ below meth c Z a0 hw a b kc z g n cs hn hcs hp cs 0 _ _ 0 0 _ K V S T ⟨Nat.le_refl _, fun _ _ q => q⟩ rfl (by omega) (Or.inl rfl) (by omega) (by omega)
theorem tokE (l : Launch) (Z : State) (a0 : Array Value) (h : Heap) (hw : ∀ d ∈ tables_1, d.before a0 Z = true) (a b : Addr) (kc : ClassId) (vs : List Value) (z : Int32) (g : Value) (S : own_S Z h a b kc 0 vs) (T : own_T Z h z g) : own_H l (⟨"com/example/brokkr/brokkr/HttpSyntax", "isToken", "(Ljava/lang/String;)Z"⟩ : MethodName) prog_7_method_2_code 4 (some .boolean) [] own_RT Z consts_1 h #[.ref a] (own_QT h 0) := by
  refine own_metH (by decide +kernel) (Ls := #[.val (.ref a), .unset, .unset, .unset]) (fun m => by first | (simp [entryFrame, mkF, argsToLocals, Value.category]; done) | rfl) ?_
  intro p e s m below meth c hh hnm K V
  subst hh
  refine own_aloadN K (pc := 0) d6_0 rfl rfl ?_
  refine own_callV K (pc := 1) (W := 0) (rest := []) (argsL := []) (u := (.int (1 : Int32))) rfl rfl (ise l Z a0 _ hw a b kc _ z g S T) S.1 (hw _ (List.mem_of_getElem? (i := 34) rfl)) (hw _ (List.mem_of_getElem? (i := 35) rfl)) (hw _ (List.mem_of_getElem? (i := 37) rfl)) (hw _ (List.mem_of_getElem? (i := 36) rfl)) (hw _ (List.mem_of_getElem? (i := 38) rfl)) (hw _ (List.mem_of_getElem? (i := 10) rfl)) (by decide) d6_1 pd_7 rfl rfl rfl (Nat.le_of_eq rfl) (by decide) (by decide) (Nat.zero_le _) (Nat.zero_le _) ?_
  refine own_ifY K (pc := 4) (pc' := 11) d6_4 (by decide) (by decide) (by decide) ?_
  refine own_iconst K (pc := 11) d6_11 (x := (0 : Int32)) (by decide) ?_
  refine own_istoreN K (pc := 12) (Ls' := #[.val (.ref a), .val (.int (0 : Int32)), .unset, .unset]) d6_12 rfl ?_
  refine own_iconst K (pc := 13) d6_13 (x := (0 : Int32)) (by decide) ?_
  refine own_istoreN K (pc := 14) (Ls' := #[.val (.ref a), .val (.int (0 : Int32)), .val (.int (0 : Int32)), .unset]) d6_14 rfl ?_
  refine own_iloadN K (pc := 15) d6_15 rfl ?_
  refine own_ifY K (pc := 16) (pc' := 90) d6_16 (by decide) (by decide) (by decide) ?_
  refine own_iloadN K (pc := 90) d6_90 rfl ?_
  exact own_retZH K (own_EL hw) V (pc := 91) d6_91 (z := 0) (by decide) (by decide) (by decide) ⟨rfl, rfl, Nat.le_refl _, fun _ _ q => q⟩
theorem own_safe0 {Z : State} {EL : List (String × Nat)} {vm : Vm} {h : Heap} {x : Addr} (hal : Z.vm.Alike vm) (X : Exa Z h x "java/lang/String") (F : Fld Z h x "java/lang/String" "value" "[B" .null) : Safe Z EL vm h x := fun B => by
  obtain ⟨p, -, u, a, -, q, -, F', rfl | rfl⟩ := B
  · have e1 : h[q.sa]? = some q.sC := F'.ha
    obtain ⟨cS, ⟨⟨-, -, -, ⟨c1, k1, i1, f1, -⟩, -, -, -, v1, -⟩, -⟩, -⟩ := F'
    obtain ⟨cell, cf, k, i, f, h1, h2, h3, h4, h5, h6, h7⟩ := F
    cases h1.symm.trans e1
    obtain ⟨k', z⟩ := ff_back (U := Wst Z vm h) hal f1
    cases h2.symm.trans z
    rw [v1] at h7; cases h7
  · obtain ⟨cell, k, e1, e2, e3, -, -⟩ := X
    cases (show h[q.sd]? = some q.SA from F'.hd).symm.trans e1
    obtain ⟨cS, -, -, f, -⟩ := F'
    have f : vm.findClass "[B" = some q.SA.cls := f
    rw [hal.findClass] at f
    obtain ⟨k1, q1, q2⟩ := Vm.findClass_spec f
    obtain ⟨k2, q3, q4⟩ := Vm.findClass_spec e2
    cases q1.symm.trans q3
    exact absurd (q2.symm.trans q4) (by decide)
theorem own_Fr1 {n0 : Nat} {L : List Loc} {x : Addr} (N : Fr n0 L) (hx : n0 ≤ x) (sl : Nat) : Fr n0 (L ++ [⟨x, sl⟩]) := N.app fun y hy => by cases List.mem_singleton.mp hy; exact hx
def own_QE (Z : State) (x : Addr) (h : Heap) (n0 : Nat) (u : Option Value) (h' : Heap) (L : List Loc) : Prop := u = none ∧ Fr n0 L ∧ Keep h h' [x] ∧ ∃ (b : Addr) (kb : ClassId), own_S Z h' x b kb 0 []
section OwnB
variable {p : Program} {l : Launch} {e : Env} {R : Room} {S : State} {m : MethodId} {args : Array Value} {below : List Frame} {meth : Method} {c : Code} {Z : State} {a0 : Array Value} {h : Heap} {locs : List Loc} {cells slots : Nat} {bytes : ByteArray} {own : String} {rt : Option FieldType} {ml : Nat} {pc : Nat} {Ls : Array Slot} {stk rest : List Value} {G : State → Prop}
/-- a constructor by a payer of the library's -/
theorem own_initB (K : own_C p S m meth c Z bytes own rt ml) {i kc ks : Nat} {y : MethodName} {bs : ByteArray} {mx W : Nat} {argsL : List Value} {a : Addr} {Q : Option Value → Heap → List Loc → Prop} (hin : y.name = "<init>")
    (hK : Back l R p e below S args y 3 W (fun A as => as = (.ref a :: argsL).toArray ∧ A.U.heap = h ∧ A.cells + kc ≤ R.cells ∧ A.slots + ks ≤ R.slots) (fun A _ v B => ∃ L, Q v B.U.heap L ∧ B.locs = A.locs ++ L ∧ B.cells = A.cells + kc ∧ B.slots = A.slots + ks))
    (w1 : (Jvm.Cond.methodLink own i y).before a0 Z = true) (w2 : (Jvm.Cond.instanceMethod y).before a0 Z = true) (w4 : (Jvm.Cond.code y bs mx none).before a0 Z = true)
    (hy : y.cls ≠ "java/lang/invoke/MethodHandle" ∧ y.cls ≠ "java/lang/invoke/VarHandle") (hd : decode bytes pc = .ok (.invokespecial i, 3)) {ps : List FieldType} {ro : Option FieldType} (hdesc : parseMethodDescriptor y.desc = some ⟨ps, ro⟩) (hlen : argsL.length = ps.length)
    (hs : stk = argsL.reverse ++ .ref a :: rest) (hsz : Ls.size = ml) (hW : (rest.map fun v => v.category).sum ≤ W) (hc : cells + kc ≤ R.cells) (hl2 : slots + ks ≤ R.slots)
    (r : ∀ (u : Option Value) (h' : Heap) (L : List Loc), Q u h' L → own_E p l e R S m args below meth c h' (locs ++ L) (cells + kc) (slots + ks) (pc + 3) Ls (u.toList ++ rest) G) :
    own_E p l e R S m args below meth c h locs cells slots pc Ls stk G := fun T X eT => by
  obtain ⟨u, _, ⟨T1, L1, k1, n1⟩, -, X1, ⟨Lc, hQ, l1, y1, z1⟩, st⟩ := X.specialBack K.1 (y := y) hin K.2.2.1 (mvT K.2.1 w1) (mvT K.2.1 w2) (mvT K.2.1 w4) hy hK (g := mkF m pc Ls stk) rfl (by rw [K.2.2.2.2.2.2]; exact hsz) (Steps.refl _) (a := a) (argsL := argsL) (rest := rest) (lenOf hdesc hlen) hs (by show 2 * 0 + _ ≤ _; omega) (hb K.2.2.2.1 hd) (fun _ _ => ⟨rfl, eT, hc, hl2⟩)
  dsimp only [Pt.U, Pt.locs, Pt.cells, Pt.slots] at X1 l1 y1 z1 st hQ
  subst l1 y1 z1
  obtain ⟨s₂, st', q⟩ := r u T1.heap Lc hQ T1 X1 rfl
  exact ⟨s₂, st.trans st', q⟩
end OwnB
set_option maxHeartbeats 2000000 in
theorem e4 (l : Launch) (Z : State) (a0 : Array Value) (h : Heap) (hw : ∀ d ∈ tables_1, d.before a0 Z = true) (x ar : Addr) (n0 : Nat) (hx : n0 ≤ x) (X : Exa Z h x "java/lang/String") (FV : Fld Z h x "java/lang/String" "value" "[B" .null) (FC : Fld Z h x "java/lang/String" "coder" "B" (.int 0)) : own_H l (⟨"java/lang/String", "<init>", "([CIILjava/lang/Void;)V"⟩ : MethodName) jdk_42_method_149_code 6 none [] { frames := 1, cells := 4, slots := 8, locals := 12 } Z consts_1 h #[(.ref x), (.ref ar), (.int (0 : Int32)), (.int (0 : Int32)), Value.null] (own_QE Z x h n0) := by
  refine own_metH (by decide +kernel) (Ls := #[.val (.ref x), .val (.ref ar), .val (.int (0 : Int32)), .val (.int (0 : Int32)), .val Value.null, .unset]) (fun m => by first | (simp [entryFrame, mkF, argsToLocals, Value.category]; done) | rfl) ?_
  intro p e s m below meth c hh hnm K V
  refine own_aloadN K (pc := 0) d4_0 rfl rfl ?_
  refine own_initO K (pc := 1) (W := 0) (hw _ (List.mem_of_getElem? (i := 19) rfl)) (hw _ (List.mem_of_getElem? (i := 20) rfl)) (hw _ (List.mem_of_getElem? (i := 21) rfl)) d4_1 rfl (by decide) (Nat.le_of_eq rfl) (by decide) ?_
  refine own_iloadN K (pc := 4) d4_4 rfl ?_
  refine own_ifN K (pc := 5) d4_5 (by decide) ?_
  refine own_aloadN K (pc := 8) d4_8 rfl rfl ?_
  refine own_ldcS K (own_EL hw) V (pc := 9) (n := 0) (i := 7) (by simp [consts_1]) (hw _ (List.mem_of_getElem? (i := 22) rfl)) (own_wS hw) (vs := []) (z := 0) (by decide) (by decide) (by decide) d4_9 (by decide) (by decide) (by decide) (by decide) ?_
  intro vm1 h1 a1 b1 k1 K V1 C1 E1 X1 Y1 F1 A1 _
  have Xx := X.ext E1
  have Fx := FV.ext E1
  have Cx := FC.ext E1
  have hxb : b1 ≠ x := fun e => Exa.neArv Xx A1 (hw _ (List.mem_of_getElem? (i := 9) rfl)) e.symm
  have Sx := own_safe0 (EL := consts_1) K.2.1.alike Xx Fx
  refine own_getF K (pc := 11) (hw _ (List.mem_of_getElem? (i := 28) rfl)) F1 d4_11 ?_
  refine own_putF K hnm (pc := 14) (hw _ (List.mem_of_getElem? (i := 28) rfl)) Fx Xx (hw _ (List.mem_of_getElem? (i := 24) rfl)) (hw _ (List.mem_of_getElem? (i := 9) rfl)) (ty := .array .byte) (by decide) rfl rfl d4_14 ?_
  intro h2 W2
  have V2 := own_V_wr W2 Sx V1
  have S2 := Safe.wr W2 Sx V1.2.1 Sx
  have X2 := Xx.wr W2
  have F2 : Fld Z h2 x "java/lang/String" "value" "[B" (.ref b1) := Fx.same W2
  have Cx2 := Cx.other W2 (Or.inr (slot_ne (a0 := a0) (Or.inr (hw _ (List.mem_of_getElem? (i := 25) rfl))) (Or.inr (hw _ (List.mem_of_getElem? (i := 24) rfl))) (by decide) (t := .byte) (by decide) (t' := .array .byte) (by decide)))
  have A2 := A1.other W2 hxb
  refine own_aloadN K (pc := 17) d4_17 rfl rfl ?_
  refine own_ldcS K (own_EL hw) V2 (pc := 18) (n := 0) (i := 7) (by simp [consts_1]) (hw _ (List.mem_of_getElem? (i := 22) rfl)) (own_wS hw) (vs := []) (z := 0) (by decide) (by decide) (by decide) d4_18 (by decide) (by decide) (by decide) (by decide) ?_
  intro vm3 h3 a2 b2 k2 K V3 C3 E3 X3 Y2 F3 A3 _
  have S3 := C3.safe X2.lt S2
  refine own_getF K (pc := 20) (hw _ (List.mem_of_getElem? (i := 29) rfl)) Y2 d4_20 ?_
  refine own_putF K hnm (pc := 23) (hw _ (List.mem_of_getElem? (i := 29) rfl)) (Cx2.ext E3) (X2.ext E3) (hw _ (List.mem_of_getElem? (i := 25) rfl)) (hw _ (List.mem_of_getElem? (i := 9) rfl)) (ty := .byte) (by decide) rfl rfl d4_23 ?_
  intro h4 W4
  have V4 := own_V_wr W4 S3 V3
  have S : own_S Z h4 x b1 k1 0 [] := ⟨(X2.ext E3).wr W4, (Cx2.ext E3).same W4, (F2.ext E3).other W4 (Or.inr (slot_ne (a0 := a0) (Or.inr (hw _ (List.mem_of_getElem? (i := 24) rfl))) (Or.inr (hw _ (List.mem_of_getElem? (i := 25) rfl))) (by decide) (t := .array .byte) (by decide) (t' := .byte) (by decide))), (A2.ext E3).other W4 hxb⟩
  have Kk : Keep h h4 [x] := ((((Keep.refl h [x]).ext E1).wr W2 (Or.inl (List.mem_singleton.mpr rfl))).ext E3).wr W4 (Or.inl (List.mem_singleton.mpr rfl))
  exact own_retVH K (own_EL hw) V4 (pc := 26) d4_26 (by decide) (by decide) ⟨rfl, own_Fr1 (own_Fr1 (Fr.nil n0) hx _) hx _, Kk, b1, k1, S⟩
theorem e1 (l : Launch) (Z : State) (a0 : Array Value) (h : Heap) (hw : ∀ d ∈ tables_1, d.before a0 Z = true) (x ar : Addr) (kA : ClassId) (vA : List Value) (n0 : Nat) (hx : n0 ≤ x) (X : Exa Z h x "java/lang/String") (FV : Fld Z h x "java/lang/String" "value" "[B" .null) (FC : Fld Z h x "java/lang/String" "coder" "B" (.int 0)) (AR : Arv Z h ar kA .char 0 vA (.int 0)) : own_H l (⟨"java/lang/String", "<init>", "([C)V"⟩ : MethodName) jdk_42_method_3_code 2 none [] { frames := 2, cells := 4, slots := 8, locals := 29 } Z consts_1 h #[(.ref x), (.ref ar)] (own_QE Z x h n0) := by
  refine own_metH (by decide +kernel) (Ls := #[.val (.ref x), .val (.ref ar)]) (fun m => by first | (simp [entryFrame, mkF, argsToLocals, Value.category]; done) | rfl) ?_
  intro p e s m below meth c hh hnm K V
  refine own_aloadN K (pc := 0) d3_0 rfl rfl ?_
  refine own_aloadN K (pc := 1) d3_1 rfl rfl ?_
  refine own_iconst K (pc := 2) d3_2 (x := (0 : Int32)) (by decide) ?_
  refine own_aloadN K (pc := 3) d3_3 rfl rfl ?_
  refine own_alen K (pc := 4) AR d3_4 ?_
  refine own_aconstNull K (pc := 5) d3_5 ?_
  refine own_initH K (own_EL hw) V (pc := 6) (W := 0) (a := x) (argsL := [(.ref ar), (.int (0 : Int32)), (.int (0 : Int32)), Value.null]) (rest := []) rfl (e4 l Z a0 h hw x ar n0 hx X FV FC) (hw _ (List.mem_of_getElem? (i := 15) rfl)) (hw _ (List.mem_of_getElem? (i := 16) rfl)) (hw _ (List.mem_of_getElem? (i := 10) rfl)) (hw _ (List.mem_of_getElem? (i := 18) rfl)) (by decide) d3_6 pd_4 rfl rfl rfl (Nat.le_of_eq rfl) (by decide) (by decide) (by decide) (by decide) ?_
  intro vm2 h2 u2 L2 hQ2 K V2 _
  obtain ⟨rfl, q⟩ := hQ2
  exact own_retVH K (own_EL hw) V2 (pc := 9) d3_9 (by decide) (by decide) ⟨rfl, q⟩
theorem own_sv_tk {x : Int32} (h0 : ¬ x < 0) (h1 : ¬ 255 < x) : own_sv x = tk_0 x := own_256 (fun x => own_sv x = tk_0 x) (by decide +kernel) h0 h1
theorem own_tk1 {x : Int32} (h0 : ¬ x < 0) (h1 : ¬ 255 < x) (q : ¬ tk_0 x = 0) : tk_0 x = 1 := own_256 (fun x => ¬ tk_0 x = 0 → tk_0 x = 1) (by decide +kernel) h0 h1 q
theorem own_chb (v : Int32) : ¬ (v &&& (255 : Int32)).toUInt32.toUInt16.toUInt32.toInt32 < 0 ∧ ¬ 255 < (v &&& (255 : Int32)).toUInt32.toUInt16.toUInt32.toInt32 := by
  have a0 : (v &&& 255).toInt = (v.toBitVec &&& 255#32).toInt := rfl
  rw [BitVec.toInt_eq_toNat_of_msb (by rw [BitVec.msb_and, show (255#32).msb = false from by decide, Bool.and_false]), BitVec.toNat_and] at a0
  have a1 : v.toBitVec.toNat &&& (255#32).toNat ≤ 255 := Nat.and_le_right
  generalize v.toBitVec.toNat &&& (255#32).toNat = y at a0 a1
  have b0 : ¬ (v &&& 255) < 0 := by
    rw [Int32.lt_iff_toInt_lt]; have e : (0 : Int32).toInt = 0 := rfl; omega
  have b1 : ¬ 255 < (v &&& 255) := by
    rw [Int32.lt_iff_toInt_lt]; have e : (255 : Int32).toInt = 255 := rfl; omega
  rw [own_c16 b0 b1]; exact ⟨b0, b1⟩
theorem own_k77 (k : Int32) : ¬ (k &&& 2147483647) % 77 < 0 ∧ ¬ 76 < (k &&& 2147483647) % 77 := by
  have h : (k &&& 2147483647).toInt = (k.toBitVec &&& 2147483647#32).toInt := rfl
  rw [BitVec.toInt_eq_toNat_of_msb (by rw [BitVec.msb_and, show (2147483647#32).msb = false from by decide, Bool.and_false])] at h
  generalize (k &&& 2147483647) = y at h ⊢
  have h2 : (y % 77).toInt = y.toInt.tmod 77 := by rw [Int32.toInt_mod]; rfl
  rw [Int.tmod_eq_emod_of_nonneg (by omega)] at h2
  rw [Int32.lt_iff_toInt_lt, Int32.lt_iff_toInt_lt]
  have e : (0 : Int32).toInt = 0 := rfl
  have e' : (76 : Int32).toInt = 76 := rfl
  omega
theorem own_n4 (k : Int32) : k &&& 3 = 0 ∨ k &&& 3 = 1 ∨ k &&& 3 = 2 ∨ k &&& 3 = 3 := by
  have a0 : (k &&& 3).toInt = (k.toBitVec &&& 3#32).toInt := rfl
  rw [BitVec.toInt_eq_toNat_of_msb (by rw [BitVec.msb_and, show (3#32).msb = false from by decide, Bool.and_false]), BitVec.toNat_and] at a0
  have a1 : k.toBitVec.toNat &&& (3#32).toNat ≤ 3 := Nat.and_le_right
  generalize k.toBitVec.toNat &&& (3#32).toNat = y at a0 a1
  have h3 : (k &&& 3).toInt = 0 ∨ (k &&& 3).toInt = 1 ∨ (k &&& 3).toInt = 2 ∨ (k &&& 3).toInt = 3 := by omega
  rcases h3 with h | h | h | h
  · exact Or.inl (Int32.toInt_inj.mp (by rw [h]; rfl))
  · exact Or.inr (Or.inl (Int32.toInt_inj.mp (by rw [h]; rfl)))
  · exact Or.inr (Or.inr (Or.inl (Int32.toInt_inj.mp (by rw [h]; rfl))))
  · exact Or.inr (Or.inr (Or.inr (Int32.toInt_inj.mp (by rw [h]; rfl))))
theorem own_low {k : Int32} (q : k < 77) : ¬ 255 < k := fun z => by
  rw [Int32.lt_iff_toInt_lt] at q z
  have e : (77 : Int32).toInt = 77 := rfl
  have e' : (255 : Int32).toInt = 255 := rfl
  omega
theorem own_low' {k : Int32} (q : ¬ 76 < k) : ¬ 255 < k := fun z => by
  rw [Int32.lt_iff_toInt_lt] at q z
  have e : (76 : Int32).toInt = 76 := rfl
  have e' : (255 : Int32).toInt = 255 := rfl
  omega
abbrev own_bd (x : Int32) : Prop := ¬ x < 0 ∧ ¬ 255 < x
def own_sc (i : Int32) : Int32 := ([33, 35, 36, 37, 38, 39, 42, 43, 45, 46, 94, 95, 96, 124, 126] : List Int32).getD i.toNatClampNeg 0
theorem own_k1 {k : Int32} (h0 : ¬ k < 0) (h1 : ¬ 255 < k) (q : k < 26) : own_bd ((97 : Int32) + k).toUInt32.toUInt16.toUInt32.toInt32 := own_256 (fun k => k < 26 → own_bd ((97 : Int32) + k).toUInt32.toUInt16.toUInt32.toInt32) (by decide +kernel) h0 h1 q
theorem own_k2 {k : Int32} (h0 : ¬ k < 0) (h1 : ¬ 255 < k) (p : ¬ k < 26) (q : k < 52) : own_bd ((65 : Int32) + (k - (26 : Int32))).toUInt32.toUInt16.toUInt32.toInt32 := own_256 (fun k => ¬ k < 26 → k < 52 → own_bd ((65 : Int32) + (k - (26 : Int32))).toUInt32.toUInt16.toUInt32.toInt32) (by decide +kernel) h0 h1 p q
theorem own_k3 {k : Int32} (h0 : ¬ k < 0) (h1 : ¬ 255 < k) (p : ¬ k < 52) (q : k < 62) : own_bd ((48 : Int32) + (k - (52 : Int32))).toUInt32.toUInt16.toUInt32.toInt32 := own_256 (fun k => ¬ k < 52 → k < 62 → own_bd ((48 : Int32) + (k - (52 : Int32))).toUInt32.toUInt16.toUInt32.toInt32) (by decide +kernel) h0 h1 p q
theorem own_k4 {k : Int32} (h0 : ¬ k < 0) (h1 : ¬ 255 < k) (p : ¬ k < 62) (q : ¬ 76 < k) : ¬ k - 62 < 0 ∧ k - 62 < 15 ∧ own_sym.getD (k - 62).toNatClampNeg (.int 0) = .int (own_sc (k - 62)).toInt8.toInt32 ∧ own_bd (own_sc (k - 62)) := own_256 (fun k => ¬ k < 62 → ¬ 76 < k → ¬ k - 62 < 0 ∧ k - 62 < 15 ∧ own_sym.getD (k - 62).toNatClampNeg (.int 0) = .int (own_sc (k - 62)).toInt8.toInt32 ∧ own_bd (own_sc (k - 62))) (by decide +kernel) h0 h1 p q
def own_QD (h0 : Heap) (u : Option Value) (h : Heap) (L : List Loc) : Prop := ∃ ch : Int32, u = some (.int ch) ∧ own_bd ch ∧ L = [] ∧ Ext h0 h
theorem own_ext0 (h : Heap) : Ext h h := ⟨Nat.le_refl _, fun _ _ q => q⟩
theorem own_extT {h h1 h2 : Heap} (E : Ext h h1) (E' : Ext h1 h2) : Ext h h2 := ⟨Nat.le_trans E.1 E'.1, fun x y q => E'.2 _ _ (E.2 _ _ q)⟩
def own_QL (n0 : Nat) (u : Option Value) (h : Heap) (L : List Loc) : Prop := u = some (.int 1) ∧ Fr n0 L
abbrev own_RC : Room := { frames := 4, cells := 2, slots := 64, locals := 53 }
theorem tc (l : Launch) (Z : State) (a0 : Array Value) (h : Heap) (hw : ∀ d ∈ tables_1, d.before a0 Z = true) (k z : Int32) (g : Value) (T : own_T Z h z g) (h0 : ¬ k < 0) (h1 : ¬ 76 < k) : own_H l (⟨"com/example/brokkr/brokkr/HttpSyntaxHeaderNamePinLaw", "tokenChar", "(I)C"⟩ : MethodName) method_3_code 1 (some .char) [] own_RC Z consts_1 h #[.int k] (own_QD h) := by
  have h2 := own_low' h1
  refine own_metH (by decide +kernel) (Ls := #[.val (.int k)]) (fun m => by first | (simp [entryFrame, mkF, argsToLocals, Value.category]; done) | rfl) ?_
  intro p e s m below meth c hh hnm K V
  by_cases q1 : k < 26
  · refine own_iloadN K (pc := 0) d2_0 rfl ?_
    refine own_bipush K (pc := 1) d2_1 (x := (26 : Int32)) (by decide) ?_
    refine own_icmpN K (pc := 3) d2_3 (tlt q1).2.1 ?_
    refine own_bipush K (pc := 6) d2_6 (x := (97 : Int32)) (by decide) ?_
    refine own_iloadN K (pc := 8) d2_8 rfl ?_
    refine own_iadd K (pc := 9) d2_9 ?_
    refine own_i2c K (pc := 10) d2_10 ?_
    exact own_retCH K (own_EL hw) V (pc := 11) d2_11 (own_c16 (own_k1 h0 h2 q1).1 (own_k1 h0 h2 q1).2) (by decide) (by decide) ⟨_, rfl, own_k1 h0 h2 q1, rfl, own_ext0 h⟩
  by_cases q2 : k < 52
  · refine own_iloadN K (pc := 0) d2_0 rfl ?_
    refine own_bipush K (pc := 1) d2_1 (x := (26 : Int32)) (by decide) ?_
    refine own_icmpY K (pc := 3) (pc' := 12) d2_3 (flt q1).2.1 (by decide) (by decide) ?_
    refine own_iloadN K (pc := 12) d2_12 rfl ?_
    refine own_bipush K (pc := 13) d2_13 (x := (52 : Int32)) (by decide) ?_
    refine own_icmpN K (pc := 15) d2_15 (tlt q2).2.1 ?_
    refine own_bipush K (pc := 18) d2_18 (x := (65 : Int32)) (by decide) ?_
    refine own_iloadN K (pc := 20) d2_20 rfl ?_
    refine own_bipush K (pc := 21) d2_21 (x := (26 : Int32)) (by decide) ?_
    refine own_isub K (pc := 23) d2_23 ?_
    refine own_iadd K (pc := 24) d2_24 ?_
    refine own_i2c K (pc := 25) d2_25 ?_
    exact own_retCH K (own_EL hw) V (pc := 26) d2_26 (own_c16 (own_k2 h0 h2 q1 q2).1 (own_k2 h0 h2 q1 q2).2) (by decide) (by decide) ⟨_, rfl, own_k2 h0 h2 q1 q2, rfl, own_ext0 h⟩
  by_cases q3 : k < 62
  · refine own_iloadN K (pc := 0) d2_0 rfl ?_
    refine own_bipush K (pc := 1) d2_1 (x := (26 : Int32)) (by decide) ?_
    refine own_icmpY K (pc := 3) (pc' := 12) d2_3 (flt q1).2.1 (by decide) (by decide) ?_
    refine own_iloadN K (pc := 12) d2_12 rfl ?_
    refine own_bipush K (pc := 13) d2_13 (x := (52 : Int32)) (by decide) ?_
    refine own_icmpY K (pc := 15) (pc' := 27) d2_15 (flt q2).2.1 (by decide) (by decide) ?_
    refine own_iloadN K (pc := 27) d2_27 rfl ?_
    refine own_bipush K (pc := 28) d2_28 (x := (62 : Int32)) (by decide) ?_
    refine own_icmpN K (pc := 30) d2_30 (tlt q3).2.1 ?_
    refine own_bipush K (pc := 33) d2_33 (x := (48 : Int32)) (by decide) ?_
    refine own_iloadN K (pc := 35) d2_35 rfl ?_
    refine own_bipush K (pc := 36) d2_36 (x := (52 : Int32)) (by decide) ?_
    refine own_isub K (pc := 38) d2_38 ?_
    refine own_iadd K (pc := 39) d2_39 ?_
    refine own_i2c K (pc := 40) d2_40 ?_
    exact own_retCH K (own_EL hw) V (pc := 41) d2_41 (own_c16 (own_k3 h0 h2 q2 q3).1 (own_k3 h0 h2 q2 q3).2) (by decide) (by decide) ⟨_, rfl, own_k3 h0 h2 q2 q3, rfl, own_ext0 h⟩
  refine own_iloadN K (pc := 0) d2_0 rfl ?_
  refine own_bipush K (pc := 1) d2_1 (x := (26 : Int32)) (by decide) ?_
  refine own_icmpY K (pc := 3) (pc' := 12) d2_3 (flt q1).2.1 (by decide) (by decide) ?_
  refine own_iloadN K (pc := 12) d2_12 rfl ?_
  refine own_bipush K (pc := 13) d2_13 (x := (52 : Int32)) (by decide) ?_
  refine own_icmpY K (pc := 15) (pc' := 27) d2_15 (flt q2).2.1 (by decide) (by decide) ?_
  refine own_iloadN K (pc := 27) d2_27 rfl ?_
  refine own_bipush K (pc := 28) d2_28 (x := (62 : Int32)) (by decide) ?_
  refine own_icmpY K (pc := 30) (pc' := 42) d2_30 (flt q3).2.1 (by decide) (by decide) ?_
  refine own_ldcS K (own_EL hw) V (pc := 42) (n := 60) (i := 7) (by simp [consts_1]) (hw _ (List.mem_of_getElem? (i := 113) rfl)) (own_wS hw) (vs := own_sym) (z := 15) (by decide) (by decide) (by decide) d2_42 (by decide) (by decide) (by decide) (by decide) ?_
  intro vm1 h1' a1 b1 k1 K V1 C1 E1 X1 X2 X3 X4 _
  have S1 : own_S Z h1' a1 b1 k1 15 own_sym := ⟨X1, X2, X3, X4⟩
  have T1 := own_T_ext E1 T
  obtain ⟨j1, j2, j3, j4, j5⟩ := own_k4 h0 h2 q3 h1
  refine own_iloadN K (pc := 44) d2_44 rfl ?_
  refine own_bipush K (pc := 45) d2_45 (x := (62 : Int32)) (by decide) ?_
  refine own_isub K (pc := 47) d2_47 ?_
  refine own_callV K (pc := 48) (W := 0) (rest := []) (argsL := [(.int (k - (62 : Int32)))]) (u := (.int (own_sc (k - 62)))) rfl rfl (cha l Z a0 h1' hw a1 b1 k1 _ _ z g S1 T1 _ (own_sc (k - 62)) j1 j2 j3 j4 j5) S1.1 (hw _ (List.mem_of_getElem? (i := 114) rfl)) (hw _ (List.mem_of_getElem? (i := 64) rfl)) (hw _ (List.mem_of_getElem? (i := 66) rfl)) (hw _ (List.mem_of_getElem? (i := 65) rfl)) (hw _ (List.mem_of_getElem? (i := 67) rfl)) (hw _ (List.mem_of_getElem? (i := 10) rfl)) (by decide) d2_48 pd_14 rfl rfl rfl (Nat.le_of_eq rfl) (by decide) (by decide) (by decide) (by decide) ?_
  exact own_retCH K (own_EL hw) V1 (pc := 51) d2_51 (own_c16 j4 j5) (by decide) (by decide) ⟨_, rfl, ⟨j4, j5⟩, rfl, E1⟩
abbrev own_RD : Room := { frames := 5, cells := 2, slots := 64, locals := 65 }
theorem dr0 (l : Launch) (Z : State) (a0 : Array Value) (h : Heap) (hw : ∀ d ∈ tables_1, d.before a0 Z = true) (k z : Int32) (g : Value) (T : own_T Z h z g) : own_H l (⟨"com/example/brokkr/brokkr/HttpSyntaxHeaderNamePinLaw", "draw", "(IZ)C"⟩ : MethodName) method_4_code 2 (some .char) [] own_RD Z consts_1 h #[.int k, .int 0] (own_QD h) := by
  refine own_metH (by decide +kernel) (Ls := #[.val (.int k), .val (.int 0)]) (fun m => by first | (simp [entryFrame, mkF, argsToLocals, Value.category]; done) | rfl) ?_
  intro p e s m below meth c hh hnm K V
  refine own_iloadN K (pc := 0) d1_0 rfl ?_
  refine own_ifY K (pc := 1) (pc' := 15) d1_1 (by decide) (by decide) (by decide) ?_
  refine own_iloadN K (pc := 15) d1_15 rfl ?_
  refine own_sipush K (pc := 16) d1_16 (x := (255 : Int32)) (by decide) ?_
  refine own_iand K (pc := 19) d1_19 ?_
  refine own_i2c K (pc := 20) d1_20 ?_
  exact own_retCH K (own_EL hw) V (pc := 21) d1_21 (own_c16 (own_chb k).1 (own_chb k).2) (by decide) (by decide) ⟨_, rfl, own_chb k, rfl, own_ext0 h⟩
theorem dr1 (l : Launch) (Z : State) (a0 : Array Value) (h : Heap) (hw : ∀ d ∈ tables_1, d.before a0 Z = true) (k z : Int32) (g : Value) (T : own_T Z h z g) : own_H l (⟨"com/example/brokkr/brokkr/HttpSyntaxHeaderNamePinLaw", "draw", "(IZ)C"⟩ : MethodName) method_4_code 2 (some .char) [] own_RD Z consts_1 h #[.int k, .int 1] (own_QD h) := by
  refine own_metH (by decide +kernel) (Ls := #[.val (.int k), .val (.int 1)]) (fun m => by first | (simp [entryFrame, mkF, argsToLocals, Value.category]; done) | rfl) ?_
  intro p e s m below meth c hh hnm K V
  refine own_iloadN K (pc := 0) d1_0 rfl ?_
  refine own_ifN K (pc := 1) d1_1 (by decide) ?_
  refine own_iloadN K (pc := 4) d1_4 rfl ?_
  refine own_ldc K (pc := 5) (x := (2147483647 : Int32)) (hw _ (List.mem_of_getElem? (i := 4) rfl)) d1_5 ?_
  refine own_iand K (pc := 7) d1_7 ?_
  refine own_bipush K (pc := 8) d1_8 (x := (77 : Int32)) (by decide) ?_
  refine own_irem K (pc := 10) d1_10 (by decide) ?_
  refine own_callSH K (own_EL hw) V (pc := 11) (W := 0) (rest := []) (argsL := [(.int ((k &&& (2147483647 : Int32)) % (77 : Int32)))]) (tc l Z a0 h hw _ z g T (own_k77 k).1 (own_k77 k).2) (hw _ (List.mem_of_getElem? (i := 5) rfl)) (hw _ (List.mem_of_getElem? (i := 6) rfl)) (hw _ (List.mem_of_getElem? (i := 2) rfl)) (hw _ (List.mem_of_getElem? (i := 7) rfl)) (by decide) d1_11 pd_2 rfl rfl rfl (Nat.le_of_eq rfl) (by decide) (by decide) (by decide) (by decide) ?_
  intro vm2 h2 u2 L2 hQ2 K V2 _
  obtain ⟨ch, rfl, b, rfl, E⟩ := hQ2
  exact own_retCH K (own_EL hw) V2 (pc := 14) d1_14 (own_c16 b.1 b.2) (by decide) (by decide) ⟨_, rfl, b, rfl, E⟩
set_option maxRecDepth 65536 in
theorem rnn_b (p : Program) (l : Launch) (e : Env) (s : State) (m : MethodId) (args : Array Value) (below : List Frame) (meth : Method) (c : Code) (Z : State) (a0 : Array Value) (h : Heap) (hw : ∀ d ∈ tables_1, d.before a0 Z = true) (a b : Addr) (K : own_C p s m meth c Z jdk_31_method_11_code "java/util/Objects" (some (.object "java/lang/Object")) 2) :
    own_E p l e { frames := 0, cells := 0, slots := 0, locals := 0 } s m args below meth c h [] 0 0 0 #[.val (.ref a), .val (.ref b)] [] (own_P s below h (some (.ref a))) := by
  refine own_aloadN K (pc := 0) d27_0 rfl rfl ?_
  refine own_ifnonnullY K (pc := 1) (pc' := 13) d27_1 (by decide) (by decide) ?_
  refine own_aloadN K (pc := 13) d27_13 rfl rfl ?_
  exact own_retA K rfl (pc := 14) d27_14 rfl rfl rfl
theorem rnn (l : Launch) (Z : State) (a0 : Array Value) (h : Heap) (hw : ∀ d ∈ tables_1, d.before a0 Z = true) (a b : Addr) : own_M l (⟨"java/util/Objects", "requireNonNull", "(Ljava/lang/Object;Ljava/lang/String;)Ljava/lang/Object;"⟩ : MethodName) jdk_31_method_11_code 2 (some (.object "java/lang/Object")) [] { frames := 0, cells := 0, slots := 0, locals := 0 } Z h #[(.ref a), (.ref b)] (some (.ref a)) := by
  refine own_met (by decide +kernel) rfl rfl (Ls := #[.val (.ref a), .val (.ref b)]) (fun m => by first | (simp [entryFrame, mkF, argsToLocals, Value.category]; done) | rfl | (rcases ref_cases hg with rfl | ⟨y, rfl⟩ <;> first | (simp [entryFrame, mkF, argsToLocals, Value.category]; done) | rfl)) ?_
  intro p e s m below meth c K
  exact rnn_b p l e s m _ below meth c Z a0 h hw a b K
set_option maxRecDepth 65536 in
theorem eqs_b (p : Program) (l : Launch) (e : Env) (s : State) (m : MethodId) (args : Array Value) (below : List Frame) (meth : Method) (c : Code) (Z : State) (a0 : Array Value) (h : Heap) (hw : ∀ d ∈ tables_1, d.before a0 Z = true) (a : Addr) (K : own_C p s m meth c Z jdk_42_method_66_code "java/lang/String" (some .boolean) 3) :
    own_E p l e { frames := 0, cells := 0, slots := 0, locals := 0 } s m args below meth c h [] 0 0 0 #[.val (.ref a), .val (.ref a), .unset] [] (own_P s below h (some (.int (1 : Int32)))) := by
  refine own_aloadN K (pc := 0) d28_0 rfl rfl ?_
  refine own_aloadN K (pc := 1) d28_1 rfl rfl ?_
  refine own_acmp K (pc := 2) (pc' := 5) (same := true) d28_2 (decide_eq_true rfl) (by decide) (by decide) ?_
  refine own_iconst K (pc := 5) d28_5 (x := (1 : Int32)) (by decide) ?_
  exact own_retZ K (pc := 6) d28_6 (by decide)
theorem eqs (l : Launch) (Z : State) (a0 : Array Value) (h : Heap) (hw : ∀ d ∈ tables_1, d.before a0 Z = true) (a : Addr) : own_M l (⟨"java/lang/String", "equals", "(Ljava/lang/Object;)Z"⟩ : MethodName) jdk_42_method_66_code 3 (some .boolean) [] { frames := 0, cells := 0, slots := 0, locals := 0 } Z h #[(.ref a), (.ref a)] (some (.int (1 : Int32))) := by
  refine own_met (by decide +kernel) rfl rfl (Ls := #[.val (.ref a), .val (.ref a), .unset]) (fun m => by first | (simp [entryFrame, mkF, argsToLocals, Value.category]; done) | rfl | (rcases ref_cases hg with rfl | ⟨y, rfl⟩ <;> first | (simp [entryFrame, mkF, argsToLocals, Value.category]; done) | rfl)) ?_
  intro p e s m below meth c K
  exact eqs_b p l e s m _ below meth c Z a0 h hw a K
abbrev own_RN : Room := { frames := 5, cells := 8, slots := 256, locals := 74 }
def own_QN (x : Addr) (h0 : Heap) (u : Option Value) (h : Heap) (L : List Loc) : Prop := u = some (.ref x) ∧ L = [] ∧ Ext h0 h
theorem hnm (l : Launch) (Z : State) (a0 : Array Value) (h : Heap) (hw : ∀ d ∈ tables_1, d.before a0 Z = true) (a b : Addr) (kc : ClassId) (z : Int32) (g : Value) (n : Nat) (cs : List Int32) (hn : n ≤ 3) (hcs : cs.length = n) (hp : ∀ x ∈ cs, ¬ x < 0 ∧ ¬ 255 < x) (S : own_S Z h a b kc (Int32.ofNat n) (own_bs cs)) (T : own_T Z h z g) (h0 : 0 < n) (hall : own_all cs = 1) : own_H l (⟨"com/example/brokkr/brokkr/HttpSyntax", "headerName", "(Ljava/lang/String;)Ljava/lang/String;"⟩ : MethodName) prog_7_method_3_code 1 (some (.object "java/lang/String")) [] own_RN Z consts_1 h #[.ref a] (own_QN a h) := by
  refine own_metH (by decide +kernel) (Ls := #[.val (.ref a)]) (fun m => by first | (simp [entryFrame, mkF, argsToLocals, Value.category]; done) | rfl) ?_
  intro p e s m below meth c hh hnm K V
  refine own_aloadN K (pc := 0) d26_0 rfl rfl ?_
  refine own_ldcS K (own_EL hw) V (pc := 1) (n := 60) (i := 29) (by simp [consts_1]) (hw _ (List.mem_of_getElem? (i := 118) rfl)) (own_wS hw) (z := 15) ⟨by decide, rfl⟩ (by decide) (by decide) d26_1 (by decide) (by decide) (by decide) (by decide) ?_
  intro vm1 h1 a1 b1 k1 K V1 C1 E1 X1 X2 X3 X4 _
  have S1 := own_S_ext E1 S
  have T1 := own_T_ext E1 T
  refine own_callS K (pc := 3) (W := 0) (rest := []) (argsL := [(.ref a), (.ref a1)]) (u := (.ref a)) rfl rfl (rnn l Z a0 h1 hw a a1) (hw _ (List.mem_of_getElem? (i := 119) rfl)) (hw _ (List.mem_of_getElem? (i := 120) rfl)) (hw _ (List.mem_of_getElem? (i := 121) rfl)) (hw _ (List.mem_of_getElem? (i := 122) rfl)) (by decide) d26_3 pd_27 rfl rfl rfl (Nat.le_of_eq rfl) (by decide) (by decide) (by decide) (by decide) ?_
  refine own_cast K (pc := 6) (hw _ (List.mem_of_getElem? (i := 123) rfl)) (Ins.self S1.1) d26_6 ?_
  refine own_callSH K (own_EL hw) V1 (pc := 9) (W := 0) (rest := []) (argsL := [.ref a]) (tokN l Z a0 h1 hw a b kc z g n cs hn hcs hp S1 T1 h0) (hw _ (List.mem_of_getElem? (i := 124) rfl)) (hw _ (List.mem_of_getElem? (i := 31) rfl)) (hw _ (List.mem_of_getElem? (i := 32) rfl)) (hw _ (List.mem_of_getElem? (i := 33) rfl)) (by decide) d26_9 pd_6 rfl rfl rfl (Nat.le_of_eq rfl) (by decide) (by decide) (by decide) (by decide) ?_
  intro vm2 h2 u2 L2 hQ2 K V2 _
  obtain ⟨rfl, rfl, E2⟩ := hQ2
  rw [hall]
  refine own_ifY K (pc := 12) (pc' := 29) d26_12 (by decide) (by decide) (by decide) ?_
  refine own_aloadN K (pc := 29) d26_29 rfl rfl ?_
  exact own_retAH K (own_EL hw) V2 rfl (pc := 30) d26_30 rfl rfl rfl (by decide) (by decide) ⟨rfl, rfl, own_extT E1 E2⟩
set_option maxRecDepth 65536 in
set_option maxHeartbeats 8000000 in
theorem lw_0 (p : Program) (l : Launch) (e : Env) (s : State) (m : MethodId) (args : Array Value) (below : List Frame) (meth : Method) (c : Code) (Z : State) (a0 : Array Value) (hw : ∀ d ∈ tables_1, d.before a0 Z = true) (z : Int32) (g : Value) (T0 : own_T Z Z.heap z g) (h0 : Heap) (n0 : Nat) (O : Old Z n0 h0) (hn : n0 ≤ h0.size) (v0 v1 v2 v3 : Int32) (c0 c1 c2 : Int32) (b0 : own_bd c0) (b1 : own_bd c1) (b2 : own_bd c2) (vm : Vm) (K : own_C p (s.setVm vm) m meth c Z code "com/example/brokkr/brokkr/HttpSyntaxHeaderNamePinLaw" (some .boolean) 11) (V : own_V s Z consts_1 vm h0) :
    own_E p l e room_1 (s.setVm vm) m args below meth c h0 [] (0 + 2 + 2 + 2) (0 + 64 + 64 + 64) 58 #[.val (.int v0), .val (.int v1), .val (.int v2), .val (.int v3), .val (.int (0 : Int32)), .val (.int c0), .val (.int c1), .val (.int c2), .unset, .unset, .unset] [] (own_O s below Z consts_1 room_1 (own_QL n0)) := by
  refine own_iload K (pc := 58) at_58 rfl ?_
  refine own_ifN K (pc := 60) at_60 (by decide) ?_
  refine own_new K (pc := 63) (n := 4) (hw _ (List.mem_of_getElem? (i := 8) rfl)) (hw _ (List.mem_of_getElem? (i := 9) rfl)) (hw _ (List.mem_of_getElem? (i := 10) rfl)) at_63 (by decide) (by decide) ?_
  intro hs Es Xs Ds
  obtain ⟨x, gx⟩ : ∃ z, z = h0.size := ⟨_, rfl⟩
  rw [← gx] at Xs Ds ⊢
  have gx0 : n0 ≤ x := by omega
  have FV : Fld Z hs x "java/lang/String" "value" "[B" .null := Ds (Or.inr (hw _ (List.mem_of_getElem? (i := 24) rfl))) (ty := .array .byte) (by decide)
  have FC : Fld Z hs x "java/lang/String" "coder" "B" (.int 0) := Ds (Or.inr (hw _ (List.mem_of_getElem? (i := 25) rfl))) (ty := .byte) (by decide)
  have Os := O.ext Es
  have Vs := own_V_ext Es V
  refine own_dup K (pc := 66) at_66 rfl ?_
  refine own_iconst K (pc := 67) at_67 (x := (0 : Int32)) (by decide) ?_
  refine own_newC K (pc := 68) (cap := 0) (hw _ (List.mem_of_getElem? (i := 11) rfl)) at_68 (by decide) (by decide) (by decide) (by decide) (by decide) ?_
  intro h1 kA E1 A1
  obtain ⟨ar, gar⟩ : ∃ z, z = hs.size := ⟨_, rfl⟩
  rw [← gar] at A1 ⊢
  have ge : n0 ≤ ar := by have := Os.2.1; have := Os.1; omega
  have ne : x ≠ ar := by rw [gar]; exact Nat.ne_of_lt Xs.lt
  have O1 := Os.ext E1
  have V1 := own_V_ext E1 Vs
  have N1 : Fr n0 [] := Fr.nil n0
  have X1 := Xs.ext E1
  have FV1 := FV.ext E1
  have FC1 := FC.ext E1
  have A1 : Arv Z h1 ar kA .char 0 [] (.int 0) := A1.pad (pad_rep [] (.int 0) 0)
  have Sx := own_safe0 (EL := consts_1) K.2.1.alike X1 FV1
  refine own_initH K (own_EL hw) V1 (pc := 70) (W := 1) (a := x) (argsL := [.ref ar]) (rest := [.ref x]) rfl (e1 l Z a0 h1 hw x ar kA [] n0 gx0 X1 FV1 FC1 A1) (hw _ (List.mem_of_getElem? (i := 12) rfl)) (hw _ (List.mem_of_getElem? (i := 13) rfl)) (hw _ (List.mem_of_getElem? (i := 10) rfl)) (hw _ (List.mem_of_getElem? (i := 14) rfl)) (by decide) at_70 pd_3 rfl rfl rfl (Nat.le_of_eq rfl) (by decide) (by decide) (by decide) (by decide) ?_
  intro vm hq u Lq hQ K Vh _
  obtain ⟨rfl, Nq, Kq, t, kb, S⟩ := hQ
  have Oh := O1.keep Kq (allS gx0 all0)
  have Nh := N1.app Nq
  have T := own_T_ext Oh.2 T0
  have hfin0 : (0 : Int32) = 0 → own_E p l e room_1 (s.setVm vm) m args below meth c hq ([] ++ Lq) (0 + 2 + 2 + 2 + 1 + 1 + 4) (0 + 64 + 64 + 64 + 4 + 0 + 8) 226 #[.val (.int v0), .val (.int v1), .val (.int v2), .val (.int v3), .val (.int (0 : Int32)), .val (.int c0), .val (.int c1), .val (.int c2), .val (.ref x), .val (.int (0 : Int32)), .unset] [] (own_O s below Z consts_1 room_1 (own_QL n0)) := by
    intro hE
    refine own_aload K (pc := 226) at_226 rfl rfl ?_
    refine own_callSH K (own_EL hw) Vh (pc := 228) (W := 0) (rest := []) (argsL := [.ref x]) (tokE l Z a0 hq hw x t kb _ z g S T) (hw _ (List.mem_of_getElem? (i := 30) rfl)) (hw _ (List.mem_of_getElem? (i := 31) rfl)) (hw _ (List.mem_of_getElem? (i := 32) rfl)) (hw _ (List.mem_of_getElem? (i := 33) rfl)) (by decide) at_228 pd_6 rfl rfl rfl (Nat.le_of_eq rfl) (by decide) (by decide) (by decide) (by decide) ?_
    intro vm2 h2 u2 L2 hQ2 K V2 _
    obtain ⟨rfl, rfl, E2⟩ := hQ2
    refine own_iload K (pc := 231) at_231 rfl ?_
    refine own_icmpY K (pc := 233) (pc' := 238) at_233 (by decide) (by decide) (by decide) ?_
    refine own_iload K (pc := 238) at_238 rfl ?_
    refine own_ifN K (pc := 240) at_240 (by decide) ?_
    refine own_iconst K (pc := 243) at_243 (x := (1 : Int32)) (by decide) ?_
    exact own_retZH K (own_EL hw) V2 (pc := 244) at_244 (z := 1) (by decide) (by decide) (by decide) ⟨rfl, Nh.app (Fr.nil n0)⟩
  refine own_astore K (pc := 73) (Ls' := #[.val (.int v0), .val (.int v1), .val (.int v2), .val (.int v3), .val (.int (0 : Int32)), .val (.int c0), .val (.int c1), .val (.int c2), .val (.ref x), .unset, .unset]) at_73 rfl rfl ?_
  refine own_iconst K (pc := 75) at_75 (x := (0 : Int32)) (by decide) ?_
  refine own_istore K (pc := 76) (Ls' := #[.val (.int v0), .val (.int v1), .val (.int v2), .val (.int v3), .val (.int (0 : Int32)), .val (.int c0), .val (.int c1), .val (.int c2), .val (.ref x), .val (.int (0 : Int32)), .unset]) at_76 rfl ?_
  refine own_goto K (pc := 78) (pc' := 226) at_78 (by decide) (by decide) ?_
  exact hfin0 rfl
set_option maxRecDepth 65536 in
set_option maxHeartbeats 8000000 in
theorem lw_1 (p : Program) (l : Launch) (e : Env) (s : State) (m : MethodId) (args : Array Value) (below : List Frame) (meth : Method) (c : Code) (Z : State) (a0 : Array Value) (hw : ∀ d ∈ tables_1, d.before a0 Z = true) (z : Int32) (g : Value) (T0 : own_T Z Z.heap z g) (h0 : Heap) (n0 : Nat) (O : Old Z n0 h0) (hn : n0 ≤ h0.size) (v0 v1 v2 v3 : Int32) (c0 c1 c2 : Int32) (b0 : own_bd c0) (b1 : own_bd c1) (b2 : own_bd c2) (vm : Vm) (K : own_C p (s.setVm vm) m meth c Z code "com/example/brokkr/brokkr/HttpSyntaxHeaderNamePinLaw" (some .boolean) 11) (V : own_V s Z consts_1 vm h0) :
    own_E p l e room_1 (s.setVm vm) m args below meth c h0 [] (0 + 2 + 2 + 2) (0 + 64 + 64 + 64) 58 #[.val (.int v0), .val (.int v1), .val (.int v2), .val (.int v3), .val (.int (1 : Int32)), .val (.int c0), .val (.int c1), .val (.int c2), .unset, .unset, .unset] [] (own_O s below Z consts_1 room_1 (own_QL n0)) := by
  refine own_iload K (pc := 58) at_58 rfl ?_
  refine own_ifY K (pc := 60) (pc' := 81) at_60 (by decide) (by decide) (by decide) ?_
  refine own_iload K (pc := 81) at_81 rfl ?_
  refine own_iconst K (pc := 83) at_83 (x := (1 : Int32)) (by decide) ?_
  refine own_icmpN K (pc := 84) at_84 (by decide) ?_
  refine own_new K (pc := 87) (n := 4) (hw _ (List.mem_of_getElem? (i := 8) rfl)) (hw _ (List.mem_of_getElem? (i := 9) rfl)) (hw _ (List.mem_of_getElem? (i := 10) rfl)) at_87 (by decide) (by decide) ?_
  intro hs Es Xs Ds
  obtain ⟨x, gx⟩ : ∃ z, z = h0.size := ⟨_, rfl⟩
  rw [← gx] at Xs Ds ⊢
  have gx0 : n0 ≤ x := by omega
  have FV : Fld Z hs x "java/lang/String" "value" "[B" .null := Ds (Or.inr (hw _ (List.mem_of_getElem? (i := 24) rfl))) (ty := .array .byte) (by decide)
  have FC : Fld Z hs x "java/lang/String" "coder" "B" (.int 0) := Ds (Or.inr (hw _ (List.mem_of_getElem? (i := 25) rfl))) (ty := .byte) (by decide)
  have Os := O.ext Es
  have Vs := own_V_ext Es V
  refine own_dup K (pc := 90) at_90 rfl ?_
  refine own_iconst K (pc := 91) at_91 (x := (1 : Int32)) (by decide) ?_
  refine own_newC K (pc := 92) (cap := 1) (hw _ (List.mem_of_getElem? (i := 11) rfl)) at_92 (by decide) (by decide) (by decide) (by decide) (by decide) ?_
  intro h1 kA E1 A1
  obtain ⟨ar, gar⟩ : ∃ z, z = hs.size := ⟨_, rfl⟩
  rw [← gar] at A1 ⊢
  have ge : n0 ≤ ar := by have := Os.2.1; have := Os.1; omega
  have ne : x ≠ ar := by rw [gar]; exact Nat.ne_of_lt Xs.lt
  have O1 := Os.ext E1
  have V1 := own_V_ext E1 Vs
  have N1 : Fr n0 [] := Fr.nil n0
  have X1 := Xs.ext E1
  have FV1 := FV.ext E1
  have FC1 := FC.ext E1
  have A1 : Arv Z h1 ar kA .char 1 [.int 0] (.int 0) := A1.pad (pad_rep [] (.int 0) 1)
  refine own_dup K (pc := 94) at_94 rfl ?_
  refine own_iconst K (pc := 95) at_95 (x := (0 : Int32)) (by decide) ?_
  refine own_iload K (pc := 96) at_96 rfl ?_
  refine own_castore K (pc := 98) A1 (by decide) (by decide) (Nat.le_of_ble_eq_true rfl) at_98 ?_
  intro h2 W2 A2
  rw [show nar .char c0 = c0 from own_c16 b0.1 b0.2] at A2
  have A2 : Arv Z h2 ar kA .char 1 [.int c0] (.int 0) := A2
  have O2 := O1.wr W2 ge
  have V2 := own_V_wr W2 (Safe.arv K.2.1.alike A1 (by decide)) V1
  have N2 := own_Fr1 N1 ge (Int32.toNatClampNeg 0)
  have X2 := X1.wr W2
  have FV2 := FV1.other W2 (Or.inl ne)
  have FC2 := FC1.other W2 (Or.inl ne)
  have Sx := own_safe0 (EL := consts_1) K.2.1.alike X2 FV2
  have hws : ∀ d ∈ StrChars.Road.words, d.before a0 Z = true := fun d hd => hw d ((by decide +kernel : ∀ d ∈ StrChars.Road.words, d ∈ tables_1) d hd)
  refine own_initB K (pc := 99) (W := 1) (a := x) (argsL := [.ref ar]) (rest := [.ref x]) (kc := 1) (ks := 1) (Q := StrChars.Road.QV Z x 1 ([c0].map fun c => c.toInt8.toInt32) h2 n0) rfl (StrChars.Road.backV (W := 1) K.2.1 hws (kI := 4) (hw _ (List.mem_of_getElem? (i := 9) rfl)) (cs := [c0]) (bs := [c0].map fun c => c.toInt8.toInt32) (n := 1) gx0 (by have := O2.2.1; have := O2.1; omega) X2 FV2 FC2 A2 (T0.1.ext O2.2) T0.2.1 rfl rfl (by decide) (by decide) ?_ rfl (by decide) (by decide)) (hw _ (List.mem_of_getElem? (i := 12) rfl)) (hw _ (List.mem_of_getElem? (i := 13) rfl)) (hw _ (List.mem_of_getElem? (i := 14) rfl)) (by decide) at_99 pd_3 rfl rfl rfl (Nat.le_of_eq rfl) (by decide) (by decide) ?_
  · intro c hc
    simp only [List.mem_cons, List.not_mem_nil, or_false] at hc
    rcases hc with rfl
    · exact b0
  intro u hq Lq hQ
  obtain ⟨rfl, Nq, Kq, Xq, Cq, t, kb, -, -, -, Vq, Aq⟩ := hQ
  have S : own_S Z hq x t kb (Int32.ofNat 1) (own_bs [c0]) := ⟨Xq, Cq, Vq, Aq⟩
  have Vh := own_V_keep Kq (sfS Sx sf0) V2
  have Oh := O2.keep Kq (allS gx0 all0)
  have Nh := N2.app Nq
  have T := own_T_ext Oh.2 T0
  have hp : ∀ c ∈ ([c0] : List Int32), ¬ c < 0 ∧ ¬ 255 < c := by
    intro c hc
    simp only [List.mem_cons, List.not_mem_nil, or_false] at hc
    rcases hc with rfl
    · exact b0
  have hfin0 : (own_all [c0]) = 0 → own_E p l e room_1 (s.setVm vm) m args below meth c hq (([] ++ [⟨ar, Int32.toNatClampNeg 0⟩]) ++ Lq) (0 + 2 + 2 + 2 + 1 + 1 + 1) (0 + 64 + 64 + 64 + 4 + 1 + 1) 226 #[.val (.int v0), .val (.int v1), .val (.int v2), .val (.int v3), .val (.int (1 : Int32)), .val (.int c0), .val (.int c1), .val (.int c2), .val (.ref x), .val (.int (0 : Int32)), .unset] [] (own_O s below Z consts_1 room_1 (own_QL n0)) := by
    intro hE
    refine own_aload K (pc := 226) at_226 rfl rfl ?_
    refine own_callSH K (own_EL hw) Vh (pc := 228) (W := 0) (rest := []) (argsL := [.ref x]) (tokN l Z a0 hq hw x t kb z g 1 [c0] (by decide) rfl hp S T (by decide)) (hw _ (List.mem_of_getElem? (i := 30) rfl)) (hw _ (List.mem_of_getElem? (i := 31) rfl)) (hw _ (List.mem_of_getElem? (i := 32) rfl)) (hw _ (List.mem_of_getElem? (i := 33) rfl)) (by decide) at_228 pd_6 rfl rfl rfl (Nat.le_of_eq rfl) (by decide) (by decide) (by decide) (by decide) ?_
    intro vm2 h2 u2 L2 hQ2 K V2 _
    obtain ⟨rfl, rfl, E2⟩ := hQ2
    rw [hE]
    refine own_iload K (pc := 231) at_231 rfl ?_
    refine own_icmpY K (pc := 233) (pc' := 238) at_233 (by decide) (by decide) (by decide) ?_
    refine own_iload K (pc := 238) at_238 rfl ?_
    refine own_ifN K (pc := 240) at_240 (by decide) ?_
    refine own_iconst K (pc := 243) at_243 (x := (1 : Int32)) (by decide) ?_
    exact own_retZH K (own_EL hw) V2 (pc := 244) at_244 (z := 1) (by decide) (by decide) (by decide) ⟨rfl, Nh.app (Fr.nil n0)⟩
  have hfin1 : (own_all [c0]) = 1 → own_E p l e room_1 (s.setVm vm) m args below meth c hq (([] ++ [⟨ar, Int32.toNatClampNeg 0⟩]) ++ Lq) (0 + 2 + 2 + 2 + 1 + 1 + 1) (0 + 64 + 64 + 64 + 4 + 1 + 1) 226 #[.val (.int v0), .val (.int v1), .val (.int v2), .val (.int v3), .val (.int (1 : Int32)), .val (.int c0), .val (.int c1), .val (.int c2), .val (.ref x), .val (.int (1 : Int32)), .unset] [] (own_O s below Z consts_1 room_1 (own_QL n0)) := by
    intro hE
    refine own_aload K (pc := 226) at_226 rfl rfl ?_
    refine own_callSH K (own_EL hw) Vh (pc := 228) (W := 0) (rest := []) (argsL := [.ref x]) (tokN l Z a0 hq hw x t kb z g 1 [c0] (by decide) rfl hp S T (by decide)) (hw _ (List.mem_of_getElem? (i := 30) rfl)) (hw _ (List.mem_of_getElem? (i := 31) rfl)) (hw _ (List.mem_of_getElem? (i := 32) rfl)) (hw _ (List.mem_of_getElem? (i := 33) rfl)) (by decide) at_228 pd_6 rfl rfl rfl (Nat.le_of_eq rfl) (by decide) (by decide) (by decide) (by decide) ?_
    intro vm2 h2 u2 L2 hQ2 K V2 _
    obtain ⟨rfl, rfl, E2⟩ := hQ2
    rw [hE]
    refine own_iload K (pc := 231) at_231 rfl ?_
    refine own_icmpY K (pc := 233) (pc' := 238) at_233 (by decide) (by decide) (by decide) ?_
    refine own_iload K (pc := 238) at_238 rfl ?_
    refine own_ifY K (pc := 240) (pc' := 245) at_240 (by decide) (by decide) (by decide) ?_
    refine own_aload K (pc := 245) at_245 rfl rfl ?_
    have S2 := own_S_ext E2 S
    have T2 := own_T_ext E2 T
    refine own_callSH K (own_EL hw) V2 (pc := 247) (W := 0) (rest := []) (argsL := [.ref x]) (hnm l Z a0 h2 hw x t kb z g 1 [c0] (by decide) rfl hp S2 T2 (by decide) hE) (hw _ (List.mem_of_getElem? (i := 115) rfl)) (hw _ (List.mem_of_getElem? (i := 116) rfl)) (hw _ (List.mem_of_getElem? (i := 32) rfl)) (hw _ (List.mem_of_getElem? (i := 117) rfl)) (by decide) at_247 pd_26 rfl rfl rfl (Nat.le_of_eq rfl) (by decide) (by decide) (by decide) (by decide) ?_
    intro vm3 h3 u3 L3 hQ3 K V3 _
    obtain ⟨rfl, rfl, E3⟩ := hQ3
    have S3 := own_S_ext E3 S2
    refine own_astore K (pc := 250) (Ls' := #[.val (.int v0), .val (.int v1), .val (.int v2), .val (.int v3), .val (.int (1 : Int32)), .val (.int c0), .val (.int c1), .val (.int c2), .val (.ref x), .val (.int (1 : Int32)), .val (.ref x)]) at_250 rfl rfl ?_
    refine own_aload K (pc := 252) at_252 rfl rfl ?_
    refine own_ifnullN K (pc := 254) at_254 ?_
    refine own_aload K (pc := 257) at_257 rfl rfl ?_
    refine own_aload K (pc := 259) at_259 rfl rfl ?_
    refine own_callV K (pc := 261) (W := 0) (rest := []) (argsL := [(.ref x)]) (u := (.int (1 : Int32))) rfl rfl (eqs l Z a0 h3 hw x) S3.1 (hw _ (List.mem_of_getElem? (i := 125) rfl)) (hw _ (List.mem_of_getElem? (i := 126) rfl)) (hw _ (List.mem_of_getElem? (i := 128) rfl)) (hw _ (List.mem_of_getElem? (i := 127) rfl)) (hw _ (List.mem_of_getElem? (i := 129) rfl)) (hw _ (List.mem_of_getElem? (i := 10) rfl)) (by decide) at_261 pd_28 rfl rfl rfl (Nat.le_of_eq rfl) (by decide) (by decide) (by decide) (by decide) ?_
    refine own_ifN K (pc := 264) at_264 (by decide) ?_
    refine own_iconst K (pc := 267) at_267 (x := (1 : Int32)) (by decide) ?_
    refine own_goto K (pc := 268) (pc' := 272) at_268 (by decide) (by decide) ?_
    exact own_retZH K (own_EL hw) V3 (pc := 272) at_272 (z := 1) (by decide) (by decide) (by decide) ⟨rfl, (Nh.app (Fr.nil n0)).app (Fr.nil n0)⟩
  refine own_astore K (pc := 102) (Ls' := #[.val (.int v0), .val (.int v1), .val (.int v2), .val (.int v3), .val (.int (1 : Int32)), .val (.int c0), .val (.int c1), .val (.int c2), .val (.ref x), .unset, .unset]) at_102 rfl rfl ?_
  refine own_iload K (pc := 104) at_104 rfl ?_
  refine own_callS K (pc := 106) (W := 0) (rest := []) (argsL := [(.int c0)]) (u := (.int (tk_0 c0))) rfl rfl (tk l Z a0 hq hw c0) (hw _ (List.mem_of_getElem? (i := 50) rfl)) (hw _ (List.mem_of_getElem? (i := 51) rfl)) (hw _ (List.mem_of_getElem? (i := 2) rfl)) (hw _ (List.mem_of_getElem? (i := 52) rfl)) (by decide) at_106 pd_11 rfl rfl rfl (Nat.le_of_eq rfl) (by decide) (by decide) (by decide) (by decide) ?_
  by_cases q0 : tk_0 c0 = 0
  · rw [q0]
    refine own_istore K (pc := 109) (Ls' := #[.val (.int v0), .val (.int v1), .val (.int v2), .val (.int v3), .val (.int (1 : Int32)), .val (.int c0), .val (.int c1), .val (.int c2), .val (.ref x), .val (.int (0 : Int32)), .unset]) at_109 rfl ?_
    refine own_goto K (pc := 111) (pc' := 226) at_111 (by decide) (by decide) ?_
    exact hfin0 (by simp only [own_all];  rw [own_sv_tk b0.1 b0.2, if_neg (by rw [q0]; decide)])
  rw [own_tk1 b0.1 b0.2 q0]
  refine own_istore K (pc := 109) (Ls' := #[.val (.int v0), .val (.int v1), .val (.int v2), .val (.int v3), .val (.int (1 : Int32)), .val (.int c0), .val (.int c1), .val (.int c2), .val (.ref x), .val (.int (1 : Int32)), .unset]) at_109 rfl ?_
  refine own_goto K (pc := 111) (pc' := 226) at_111 (by decide) (by decide) ?_
  exact hfin1 (by simp only [own_all]; rw [own_sv_tk b0.1 b0.2, if_pos (own_tk1 b0.1 b0.2 q0)])
set_option maxRecDepth 65536 in
set_option maxHeartbeats 8000000 in
theorem lw_2 (p : Program) (l : Launch) (e : Env) (s : State) (m : MethodId) (args : Array Value) (below : List Frame) (meth : Method) (c : Code) (Z : State) (a0 : Array Value) (hw : ∀ d ∈ tables_1, d.before a0 Z = true) (z : Int32) (g : Value) (T0 : own_T Z Z.heap z g) (h0 : Heap) (n0 : Nat) (O : Old Z n0 h0) (hn : n0 ≤ h0.size) (v0 v1 v2 v3 : Int32) (c0 c1 c2 : Int32) (b0 : own_bd c0) (b1 : own_bd c1) (b2 : own_bd c2) (vm : Vm) (K : own_C p (s.setVm vm) m meth c Z code "com/example/brokkr/brokkr/HttpSyntaxHeaderNamePinLaw" (some .boolean) 11) (V : own_V s Z consts_1 vm h0) :
    own_E p l e room_1 (s.setVm vm) m args below meth c h0 [] (0 + 2 + 2 + 2) (0 + 64 + 64 + 64) 58 #[.val (.int v0), .val (.int v1), .val (.int v2), .val (.int v3), .val (.int (2 : Int32)), .val (.int c0), .val (.int c1), .val (.int c2), .unset, .unset, .unset] [] (own_O s below Z consts_1 room_1 (own_QL n0)) := by
  refine own_iload K (pc := 58) at_58 rfl ?_
  refine own_ifY K (pc := 60) (pc' := 81) at_60 (by decide) (by decide) (by decide) ?_
  refine own_iload K (pc := 81) at_81 rfl ?_
  refine own_iconst K (pc := 83) at_83 (x := (1 : Int32)) (by decide) ?_
  refine own_icmpY K (pc := 84) (pc' := 114) at_84 (by decide) (by decide) (by decide) ?_
  refine own_iload K (pc := 114) at_114 rfl ?_
  refine own_iconst K (pc := 116) at_116 (x := (2 : Int32)) (by decide) ?_
  refine own_icmpN K (pc := 117) at_117 (by decide) ?_
  refine own_new K (pc := 120) (n := 4) (hw _ (List.mem_of_getElem? (i := 8) rfl)) (hw _ (List.mem_of_getElem? (i := 9) rfl)) (hw _ (List.mem_of_getElem? (i := 10) rfl)) at_120 (by decide) (by decide) ?_
  intro hs Es Xs Ds
  obtain ⟨x, gx⟩ : ∃ z, z = h0.size := ⟨_, rfl⟩
  rw [← gx] at Xs Ds ⊢
  have gx0 : n0 ≤ x := by omega
  have FV : Fld Z hs x "java/lang/String" "value" "[B" .null := Ds (Or.inr (hw _ (List.mem_of_getElem? (i := 24) rfl))) (ty := .array .byte) (by decide)
  have FC : Fld Z hs x "java/lang/String" "coder" "B" (.int 0) := Ds (Or.inr (hw _ (List.mem_of_getElem? (i := 25) rfl))) (ty := .byte) (by decide)
  have Os := O.ext Es
  have Vs := own_V_ext Es V
  refine own_dup K (pc := 123) at_123 rfl ?_
  refine own_iconst K (pc := 124) at_124 (x := (2 : Int32)) (by decide) ?_
  refine own_newC K (pc := 125) (cap := 2) (hw _ (List.mem_of_getElem? (i := 11) rfl)) at_125 (by decide) (by decide) (by decide) (by decide) (by decide) ?_
  intro h1 kA E1 A1
  obtain ⟨ar, gar⟩ : ∃ z, z = hs.size := ⟨_, rfl⟩
  rw [← gar] at A1 ⊢
  have ge : n0 ≤ ar := by have := Os.2.1; have := Os.1; omega
  have ne : x ≠ ar := by rw [gar]; exact Nat.ne_of_lt Xs.lt
  have O1 := Os.ext E1
  have V1 := own_V_ext E1 Vs
  have N1 : Fr n0 [] := Fr.nil n0
  have X1 := Xs.ext E1
  have FV1 := FV.ext E1
  have FC1 := FC.ext E1
  have A1 : Arv Z h1 ar kA .char 2 [.int 0, .int 0] (.int 0) := A1.pad (pad_rep [] (.int 0) 2)
  refine own_dup K (pc := 127) at_127 rfl ?_
  refine own_iconst K (pc := 128) at_128 (x := (0 : Int32)) (by decide) ?_
  refine own_iload K (pc := 129) at_129 rfl ?_
  refine own_castore K (pc := 131) A1 (by decide) (by decide) (Nat.le_of_ble_eq_true rfl) at_131 ?_
  intro h2 W2 A2
  rw [show nar .char c0 = c0 from own_c16 b0.1 b0.2] at A2
  have A2 : Arv Z h2 ar kA .char 2 [.int c0, .int 0] (.int 0) := A2
  have O2 := O1.wr W2 ge
  have V2 := own_V_wr W2 (Safe.arv K.2.1.alike A1 (by decide)) V1
  have N2 := own_Fr1 N1 ge (Int32.toNatClampNeg 0)
  have X2 := X1.wr W2
  have FV2 := FV1.other W2 (Or.inl ne)
  have FC2 := FC1.other W2 (Or.inl ne)
  refine own_dup K (pc := 132) at_132 rfl ?_
  refine own_iconst K (pc := 133) at_133 (x := (1 : Int32)) (by decide) ?_
  refine own_iload K (pc := 134) at_134 rfl ?_
  refine own_castore K (pc := 136) A2 (by decide) (by decide) (Nat.le_of_ble_eq_true rfl) at_136 ?_
  intro h3 W3 A3
  rw [show nar .char c1 = c1 from own_c16 b1.1 b1.2] at A3
  have A3 : Arv Z h3 ar kA .char 2 [.int c0, .int c1] (.int 0) := A3
  have O3 := O2.wr W3 ge
  have V3 := own_V_wr W3 (Safe.arv K.2.1.alike A2 (by decide)) V2
  have N3 := own_Fr1 N2 ge (Int32.toNatClampNeg 1)
  have X3 := X2.wr W3
  have FV3 := FV2.other W3 (Or.inl ne)
  have FC3 := FC2.other W3 (Or.inl ne)
  have Sx := own_safe0 (EL := consts_1) K.2.1.alike X3 FV3
  have hws : ∀ d ∈ StrChars.Road.words, d.before a0 Z = true := fun d hd => hw d ((by decide +kernel : ∀ d ∈ StrChars.Road.words, d ∈ tables_1) d hd)
  refine own_initB K (pc := 137) (W := 1) (a := x) (argsL := [.ref ar]) (rest := [.ref x]) (kc := 1) (ks := 2) (Q := StrChars.Road.QV Z x 2 ([c0, c1].map fun c => c.toInt8.toInt32) h3 n0) rfl (StrChars.Road.backV (W := 1) K.2.1 hws (kI := 4) (hw _ (List.mem_of_getElem? (i := 9) rfl)) (cs := [c0, c1]) (bs := [c0, c1].map fun c => c.toInt8.toInt32) (n := 2) gx0 (by have := O3.2.1; have := O3.1; omega) X3 FV3 FC3 A3 (T0.1.ext O3.2) T0.2.1 rfl rfl (by decide) (by decide) ?_ rfl (by decide) (by decide)) (hw _ (List.mem_of_getElem? (i := 12) rfl)) (hw _ (List.mem_of_getElem? (i := 13) rfl)) (hw _ (List.mem_of_getElem? (i := 14) rfl)) (by decide) at_137 pd_3 rfl rfl rfl (Nat.le_of_eq rfl) (by decide) (by decide) ?_
  · intro c hc
    simp only [List.mem_cons, List.not_mem_nil, or_false] at hc
    rcases hc with rfl | rfl
    · exact b0
    · exact b1
  intro u hq Lq hQ
  obtain ⟨rfl, Nq, Kq, Xq, Cq, t, kb, -, -, -, Vq, Aq⟩ := hQ
  have S : own_S Z hq x t kb (Int32.ofNat 2) (own_bs [c0, c1]) := ⟨Xq, Cq, Vq, Aq⟩
  have Vh := own_V_keep Kq (sfS Sx sf0) V3
  have Oh := O3.keep Kq (allS gx0 all0)
  have Nh := N3.app Nq
  have T := own_T_ext Oh.2 T0
  have hp : ∀ c ∈ ([c0, c1] : List Int32), ¬ c < 0 ∧ ¬ 255 < c := by
    intro c hc
    simp only [List.mem_cons, List.not_mem_nil, or_false] at hc
    rcases hc with rfl | rfl
    · exact b0
    · exact b1
  have hfin0 : (own_all [c0, c1]) = 0 → own_E p l e room_1 (s.setVm vm) m args below meth c hq ((([] ++ [⟨ar, Int32.toNatClampNeg 0⟩]) ++ [⟨ar, Int32.toNatClampNeg 1⟩]) ++ Lq) (0 + 2 + 2 + 2 + 1 + 1 + 1) (0 + 64 + 64 + 64 + 4 + 2 + 2) 226 #[.val (.int v0), .val (.int v1), .val (.int v2), .val (.int v3), .val (.int (2 : Int32)), .val (.int c0), .val (.int c1), .val (.int c2), .val (.ref x), .val (.int (0 : Int32)), .unset] [] (own_O s below Z consts_1 room_1 (own_QL n0)) := by
    intro hE
    refine own_aload K (pc := 226) at_226 rfl rfl ?_
    refine own_callSH K (own_EL hw) Vh (pc := 228) (W := 0) (rest := []) (argsL := [.ref x]) (tokN l Z a0 hq hw x t kb z g 2 [c0, c1] (by decide) rfl hp S T (by decide)) (hw _ (List.mem_of_getElem? (i := 30) rfl)) (hw _ (List.mem_of_getElem? (i := 31) rfl)) (hw _ (List.mem_of_getElem? (i := 32) rfl)) (hw _ (List.mem_of_getElem? (i := 33) rfl)) (by decide) at_228 pd_6 rfl rfl rfl (Nat.le_of_eq rfl) (by decide) (by decide) (by decide) (by decide) ?_
    intro vm2 h2 u2 L2 hQ2 K V2 _
    obtain ⟨rfl, rfl, E2⟩ := hQ2
    rw [hE]
    refine own_iload K (pc := 231) at_231 rfl ?_
    refine own_icmpY K (pc := 233) (pc' := 238) at_233 (by decide) (by decide) (by decide) ?_
    refine own_iload K (pc := 238) at_238 rfl ?_
    refine own_ifN K (pc := 240) at_240 (by decide) ?_
    refine own_iconst K (pc := 243) at_243 (x := (1 : Int32)) (by decide) ?_
    exact own_retZH K (own_EL hw) V2 (pc := 244) at_244 (z := 1) (by decide) (by decide) (by decide) ⟨rfl, Nh.app (Fr.nil n0)⟩
  have hfin1 : (own_all [c0, c1]) = 1 → own_E p l e room_1 (s.setVm vm) m args below meth c hq ((([] ++ [⟨ar, Int32.toNatClampNeg 0⟩]) ++ [⟨ar, Int32.toNatClampNeg 1⟩]) ++ Lq) (0 + 2 + 2 + 2 + 1 + 1 + 1) (0 + 64 + 64 + 64 + 4 + 2 + 2) 226 #[.val (.int v0), .val (.int v1), .val (.int v2), .val (.int v3), .val (.int (2 : Int32)), .val (.int c0), .val (.int c1), .val (.int c2), .val (.ref x), .val (.int (1 : Int32)), .unset] [] (own_O s below Z consts_1 room_1 (own_QL n0)) := by
    intro hE
    refine own_aload K (pc := 226) at_226 rfl rfl ?_
    refine own_callSH K (own_EL hw) Vh (pc := 228) (W := 0) (rest := []) (argsL := [.ref x]) (tokN l Z a0 hq hw x t kb z g 2 [c0, c1] (by decide) rfl hp S T (by decide)) (hw _ (List.mem_of_getElem? (i := 30) rfl)) (hw _ (List.mem_of_getElem? (i := 31) rfl)) (hw _ (List.mem_of_getElem? (i := 32) rfl)) (hw _ (List.mem_of_getElem? (i := 33) rfl)) (by decide) at_228 pd_6 rfl rfl rfl (Nat.le_of_eq rfl) (by decide) (by decide) (by decide) (by decide) ?_
    intro vm2 h2 u2 L2 hQ2 K V2 _
    obtain ⟨rfl, rfl, E2⟩ := hQ2
    rw [hE]
    refine own_iload K (pc := 231) at_231 rfl ?_
    refine own_icmpY K (pc := 233) (pc' := 238) at_233 (by decide) (by decide) (by decide) ?_
    refine own_iload K (pc := 238) at_238 rfl ?_
    refine own_ifY K (pc := 240) (pc' := 245) at_240 (by decide) (by decide) (by decide) ?_
    refine own_aload K (pc := 245) at_245 rfl rfl ?_
    have S2 := own_S_ext E2 S
    have T2 := own_T_ext E2 T
    refine own_callSH K (own_EL hw) V2 (pc := 247) (W := 0) (rest := []) (argsL := [.ref x]) (hnm l Z a0 h2 hw x t kb z g 2 [c0, c1] (by decide) rfl hp S2 T2 (by decide) hE) (hw _ (List.mem_of_getElem? (i := 115) rfl)) (hw _ (List.mem_of_getElem? (i := 116) rfl)) (hw _ (List.mem_of_getElem? (i := 32) rfl)) (hw _ (List.mem_of_getElem? (i := 117) rfl)) (by decide) at_247 pd_26 rfl rfl rfl (Nat.le_of_eq rfl) (by decide) (by decide) (by decide) (by decide) ?_
    intro vm3 h3 u3 L3 hQ3 K V3 _
    obtain ⟨rfl, rfl, E3⟩ := hQ3
    have S3 := own_S_ext E3 S2
    refine own_astore K (pc := 250) (Ls' := #[.val (.int v0), .val (.int v1), .val (.int v2), .val (.int v3), .val (.int (2 : Int32)), .val (.int c0), .val (.int c1), .val (.int c2), .val (.ref x), .val (.int (1 : Int32)), .val (.ref x)]) at_250 rfl rfl ?_
    refine own_aload K (pc := 252) at_252 rfl rfl ?_
    refine own_ifnullN K (pc := 254) at_254 ?_
    refine own_aload K (pc := 257) at_257 rfl rfl ?_
    refine own_aload K (pc := 259) at_259 rfl rfl ?_
    refine own_callV K (pc := 261) (W := 0) (rest := []) (argsL := [(.ref x)]) (u := (.int (1 : Int32))) rfl rfl (eqs l Z a0 h3 hw x) S3.1 (hw _ (List.mem_of_getElem? (i := 125) rfl)) (hw _ (List.mem_of_getElem? (i := 126) rfl)) (hw _ (List.mem_of_getElem? (i := 128) rfl)) (hw _ (List.mem_of_getElem? (i := 127) rfl)) (hw _ (List.mem_of_getElem? (i := 129) rfl)) (hw _ (List.mem_of_getElem? (i := 10) rfl)) (by decide) at_261 pd_28 rfl rfl rfl (Nat.le_of_eq rfl) (by decide) (by decide) (by decide) (by decide) ?_
    refine own_ifN K (pc := 264) at_264 (by decide) ?_
    refine own_iconst K (pc := 267) at_267 (x := (1 : Int32)) (by decide) ?_
    refine own_goto K (pc := 268) (pc' := 272) at_268 (by decide) (by decide) ?_
    exact own_retZH K (own_EL hw) V3 (pc := 272) at_272 (z := 1) (by decide) (by decide) (by decide) ⟨rfl, (Nh.app (Fr.nil n0)).app (Fr.nil n0)⟩
  refine own_astore K (pc := 140) (Ls' := #[.val (.int v0), .val (.int v1), .val (.int v2), .val (.int v3), .val (.int (2 : Int32)), .val (.int c0), .val (.int c1), .val (.int c2), .val (.ref x), .unset, .unset]) at_140 rfl rfl ?_
  refine own_iload K (pc := 142) at_142 rfl ?_
  refine own_callS K (pc := 144) (W := 0) (rest := []) (argsL := [(.int c0)]) (u := (.int (tk_0 c0))) rfl rfl (tk l Z a0 hq hw c0) (hw _ (List.mem_of_getElem? (i := 50) rfl)) (hw _ (List.mem_of_getElem? (i := 51) rfl)) (hw _ (List.mem_of_getElem? (i := 2) rfl)) (hw _ (List.mem_of_getElem? (i := 52) rfl)) (by decide) at_144 pd_11 rfl rfl rfl (Nat.le_of_eq rfl) (by decide) (by decide) (by decide) (by decide) ?_
  by_cases q0 : tk_0 c0 = 0
  · refine own_ifY K (pc := 147) (pc' := 162) at_147 (by rw [if0]; exact (teq q0).1) (by decide) (by decide) ?_
    refine own_iconst K (pc := 162) at_162 (x := (0 : Int32)) (by decide) ?_
    refine own_istore K (pc := 163) (Ls' := #[.val (.int v0), .val (.int v1), .val (.int v2), .val (.int v3), .val (.int (2 : Int32)), .val (.int c0), .val (.int c1), .val (.int c2), .val (.ref x), .val (.int (0 : Int32)), .unset]) at_163 rfl ?_
    refine own_goto K (pc := 165) (pc' := 226) at_165 (by decide) (by decide) ?_
    exact hfin0 (by simp only [own_all];  rw [own_sv_tk b0.1 b0.2, if_neg (by rw [q0]; decide)])
  refine own_ifN K (pc := 147) at_147 (by rw [if0]; exact (feq q0).1) ?_
  refine own_iload K (pc := 150) at_150 rfl ?_
  refine own_callS K (pc := 152) (W := 0) (rest := []) (argsL := [(.int c1)]) (u := (.int (tk_0 c1))) rfl rfl (tk l Z a0 hq hw c1) (hw _ (List.mem_of_getElem? (i := 50) rfl)) (hw _ (List.mem_of_getElem? (i := 51) rfl)) (hw _ (List.mem_of_getElem? (i := 2) rfl)) (hw _ (List.mem_of_getElem? (i := 52) rfl)) (by decide) at_152 pd_11 rfl rfl rfl (Nat.le_of_eq rfl) (by decide) (by decide) (by decide) (by decide) ?_
  by_cases q1 : tk_0 c1 = 0
  · refine own_ifY K (pc := 155) (pc' := 162) at_155 (by rw [if0]; exact (teq q1).1) (by decide) (by decide) ?_
    refine own_iconst K (pc := 162) at_162 (x := (0 : Int32)) (by decide) ?_
    refine own_istore K (pc := 163) (Ls' := #[.val (.int v0), .val (.int v1), .val (.int v2), .val (.int v3), .val (.int (2 : Int32)), .val (.int c0), .val (.int c1), .val (.int c2), .val (.ref x), .val (.int (0 : Int32)), .unset]) at_163 rfl ?_
    refine own_goto K (pc := 165) (pc' := 226) at_165 (by decide) (by decide) ?_
    exact hfin0 (by simp only [own_all]; rw [own_sv_tk b0.1 b0.2, if_pos (own_tk1 b0.1 b0.2 q0)]; rw [own_sv_tk b1.1 b1.2, if_neg (by rw [q1]; decide)])
  refine own_ifN K (pc := 155) at_155 (by rw [if0]; exact (feq q1).1) ?_
  refine own_iconst K (pc := 158) at_158 (x := (1 : Int32)) (by decide) ?_
  refine own_goto K (pc := 159) (pc' := 163) at_159 (by decide) (by decide) ?_
  refine own_istore K (pc := 163) (Ls' := #[.val (.int v0), .val (.int v1), .val (.int v2), .val (.int v3), .val (.int (2 : Int32)), .val (.int c0), .val (.int c1), .val (.int c2), .val (.ref x), .val (.int (1 : Int32)), .unset]) at_163 rfl ?_
  refine own_goto K (pc := 165) (pc' := 226) at_165 (by decide) (by decide) ?_
  exact hfin1 (by simp only [own_all]; rw [own_sv_tk b0.1 b0.2, if_pos (own_tk1 b0.1 b0.2 q0)]; rw [own_sv_tk b1.1 b1.2, if_pos (own_tk1 b1.1 b1.2 q1)])
set_option maxRecDepth 65536 in
set_option maxHeartbeats 8000000 in
theorem lw_3 (p : Program) (l : Launch) (e : Env) (s : State) (m : MethodId) (args : Array Value) (below : List Frame) (meth : Method) (c : Code) (Z : State) (a0 : Array Value) (hw : ∀ d ∈ tables_1, d.before a0 Z = true) (z : Int32) (g : Value) (T0 : own_T Z Z.heap z g) (h0 : Heap) (n0 : Nat) (O : Old Z n0 h0) (hn : n0 ≤ h0.size) (v0 v1 v2 v3 : Int32) (c0 c1 c2 : Int32) (b0 : own_bd c0) (b1 : own_bd c1) (b2 : own_bd c2) (vm : Vm) (K : own_C p (s.setVm vm) m meth c Z code "com/example/brokkr/brokkr/HttpSyntaxHeaderNamePinLaw" (some .boolean) 11) (V : own_V s Z consts_1 vm h0) :
    own_E p l e room_1 (s.setVm vm) m args below meth c h0 [] (0 + 2 + 2 + 2) (0 + 64 + 64 + 64) 58 #[.val (.int v0), .val (.int v1), .val (.int v2), .val (.int v3), .val (.int (3 : Int32)), .val (.int c0), .val (.int c1), .val (.int c2), .unset, .unset, .unset] [] (own_O s below Z consts_1 room_1 (own_QL n0)) := by
  refine own_iload K (pc := 58) at_58 rfl ?_
  refine own_ifY K (pc := 60) (pc' := 81) at_60 (by decide) (by decide) (by decide) ?_
  refine own_iload K (pc := 81) at_81 rfl ?_
  refine own_iconst K (pc := 83) at_83 (x := (1 : Int32)) (by decide) ?_
  refine own_icmpY K (pc := 84) (pc' := 114) at_84 (by decide) (by decide) (by decide) ?_
  refine own_iload K (pc := 114) at_114 rfl ?_
  refine own_iconst K (pc := 116) at_116 (x := (2 : Int32)) (by decide) ?_
  refine own_icmpY K (pc := 117) (pc' := 168) at_117 (by decide) (by decide) (by decide) ?_
  refine own_new K (pc := 168) (n := 4) (hw _ (List.mem_of_getElem? (i := 8) rfl)) (hw _ (List.mem_of_getElem? (i := 9) rfl)) (hw _ (List.mem_of_getElem? (i := 10) rfl)) at_168 (by decide) (by decide) ?_
  intro hs Es Xs Ds
  obtain ⟨x, gx⟩ : ∃ z, z = h0.size := ⟨_, rfl⟩
  rw [← gx] at Xs Ds ⊢
  have gx0 : n0 ≤ x := by omega
  have FV : Fld Z hs x "java/lang/String" "value" "[B" .null := Ds (Or.inr (hw _ (List.mem_of_getElem? (i := 24) rfl))) (ty := .array .byte) (by decide)
  have FC : Fld Z hs x "java/lang/String" "coder" "B" (.int 0) := Ds (Or.inr (hw _ (List.mem_of_getElem? (i := 25) rfl))) (ty := .byte) (by decide)
  have Os := O.ext Es
  have Vs := own_V_ext Es V
  refine own_dup K (pc := 171) at_171 rfl ?_
  refine own_iconst K (pc := 172) at_172 (x := (3 : Int32)) (by decide) ?_
  refine own_newC K (pc := 173) (cap := 3) (hw _ (List.mem_of_getElem? (i := 11) rfl)) at_173 (by decide) (by decide) (by decide) (by decide) (by decide) ?_
  intro h1 kA E1 A1
  obtain ⟨ar, gar⟩ : ∃ z, z = hs.size := ⟨_, rfl⟩
  rw [← gar] at A1 ⊢
  have ge : n0 ≤ ar := by have := Os.2.1; have := Os.1; omega
  have ne : x ≠ ar := by rw [gar]; exact Nat.ne_of_lt Xs.lt
  have O1 := Os.ext E1
  have V1 := own_V_ext E1 Vs
  have N1 : Fr n0 [] := Fr.nil n0
  have X1 := Xs.ext E1
  have FV1 := FV.ext E1
  have FC1 := FC.ext E1
  have A1 : Arv Z h1 ar kA .char 3 [.int 0, .int 0, .int 0] (.int 0) := A1.pad (pad_rep [] (.int 0) 3)
  refine own_dup K (pc := 175) at_175 rfl ?_
  refine own_iconst K (pc := 176) at_176 (x := (0 : Int32)) (by decide) ?_
  refine own_iload K (pc := 177) at_177 rfl ?_
  refine own_castore K (pc := 179) A1 (by decide) (by decide) (Nat.le_of_ble_eq_true rfl) at_179 ?_
  intro h2 W2 A2
  rw [show nar .char c0 = c0 from own_c16 b0.1 b0.2] at A2
  have A2 : Arv Z h2 ar kA .char 3 [.int c0, .int 0, .int 0] (.int 0) := A2
  have O2 := O1.wr W2 ge
  have V2 := own_V_wr W2 (Safe.arv K.2.1.alike A1 (by decide)) V1
  have N2 := own_Fr1 N1 ge (Int32.toNatClampNeg 0)
  have X2 := X1.wr W2
  have FV2 := FV1.other W2 (Or.inl ne)
  have FC2 := FC1.other W2 (Or.inl ne)
  refine own_dup K (pc := 180) at_180 rfl ?_
  refine own_iconst K (pc := 181) at_181 (x := (1 : Int32)) (by decide) ?_
  refine own_iload K (pc := 182) at_182 rfl ?_
  refine own_castore K (pc := 184) A2 (by decide) (by decide) (Nat.le_of_ble_eq_true rfl) at_184 ?_
  intro h3 W3 A3
  rw [show nar .char c1 = c1 from own_c16 b1.1 b1.2] at A3
  have A3 : Arv Z h3 ar kA .char 3 [.int c0, .int c1, .int 0] (.int 0) := A3
  have O3 := O2.wr W3 ge
  have V3 := own_V_wr W3 (Safe.arv K.2.1.alike A2 (by decide)) V2
  have N3 := own_Fr1 N2 ge (Int32.toNatClampNeg 1)
  have X3 := X2.wr W3
  have FV3 := FV2.other W3 (Or.inl ne)
  have FC3 := FC2.other W3 (Or.inl ne)
  refine own_dup K (pc := 185) at_185 rfl ?_
  refine own_iconst K (pc := 186) at_186 (x := (2 : Int32)) (by decide) ?_
  refine own_iload K (pc := 187) at_187 rfl ?_
  refine own_castore K (pc := 189) A3 (by decide) (by decide) (Nat.le_of_ble_eq_true rfl) at_189 ?_
  intro h4 W4 A4
  rw [show nar .char c2 = c2 from own_c16 b2.1 b2.2] at A4
  have A4 : Arv Z h4 ar kA .char 3 [.int c0, .int c1, .int c2] (.int 0) := A4
  have O4 := O3.wr W4 ge
  have V4 := own_V_wr W4 (Safe.arv K.2.1.alike A3 (by decide)) V3
  have N4 := own_Fr1 N3 ge (Int32.toNatClampNeg 2)
  have X4 := X3.wr W4
  have FV4 := FV3.other W4 (Or.inl ne)
  have FC4 := FC3.other W4 (Or.inl ne)
  have Sx := own_safe0 (EL := consts_1) K.2.1.alike X4 FV4
  have hws : ∀ d ∈ StrChars.Road.words, d.before a0 Z = true := fun d hd => hw d ((by decide +kernel : ∀ d ∈ StrChars.Road.words, d ∈ tables_1) d hd)
  refine own_initB K (pc := 190) (W := 1) (a := x) (argsL := [.ref ar]) (rest := [.ref x]) (kc := 1) (ks := 3) (Q := StrChars.Road.QV Z x 3 ([c0, c1, c2].map fun c => c.toInt8.toInt32) h4 n0) rfl (StrChars.Road.backV (W := 1) K.2.1 hws (kI := 4) (hw _ (List.mem_of_getElem? (i := 9) rfl)) (cs := [c0, c1, c2]) (bs := [c0, c1, c2].map fun c => c.toInt8.toInt32) (n := 3) gx0 (by have := O4.2.1; have := O4.1; omega) X4 FV4 FC4 A4 (T0.1.ext O4.2) T0.2.1 rfl rfl (by decide) (by decide) ?_ rfl (by decide) (by decide)) (hw _ (List.mem_of_getElem? (i := 12) rfl)) (hw _ (List.mem_of_getElem? (i := 13) rfl)) (hw _ (List.mem_of_getElem? (i := 14) rfl)) (by decide) at_190 pd_3 rfl rfl rfl (Nat.le_of_eq rfl) (by decide) (by decide) ?_
  · intro c hc
    simp only [List.mem_cons, List.not_mem_nil, or_false] at hc
    rcases hc with rfl | rfl | rfl
    · exact b0
    · exact b1
    · exact b2
  intro u hq Lq hQ
  obtain ⟨rfl, Nq, Kq, Xq, Cq, t, kb, -, -, -, Vq, Aq⟩ := hQ
  have S : own_S Z hq x t kb (Int32.ofNat 3) (own_bs [c0, c1, c2]) := ⟨Xq, Cq, Vq, Aq⟩
  have Vh := own_V_keep Kq (sfS Sx sf0) V4
  have Oh := O4.keep Kq (allS gx0 all0)
  have Nh := N4.app Nq
  have T := own_T_ext Oh.2 T0
  have hp : ∀ c ∈ ([c0, c1, c2] : List Int32), ¬ c < 0 ∧ ¬ 255 < c := by
    intro c hc
    simp only [List.mem_cons, List.not_mem_nil, or_false] at hc
    rcases hc with rfl | rfl | rfl
    · exact b0
    · exact b1
    · exact b2
  have hfin0 : (own_all [c0, c1, c2]) = 0 → own_E p l e room_1 (s.setVm vm) m args below meth c hq (((([] ++ [⟨ar, Int32.toNatClampNeg 0⟩]) ++ [⟨ar, Int32.toNatClampNeg 1⟩]) ++ [⟨ar, Int32.toNatClampNeg 2⟩]) ++ Lq) (0 + 2 + 2 + 2 + 1 + 1 + 1) (0 + 64 + 64 + 64 + 4 + 3 + 3) 226 #[.val (.int v0), .val (.int v1), .val (.int v2), .val (.int v3), .val (.int (3 : Int32)), .val (.int c0), .val (.int c1), .val (.int c2), .val (.ref x), .val (.int (0 : Int32)), .unset] [] (own_O s below Z consts_1 room_1 (own_QL n0)) := by
    intro hE
    refine own_aload K (pc := 226) at_226 rfl rfl ?_
    refine own_callSH K (own_EL hw) Vh (pc := 228) (W := 0) (rest := []) (argsL := [.ref x]) (tokN l Z a0 hq hw x t kb z g 3 [c0, c1, c2] (by decide) rfl hp S T (by decide)) (hw _ (List.mem_of_getElem? (i := 30) rfl)) (hw _ (List.mem_of_getElem? (i := 31) rfl)) (hw _ (List.mem_of_getElem? (i := 32) rfl)) (hw _ (List.mem_of_getElem? (i := 33) rfl)) (by decide) at_228 pd_6 rfl rfl rfl (Nat.le_of_eq rfl) (by decide) (by decide) (by decide) (by decide) ?_
    intro vm2 h2 u2 L2 hQ2 K V2 _
    obtain ⟨rfl, rfl, E2⟩ := hQ2
    rw [hE]
    refine own_iload K (pc := 231) at_231 rfl ?_
    refine own_icmpY K (pc := 233) (pc' := 238) at_233 (by decide) (by decide) (by decide) ?_
    refine own_iload K (pc := 238) at_238 rfl ?_
    refine own_ifN K (pc := 240) at_240 (by decide) ?_
    refine own_iconst K (pc := 243) at_243 (x := (1 : Int32)) (by decide) ?_
    exact own_retZH K (own_EL hw) V2 (pc := 244) at_244 (z := 1) (by decide) (by decide) (by decide) ⟨rfl, Nh.app (Fr.nil n0)⟩
  have hfin1 : (own_all [c0, c1, c2]) = 1 → own_E p l e room_1 (s.setVm vm) m args below meth c hq (((([] ++ [⟨ar, Int32.toNatClampNeg 0⟩]) ++ [⟨ar, Int32.toNatClampNeg 1⟩]) ++ [⟨ar, Int32.toNatClampNeg 2⟩]) ++ Lq) (0 + 2 + 2 + 2 + 1 + 1 + 1) (0 + 64 + 64 + 64 + 4 + 3 + 3) 226 #[.val (.int v0), .val (.int v1), .val (.int v2), .val (.int v3), .val (.int (3 : Int32)), .val (.int c0), .val (.int c1), .val (.int c2), .val (.ref x), .val (.int (1 : Int32)), .unset] [] (own_O s below Z consts_1 room_1 (own_QL n0)) := by
    intro hE
    refine own_aload K (pc := 226) at_226 rfl rfl ?_
    refine own_callSH K (own_EL hw) Vh (pc := 228) (W := 0) (rest := []) (argsL := [.ref x]) (tokN l Z a0 hq hw x t kb z g 3 [c0, c1, c2] (by decide) rfl hp S T (by decide)) (hw _ (List.mem_of_getElem? (i := 30) rfl)) (hw _ (List.mem_of_getElem? (i := 31) rfl)) (hw _ (List.mem_of_getElem? (i := 32) rfl)) (hw _ (List.mem_of_getElem? (i := 33) rfl)) (by decide) at_228 pd_6 rfl rfl rfl (Nat.le_of_eq rfl) (by decide) (by decide) (by decide) (by decide) ?_
    intro vm2 h2 u2 L2 hQ2 K V2 _
    obtain ⟨rfl, rfl, E2⟩ := hQ2
    rw [hE]
    refine own_iload K (pc := 231) at_231 rfl ?_
    refine own_icmpY K (pc := 233) (pc' := 238) at_233 (by decide) (by decide) (by decide) ?_
    refine own_iload K (pc := 238) at_238 rfl ?_
    refine own_ifY K (pc := 240) (pc' := 245) at_240 (by decide) (by decide) (by decide) ?_
    refine own_aload K (pc := 245) at_245 rfl rfl ?_
    have S2 := own_S_ext E2 S
    have T2 := own_T_ext E2 T
    refine own_callSH K (own_EL hw) V2 (pc := 247) (W := 0) (rest := []) (argsL := [.ref x]) (hnm l Z a0 h2 hw x t kb z g 3 [c0, c1, c2] (by decide) rfl hp S2 T2 (by decide) hE) (hw _ (List.mem_of_getElem? (i := 115) rfl)) (hw _ (List.mem_of_getElem? (i := 116) rfl)) (hw _ (List.mem_of_getElem? (i := 32) rfl)) (hw _ (List.mem_of_getElem? (i := 117) rfl)) (by decide) at_247 pd_26 rfl rfl rfl (Nat.le_of_eq rfl) (by decide) (by decide) (by decide) (by decide) ?_
    intro vm3 h3 u3 L3 hQ3 K V3 _
    obtain ⟨rfl, rfl, E3⟩ := hQ3
    have S3 := own_S_ext E3 S2
    refine own_astore K (pc := 250) (Ls' := #[.val (.int v0), .val (.int v1), .val (.int v2), .val (.int v3), .val (.int (3 : Int32)), .val (.int c0), .val (.int c1), .val (.int c2), .val (.ref x), .val (.int (1 : Int32)), .val (.ref x)]) at_250 rfl rfl ?_
    refine own_aload K (pc := 252) at_252 rfl rfl ?_
    refine own_ifnullN K (pc := 254) at_254 ?_
    refine own_aload K (pc := 257) at_257 rfl rfl ?_
    refine own_aload K (pc := 259) at_259 rfl rfl ?_
    refine own_callV K (pc := 261) (W := 0) (rest := []) (argsL := [(.ref x)]) (u := (.int (1 : Int32))) rfl rfl (eqs l Z a0 h3 hw x) S3.1 (hw _ (List.mem_of_getElem? (i := 125) rfl)) (hw _ (List.mem_of_getElem? (i := 126) rfl)) (hw _ (List.mem_of_getElem? (i := 128) rfl)) (hw _ (List.mem_of_getElem? (i := 127) rfl)) (hw _ (List.mem_of_getElem? (i := 129) rfl)) (hw _ (List.mem_of_getElem? (i := 10) rfl)) (by decide) at_261 pd_28 rfl rfl rfl (Nat.le_of_eq rfl) (by decide) (by decide) (by decide) (by decide) ?_
    refine own_ifN K (pc := 264) at_264 (by decide) ?_
    refine own_iconst K (pc := 267) at_267 (x := (1 : Int32)) (by decide) ?_
    refine own_goto K (pc := 268) (pc' := 272) at_268 (by decide) (by decide) ?_
    exact own_retZH K (own_EL hw) V3 (pc := 272) at_272 (z := 1) (by decide) (by decide) (by decide) ⟨rfl, (Nh.app (Fr.nil n0)).app (Fr.nil n0)⟩
  refine own_astore K (pc := 193) (Ls' := #[.val (.int v0), .val (.int v1), .val (.int v2), .val (.int v3), .val (.int (3 : Int32)), .val (.int c0), .val (.int c1), .val (.int c2), .val (.ref x), .unset, .unset]) at_193 rfl rfl ?_
  refine own_iload K (pc := 195) at_195 rfl ?_
  refine own_callS K (pc := 197) (W := 0) (rest := []) (argsL := [(.int c0)]) (u := (.int (tk_0 c0))) rfl rfl (tk l Z a0 hq hw c0) (hw _ (List.mem_of_getElem? (i := 50) rfl)) (hw _ (List.mem_of_getElem? (i := 51) rfl)) (hw _ (List.mem_of_getElem? (i := 2) rfl)) (hw _ (List.mem_of_getElem? (i := 52) rfl)) (by decide) at_197 pd_11 rfl rfl rfl (Nat.le_of_eq rfl) (by decide) (by decide) (by decide) (by decide) ?_
  by_cases q0 : tk_0 c0 = 0
  · refine own_ifY K (pc := 200) (pc' := 223) at_200 (by rw [if0]; exact (teq q0).1) (by decide) (by decide) ?_
    refine own_iconst K (pc := 223) at_223 (x := (0 : Int32)) (by decide) ?_
    refine own_istore K (pc := 224) (Ls' := #[.val (.int v0), .val (.int v1), .val (.int v2), .val (.int v3), .val (.int (3 : Int32)), .val (.int c0), .val (.int c1), .val (.int c2), .val (.ref x), .val (.int (0 : Int32)), .unset]) at_224 rfl ?_
    exact hfin0 (by simp only [own_all];  rw [own_sv_tk b0.1 b0.2, if_neg (by rw [q0]; decide)])
  refine own_ifN K (pc := 200) at_200 (by rw [if0]; exact (feq q0).1) ?_
  refine own_iload K (pc := 203) at_203 rfl ?_
  refine own_callS K (pc := 205) (W := 0) (rest := []) (argsL := [(.int c1)]) (u := (.int (tk_0 c1))) rfl rfl (tk l Z a0 hq hw c1) (hw _ (List.mem_of_getElem? (i := 50) rfl)) (hw _ (List.mem_of_getElem? (i := 51) rfl)) (hw _ (List.mem_of_getElem? (i := 2) rfl)) (hw _ (List.mem_of_getElem? (i := 52) rfl)) (by decide) at_205 pd_11 rfl rfl rfl (Nat.le_of_eq rfl) (by decide) (by decide) (by decide) (by decide) ?_
  by_cases q1 : tk_0 c1 = 0
  · refine own_ifY K (pc := 208) (pc' := 223) at_208 (by rw [if0]; exact (teq q1).1) (by decide) (by decide) ?_
    refine own_iconst K (pc := 223) at_223 (x := (0 : Int32)) (by decide) ?_
    refine own_istore K (pc := 224) (Ls' := #[.val (.int v0), .val (.int v1), .val (.int v2), .val (.int v3), .val (.int (3 : Int32)), .val (.int c0), .val (.int c1), .val (.int c2), .val (.ref x), .val (.int (0 : Int32)), .unset]) at_224 rfl ?_
    exact hfin0 (by simp only [own_all]; rw [own_sv_tk b0.1 b0.2, if_pos (own_tk1 b0.1 b0.2 q0)]; rw [own_sv_tk b1.1 b1.2, if_neg (by rw [q1]; decide)])
  refine own_ifN K (pc := 208) at_208 (by rw [if0]; exact (feq q1).1) ?_
  refine own_iload K (pc := 211) at_211 rfl ?_
  refine own_callS K (pc := 213) (W := 0) (rest := []) (argsL := [(.int c2)]) (u := (.int (tk_0 c2))) rfl rfl (tk l Z a0 hq hw c2) (hw _ (List.mem_of_getElem? (i := 50) rfl)) (hw _ (List.mem_of_getElem? (i := 51) rfl)) (hw _ (List.mem_of_getElem? (i := 2) rfl)) (hw _ (List.mem_of_getElem? (i := 52) rfl)) (by decide) at_213 pd_11 rfl rfl rfl (Nat.le_of_eq rfl) (by decide) (by decide) (by decide) (by decide) ?_
  by_cases q2 : tk_0 c2 = 0
  · refine own_ifY K (pc := 216) (pc' := 223) at_216 (by rw [if0]; exact (teq q2).1) (by decide) (by decide) ?_
    refine own_iconst K (pc := 223) at_223 (x := (0 : Int32)) (by decide) ?_
    refine own_istore K (pc := 224) (Ls' := #[.val (.int v0), .val (.int v1), .val (.int v2), .val (.int v3), .val (.int (3 : Int32)), .val (.int c0), .val (.int c1), .val (.int c2), .val (.ref x), .val (.int (0 : Int32)), .unset]) at_224 rfl ?_
    exact hfin0 (by simp only [own_all]; rw [own_sv_tk b0.1 b0.2, if_pos (own_tk1 b0.1 b0.2 q0)]; rw [own_sv_tk b1.1 b1.2, if_pos (own_tk1 b1.1 b1.2 q1)]; rw [own_sv_tk b2.1 b2.2, if_neg (by rw [q2]; decide)])
  refine own_ifN K (pc := 216) at_216 (by rw [if0]; exact (feq q2).1) ?_
  refine own_iconst K (pc := 219) at_219 (x := (1 : Int32)) (by decide) ?_
  refine own_goto K (pc := 220) (pc' := 224) at_220 (by decide) (by decide) ?_
  refine own_istore K (pc := 224) (Ls' := #[.val (.int v0), .val (.int v1), .val (.int v2), .val (.int v3), .val (.int (3 : Int32)), .val (.int c0), .val (.int c1), .val (.int c2), .val (.ref x), .val (.int (1 : Int32)), .unset]) at_224 rfl ?_
  exact hfin1 (by simp only [own_all]; rw [own_sv_tk b0.1 b0.2, if_pos (own_tk1 b0.1 b0.2 q0)]; rw [own_sv_tk b1.1 b1.2, if_pos (own_tk1 b1.1 b1.2 q1)]; rw [own_sv_tk b2.1 b2.2, if_pos (own_tk1 b2.1 b2.2 q2)])
set_option maxRecDepth 65536 in
set_option maxHeartbeats 4000000 in
theorem dw_3 (p : Program) (l : Launch) (e : Env) (s : State) (m : MethodId) (args : Array Value) (below : List Frame) (meth : Method) (c : Code) (Z : State) (a0 : Array Value) (hw : ∀ d ∈ tables_1, d.before a0 Z = true) (z : Int32) (g : Value) (T0 : own_T Z Z.heap z g) (h0 : Heap) (n0 : Nat) (O : Old Z n0 h0) (hn : n0 ≤ h0.size) (v0 v1 v2 v3 : Int32) (nn : Int32) (hnn : nn = 0 ∨ nn = 1 ∨ nn = 2 ∨ nn = 3) (c0 : Int32) (b0 : own_bd c0) (c1 : Int32) (b1 : own_bd c1) (vm : Vm) (K : own_C p (s.setVm vm) m meth c Z code "com/example/brokkr/brokkr/HttpSyntaxHeaderNamePinLaw" (some .boolean) 11) (V : own_V s Z consts_1 vm h0) :
    own_E p l e room_1 (s.setVm vm) m args below meth c h0 [] (0 + 2 + 2) (0 + 64 + 64) 41 #[.val (.int v0), .val (.int v1), .val (.int v2), .val (.int v3), .val (.int nn), .val (.int c0), .val (.int c1), .unset, .unset, .unset, .unset] [] (own_O s below Z consts_1 room_1 (own_QL n0)) := by
  by_cases q : v3 &&& (4 : Int32) = 0
  · refine own_iloadN K (pc := 41) at_41 rfl ?_
    refine own_iloadN K (pc := 42) at_42 rfl ?_
    refine own_iconst K (pc := 43) at_43 (x := (4 : Int32)) (by decide) ?_
    refine own_iand K (pc := 44) at_44 ?_
    refine own_ifY K (pc := 45) (pc' := 52) at_45 (by rw [if0]; exact (teq q).1) (by decide) (by decide) ?_
    refine own_iconst K (pc := 52) at_52 (x := (0 : Int32)) (by decide) ?_
    refine own_callSH K (own_EL hw) V (pc := 53) (W := 0) (rest := []) (argsL := [.int v2, .int 0]) (dr0 l Z a0 h0 hw v2 z g (own_T_ext O.2 T0)) (hw _ (List.mem_of_getElem? (i := 0) rfl)) (hw _ (List.mem_of_getElem? (i := 1) rfl)) (hw _ (List.mem_of_getElem? (i := 2) rfl)) (hw _ (List.mem_of_getElem? (i := 3) rfl)) (by decide) at_53 pd_1 rfl rfl rfl (Nat.le_of_eq rfl) (by decide) (by decide) (by decide) (by decide) ?_
    intro vm1 h1 u1 L1 hQ1 K V1 _
    obtain ⟨ch, rfl, bc, rfl, E1⟩ := hQ1
    refine own_istore K (pc := 56) (Ls' := #[.val (.int v0), .val (.int v1), .val (.int v2), .val (.int v3), .val (.int nn), .val (.int c0), .val (.int c1), .val (.int ch), .unset, .unset, .unset]) at_56 rfl ?_
    rcases hnn with rfl | rfl | rfl | rfl
    · exact lw_0 p l e s m args below meth c Z a0 hw z g T0 h1 n0 (O.ext E1) (Nat.le_trans hn E1.1) v0 v1 v2 v3 c0 c1 ch b0 b1 bc vm1 K V1
    · exact lw_1 p l e s m args below meth c Z a0 hw z g T0 h1 n0 (O.ext E1) (Nat.le_trans hn E1.1) v0 v1 v2 v3 c0 c1 ch b0 b1 bc vm1 K V1
    · exact lw_2 p l e s m args below meth c Z a0 hw z g T0 h1 n0 (O.ext E1) (Nat.le_trans hn E1.1) v0 v1 v2 v3 c0 c1 ch b0 b1 bc vm1 K V1
    · exact lw_3 p l e s m args below meth c Z a0 hw z g T0 h1 n0 (O.ext E1) (Nat.le_trans hn E1.1) v0 v1 v2 v3 c0 c1 ch b0 b1 bc vm1 K V1
  refine own_iloadN K (pc := 41) at_41 rfl ?_
  refine own_iloadN K (pc := 42) at_42 rfl ?_
  refine own_iconst K (pc := 43) at_43 (x := (4 : Int32)) (by decide) ?_
  refine own_iand K (pc := 44) at_44 ?_
  refine own_ifN K (pc := 45) at_45 (by rw [if0]; exact (feq q).1) ?_
  refine own_iconst K (pc := 48) at_48 (x := (1 : Int32)) (by decide) ?_
  refine own_goto K (pc := 49) (pc' := 53) at_49 (by decide) (by decide) ?_
  refine own_callSH K (own_EL hw) V (pc := 53) (W := 0) (rest := []) (argsL := [.int v2, .int 1]) (dr1 l Z a0 h0 hw v2 z g (own_T_ext O.2 T0)) (hw _ (List.mem_of_getElem? (i := 0) rfl)) (hw _ (List.mem_of_getElem? (i := 1) rfl)) (hw _ (List.mem_of_getElem? (i := 2) rfl)) (hw _ (List.mem_of_getElem? (i := 3) rfl)) (by decide) at_53 pd_1 rfl rfl rfl (Nat.le_of_eq rfl) (by decide) (by decide) (by decide) (by decide) ?_
  intro vm1 h1 u1 L1 hQ1 K V1 _
  obtain ⟨ch, rfl, bc, rfl, E1⟩ := hQ1
  refine own_istore K (pc := 56) (Ls' := #[.val (.int v0), .val (.int v1), .val (.int v2), .val (.int v3), .val (.int nn), .val (.int c0), .val (.int c1), .val (.int ch), .unset, .unset, .unset]) at_56 rfl ?_
  rcases hnn with rfl | rfl | rfl | rfl
  · exact lw_0 p l e s m args below meth c Z a0 hw z g T0 h1 n0 (O.ext E1) (Nat.le_trans hn E1.1) v0 v1 v2 v3 c0 c1 ch b0 b1 bc vm1 K V1
  · exact lw_1 p l e s m args below meth c Z a0 hw z g T0 h1 n0 (O.ext E1) (Nat.le_trans hn E1.1) v0 v1 v2 v3 c0 c1 ch b0 b1 bc vm1 K V1
  · exact lw_2 p l e s m args below meth c Z a0 hw z g T0 h1 n0 (O.ext E1) (Nat.le_trans hn E1.1) v0 v1 v2 v3 c0 c1 ch b0 b1 bc vm1 K V1
  · exact lw_3 p l e s m args below meth c Z a0 hw z g T0 h1 n0 (O.ext E1) (Nat.le_trans hn E1.1) v0 v1 v2 v3 c0 c1 ch b0 b1 bc vm1 K V1
set_option maxRecDepth 65536 in
set_option maxHeartbeats 4000000 in
theorem dw_2 (p : Program) (l : Launch) (e : Env) (s : State) (m : MethodId) (args : Array Value) (below : List Frame) (meth : Method) (c : Code) (Z : State) (a0 : Array Value) (hw : ∀ d ∈ tables_1, d.before a0 Z = true) (z : Int32) (g : Value) (T0 : own_T Z Z.heap z g) (h0 : Heap) (n0 : Nat) (O : Old Z n0 h0) (hn : n0 ≤ h0.size) (v0 v1 v2 v3 : Int32) (nn : Int32) (hnn : nn = 0 ∨ nn = 1 ∨ nn = 2 ∨ nn = 3) (c0 : Int32) (b0 : own_bd c0) (vm : Vm) (K : own_C p (s.setVm vm) m meth c Z code "com/example/brokkr/brokkr/HttpSyntaxHeaderNamePinLaw" (some .boolean) 11) (V : own_V s Z consts_1 vm h0) :
    own_E p l e room_1 (s.setVm vm) m args below meth c h0 [] (0 + 2) (0 + 64) 24 #[.val (.int v0), .val (.int v1), .val (.int v2), .val (.int v3), .val (.int nn), .val (.int c0), .unset, .unset, .unset, .unset, .unset] [] (own_O s below Z consts_1 room_1 (own_QL n0)) := by
  by_cases q : v3 &&& (2 : Int32) = 0
  · refine own_iloadN K (pc := 24) at_24 rfl ?_
    refine own_iloadN K (pc := 25) at_25 rfl ?_
    refine own_iconst K (pc := 26) at_26 (x := (2 : Int32)) (by decide) ?_
    refine own_iand K (pc := 27) at_27 ?_
    refine own_ifY K (pc := 28) (pc' := 35) at_28 (by rw [if0]; exact (teq q).1) (by decide) (by decide) ?_
    refine own_iconst K (pc := 35) at_35 (x := (0 : Int32)) (by decide) ?_
    refine own_callSH K (own_EL hw) V (pc := 36) (W := 0) (rest := []) (argsL := [.int v1, .int 0]) (dr0 l Z a0 h0 hw v1 z g (own_T_ext O.2 T0)) (hw _ (List.mem_of_getElem? (i := 0) rfl)) (hw _ (List.mem_of_getElem? (i := 1) rfl)) (hw _ (List.mem_of_getElem? (i := 2) rfl)) (hw _ (List.mem_of_getElem? (i := 3) rfl)) (by decide) at_36 pd_1 rfl rfl rfl (Nat.le_of_eq rfl) (by decide) (by decide) (by decide) (by decide) ?_
    intro vm1 h1 u1 L1 hQ1 K V1 _
    obtain ⟨ch, rfl, bc, rfl, E1⟩ := hQ1
    refine own_istore K (pc := 39) (Ls' := #[.val (.int v0), .val (.int v1), .val (.int v2), .val (.int v3), .val (.int nn), .val (.int c0), .val (.int ch), .unset, .unset, .unset, .unset]) at_39 rfl ?_
    exact dw_3 p l e s m args below meth c Z a0 hw z g T0 h1 n0 (O.ext E1) (Nat.le_trans hn E1.1) v0 v1 v2 v3 nn hnn c0 b0 ch bc vm1 K V1
  refine own_iloadN K (pc := 24) at_24 rfl ?_
  refine own_iloadN K (pc := 25) at_25 rfl ?_
  refine own_iconst K (pc := 26) at_26 (x := (2 : Int32)) (by decide) ?_
  refine own_iand K (pc := 27) at_27 ?_
  refine own_ifN K (pc := 28) at_28 (by rw [if0]; exact (feq q).1) ?_
  refine own_iconst K (pc := 31) at_31 (x := (1 : Int32)) (by decide) ?_
  refine own_goto K (pc := 32) (pc' := 36) at_32 (by decide) (by decide) ?_
  refine own_callSH K (own_EL hw) V (pc := 36) (W := 0) (rest := []) (argsL := [.int v1, .int 1]) (dr1 l Z a0 h0 hw v1 z g (own_T_ext O.2 T0)) (hw _ (List.mem_of_getElem? (i := 0) rfl)) (hw _ (List.mem_of_getElem? (i := 1) rfl)) (hw _ (List.mem_of_getElem? (i := 2) rfl)) (hw _ (List.mem_of_getElem? (i := 3) rfl)) (by decide) at_36 pd_1 rfl rfl rfl (Nat.le_of_eq rfl) (by decide) (by decide) (by decide) (by decide) ?_
  intro vm1 h1 u1 L1 hQ1 K V1 _
  obtain ⟨ch, rfl, bc, rfl, E1⟩ := hQ1
  refine own_istore K (pc := 39) (Ls' := #[.val (.int v0), .val (.int v1), .val (.int v2), .val (.int v3), .val (.int nn), .val (.int c0), .val (.int ch), .unset, .unset, .unset, .unset]) at_39 rfl ?_
  exact dw_3 p l e s m args below meth c Z a0 hw z g T0 h1 n0 (O.ext E1) (Nat.le_trans hn E1.1) v0 v1 v2 v3 nn hnn c0 b0 ch bc vm1 K V1
set_option maxRecDepth 65536 in
set_option maxHeartbeats 4000000 in
theorem dw_1 (p : Program) (l : Launch) (e : Env) (s : State) (m : MethodId) (args : Array Value) (below : List Frame) (meth : Method) (c : Code) (Z : State) (a0 : Array Value) (hw : ∀ d ∈ tables_1, d.before a0 Z = true) (z : Int32) (g : Value) (T0 : own_T Z Z.heap z g) (h0 : Heap) (n0 : Nat) (O : Old Z n0 h0) (hn : n0 ≤ h0.size) (v0 v1 v2 v3 : Int32) (nn : Int32) (hnn : nn = 0 ∨ nn = 1 ∨ nn = 2 ∨ nn = 3)  (vm : Vm) (K : own_C p (s.setVm vm) m meth c Z code "com/example/brokkr/brokkr/HttpSyntaxHeaderNamePinLaw" (some .boolean) 11) (V : own_V s Z consts_1 vm h0) :
    own_E p l e room_1 (s.setVm vm) m args below meth c h0 [] (0) (0) 7 #[.val (.int v0), .val (.int v1), .val (.int v2), .val (.int v3), .val (.int nn), .unset, .unset, .unset, .unset, .unset, .unset] [] (own_O s below Z consts_1 room_1 (own_QL n0)) := by
  by_cases q : v3 &&& (1 : Int32) = 0
  · refine own_iloadN K (pc := 7) at_7 rfl ?_
    refine own_iloadN K (pc := 8) at_8 rfl ?_
    refine own_iconst K (pc := 9) at_9 (x := (1 : Int32)) (by decide) ?_
    refine own_iand K (pc := 10) at_10 ?_
    refine own_ifY K (pc := 11) (pc' := 18) at_11 (by rw [if0]; exact (teq q).1) (by decide) (by decide) ?_
    refine own_iconst K (pc := 18) at_18 (x := (0 : Int32)) (by decide) ?_
    refine own_callSH K (own_EL hw) V (pc := 19) (W := 0) (rest := []) (argsL := [.int v0, .int 0]) (dr0 l Z a0 h0 hw v0 z g (own_T_ext O.2 T0)) (hw _ (List.mem_of_getElem? (i := 0) rfl)) (hw _ (List.mem_of_getElem? (i := 1) rfl)) (hw _ (List.mem_of_getElem? (i := 2) rfl)) (hw _ (List.mem_of_getElem? (i := 3) rfl)) (by decide) at_19 pd_1 rfl rfl rfl (Nat.le_of_eq rfl) (by decide) (by decide) (by decide) (by decide) ?_
    intro vm1 h1 u1 L1 hQ1 K V1 _
    obtain ⟨ch, rfl, bc, rfl, E1⟩ := hQ1
    refine own_istore K (pc := 22) (Ls' := #[.val (.int v0), .val (.int v1), .val (.int v2), .val (.int v3), .val (.int nn), .val (.int ch), .unset, .unset, .unset, .unset, .unset]) at_22 rfl ?_
    exact dw_2 p l e s m args below meth c Z a0 hw z g T0 h1 n0 (O.ext E1) (Nat.le_trans hn E1.1) v0 v1 v2 v3 nn hnn  ch bc vm1 K V1
  refine own_iloadN K (pc := 7) at_7 rfl ?_
  refine own_iloadN K (pc := 8) at_8 rfl ?_
  refine own_iconst K (pc := 9) at_9 (x := (1 : Int32)) (by decide) ?_
  refine own_iand K (pc := 10) at_10 ?_
  refine own_ifN K (pc := 11) at_11 (by rw [if0]; exact (feq q).1) ?_
  refine own_iconst K (pc := 14) at_14 (x := (1 : Int32)) (by decide) ?_
  refine own_goto K (pc := 15) (pc' := 19) at_15 (by decide) (by decide) ?_
  refine own_callSH K (own_EL hw) V (pc := 19) (W := 0) (rest := []) (argsL := [.int v0, .int 1]) (dr1 l Z a0 h0 hw v0 z g (own_T_ext O.2 T0)) (hw _ (List.mem_of_getElem? (i := 0) rfl)) (hw _ (List.mem_of_getElem? (i := 1) rfl)) (hw _ (List.mem_of_getElem? (i := 2) rfl)) (hw _ (List.mem_of_getElem? (i := 3) rfl)) (by decide) at_19 pd_1 rfl rfl rfl (Nat.le_of_eq rfl) (by decide) (by decide) (by decide) (by decide) ?_
  intro vm1 h1 u1 L1 hQ1 K V1 _
  obtain ⟨ch, rfl, bc, rfl, E1⟩ := hQ1
  refine own_istore K (pc := 22) (Ls' := #[.val (.int v0), .val (.int v1), .val (.int v2), .val (.int v3), .val (.int nn), .val (.int ch), .unset, .unset, .unset, .unset, .unset]) at_22 rfl ?_
  exact dw_2 p l e s m args below meth c Z a0 hw z g T0 h1 n0 (O.ext E1) (Nat.le_trans hn E1.1) v0 v1 v2 v3 nn hnn  ch bc vm1 K V1
set_option maxRecDepth 65536 in
set_option maxHeartbeats 4000000 in
theorem rm0 (l : Launch) (Z : State) (a0 : Array Value) (hw : ∀ d ∈ tables_1, d.before a0 Z = true) (v0 v1 v2 v3 : Int32) (z : Int32) (g : Value) (T0 : own_T Z Z.heap z g) : own_H l x code maxLocals (some .boolean) tables_1 room_1 Z consts_1 Z.heap #[(.int v0), (.int v1), (.int v2), (.int v3)] (own_QL Z.heap.size) := by
  refine own_metH (by decide +kernel) (Ls := #[.val (.int v0), .val (.int v1), .val (.int v2), .val (.int v3), .unset, .unset, .unset, .unset, .unset, .unset, .unset]) (fun m => by first | (simp [entryFrame, mkF, argsToLocals, Value.category, maxLocals]; done) | rfl) ?_
  intro p e s m below meth c hh hnm K V
  refine own_iloadN K (pc := 0) at_0 rfl ?_
  refine own_iconst K (pc := 1) at_1 (x := (3 : Int32)) (by decide) ?_
  refine own_iushr K (pc := 2) at_2 ?_
  refine own_iconst K (pc := 3) at_3 (x := (3 : Int32)) (by decide) ?_
  refine own_iand K (pc := 4) at_4 ?_
  refine own_istore K (pc := 5) (Ls' := #[.val (.int v0), .val (.int v1), .val (.int v2), .val (.int v3), .val (.int ((XT.ushr v3 (3 : Int32)) &&& (3 : Int32))), .unset, .unset, .unset, .unset, .unset, .unset]) at_5 rfl ?_
  exact dw_1 p l e s m _ below meth c Z a0 hw z g T0 Z.heap Z.heap.size (Old.start Z) (Nat.le_refl _) v0 v1 v2 v3 _ (own_n4 _) _ K V
set_option maxRecDepth 65536 in
set_option maxHeartbeats 40000000 in
theorem comes_1 {Post : Tables → Env → Array Value → State → Outcome → State → Prop} (hpost : ∀ tb e args s v u, (limb_1_1.after args s (.returned v) u = true ∧ limb_1_2.after args s (.returned v) u = true ∧ True) → FramedW s (.returned v) u (Jvm.fieldLocs frame_1_writes args s ++ Jvm.arrayLocs frame_1_arrays args s ++ Jvm.staticLocs frame_1_statics s) 24 4224 → Post tb e args s (.returned v) u) :
    ArmFor flags0 classFile x code maxLocals ret World_1 tables_1 room_1 Calls_1 rest_1 Pre_1 Post := by
  intro l hfl _ _ p e ha hc hk s m args below hf hA hF happ hP
  obtain ⟨hcalls, hrest, hpre⟩ := hP
  obtain ⟨-, -, -, hnamed, -, -, -, hat⟩ := (Spec.applies_iff hf).mp happ
  obtain ⟨hg, hn⟩ := and_e (Cond.before_iff.mp (show (Jvm.Cond.and given_1 narrow_1).before args s = true from hpre))
  obtain ⟨h1, h2⟩ := and_e hg
  obtain ⟨w0, w1, w2, w3, rfl⟩ : ∃ w0 w1 w2 w3 : Value, args = #[w0, w1, w2, w3] := by
    have hs : args.size = 4 := by simpa [Cond.value, given_1] using h1
    obtain ⟨L⟩ := args
    match L, hs with
    | [w0, w1, w2, w3], _ => exact ⟨w0, w1, w2, w3, rfl⟩
  have hw := fun d (hd : d ∈ tables_1) => atoms_spec (ws := Jvm.Cond.code x code maxLocals ret :: tables_1) hat d (List.mem_cons_of_mem _ hd)
  obtain ⟨hsets, hown0⟩ := atoms_of _ (rest_1_c_eq ▸ (show rest_1_c.before _ s = true from hrest))
  obtain ⟨q0, h2⟩ := and_e h2
  obtain ⟨i0, e0⟩ := is_v q0
  obtain rfl : w0 = (.int i0) := Option.some.inj e0
  obtain ⟨q1, h2⟩ := and_e h2
  obtain ⟨i1, e1⟩ := is_v q1
  obtain rfl : w1 = (.int i1) := Option.some.inj e1
  obtain ⟨q2, h2⟩ := and_e h2
  obtain ⟨i2, e2⟩ := is_v q2
  obtain rfl : w2 = (.int i2) := Option.some.inj e2
  obtain ⟨i3, e3⟩ := is_v h2
  obtain rfl : w3 = (.int i3) := Option.some.inj e3
  obtain ⟨k1, ek⟩ := is_v (Cond.before_iff.mp (hsets _ (List.mem_of_getElem? (i := 1) rfl)))
  have S1 : Sta s s.heap "java/lang/String" "COMPACT_STRINGS" "Z" (.int k1) := Sta.start ek (Or.inl (hsets _ (List.mem_of_getElem? (i := 0) rfl)))
  have P1 : ¬ (k1 = (0 : Int32)) := gotF (Cond.eq_ints ek (Term.int_eval (0))) (not_v (Cond.before_iff.mp (hsets _ (List.mem_of_getElem? (i := 2) rfl))))
  obtain ⟨g1, eg, r2⟩ := isR_v (Cond.before_iff.mp (hsets _ (List.mem_of_getElem? (i := 8) rfl)))
  have S2 : Sta s s.heap "jdk/internal/util/Preconditions" "SIOOBE_FORMATTER" "Ljava/util/function/BiFunction;" g1 := Sta.start eg (Or.inl (hsets _ (List.mem_of_getElem? (i := 7) rfl)))
  have hV : CHv s consts_1 s.vm s.heap := CHv.start (own_EL hw) hcalls.1 (hsets _ (List.mem_of_getElem? (i := 2) rfl)) (own_wS hw _ (by simp [Bundle.stringAtoms])) (own_wS hw _ (by simp [Bundle.stringAtoms, Bundle.sN]))
  obtain ⟨n, o, h1, h2, h3, _, L, rfl, ⟨rfl, N⟩, -, hq⟩ := rm0 l s _ hw i0 i1 i2 i3 k1 g1 ⟨S1, P1, S2, r2⟩ p e ha hc hk s m _ below hf ((Spec.applies_iff_loose hf).mp happ).1 ⟨rfl, State.Warmed39.refl s, rfl, hV⟩ trivial
  refine ⟨n, _, h1, h2, h3, hpost _ _ _ _ _ _ ⟨Cond.after_iff.mpr rfl, Cond.after_iff.mpr (eq_i res_at (Term.int_eval (1)) rfl), trivial⟩ ⟨hq.1, hq.2.1, hq.2.2.1, (hq.2.2.2.sift fun y hy => Or.inr (N y hy)).mono (by decide) (by decide)⟩⟩
theorem main_1_1 : Claimed_1_1 := comes_1 fun _ _ _ _ _ _ h hF => ⟨h.1, hF⟩
theorem main_1_2 : Claimed_1_2 := comes_1 fun _ _ _ _ _ _ h hF => ⟨h.2.1, hF⟩
end Jvm.Pilot.@@N@@
namespace Jvm.Pilot.@@N@@
open Jvm Jvm.ClassFile Sem Op Lib Jvm.Free Jvm.Stand Jvm.Pilot.@@N@@.Jvm.D
/-! MADE BY PROGRAM (witnessworld.py) out of the Statement's table words and the real class files: 22 classes; the members and pool entries that the words name. The judged class is class 1, her method 4. -/
namespace start1
open Jvm.ClassFile
def u (s : String) : CpInfo := .utf8 (stringToUtf16 s)
/-- a pool by its gaps: so many unusable entries, then the entry; so many at the end -/
def gap : Nat → List CpInfo → List CpInfo
  | 0, r => r
  | n + 1, r => .unusable :: gap n r
def poolList (es : List (Nat × CpInfo)) (last : Nat) : List CpInfo := es.foldr (fun e r => gap e.1 (e.2 :: r)) (gap last [])
def pool (es : List (Nat × CpInfo)) (last : Nat) : Array CpInfo := ⟨poolList es last⟩
def fileOf (pool : Array CpInfo) (this : Nat) (attrs : Array Attribute := #[]) (ms : Array MethodInfo := #[]) (fl : Nat := 33) (sup : Nat := 0) (ifs : Array Nat := #[]) (fds : Array FieldInfo := #[]) : ClassFile where
  minorVersion := 0
  majorVersion := 65
  constantPool := pool
  accessFlags := fl
  thisClass := this
  superClass := sup
  interfaces := ifs
  fields := fds
  methods := ms
  attributes := attrs
def plain (name : String) (sup : Option ClassId) : Class where
  name := name
  kind := .ordinary
  loader := none
  accessFlags := 33
  super := sup
  interfaces := #[]
  cf := none
  fields := #[]
  methods := #[]
  instanceTypes := #[]
  staticTypes := #[]
  resolved := #[]
  callSites := []
  init := .initialized
  statics := none
  mirror := none

def pool0 : Array CpInfo := pool [(5, u "<init>"), (0, u "()V"), (1, .class_ 10), (1, u "java/lang/Object")] 113

def k0c0 : Code := { maxStack := 0, maxLocals := 1, code := object_method_1_code, exceptionTable := #[], attributes := #[] }
def k0m0 : Method := { name := "<init>", desc := "()V", sig := { parameters := [], returnType := none }, accessFlags := 1, code := some k0c0 }
/-- java/lang/Object -/
def k0 : Class := { plain "java/lang/Object" none with
  accessFlags := 33
  interfaces := #[]
  cf := some (fileOf pool0 8 #[] #[{ accessFlags := 1, nameIndex := 5, descriptorIndex := 6, attributes := #[] }] 33 0 #[] #[])
  fields := #[]
  methods := #[k0m0]
  instanceTypes := #[]
  staticTypes := #[]
  resolved := Array.replicate 124 none
  statics := none }

def pool1 : Array CpInfo := pool [(2, .class_ 4), (1, u "java/lang/Object"), (0, u "<init>"), (0, u "()V"), (0, .string 8), (0, u "!#$%&'*+-.^_`|~"), (0, .methodref 10 11), (0, .class_ 12), (0, .nameAndType 13 14), (0, u "java/lang/String"), (0, u "charAt"), (0, u "(I)C"), (0, .integer 2147483647), (0, .methodref 17 18), (0, .class_ 19), (0, .nameAndType 20 14), (0, u "com/example/brokkr/brokkr/HttpSyntaxHeaderNamePinLaw"), (0, u "tokenChar"), (0, .methodref 17 22), (0, .nameAndType 23 24), (0, u "draw"), (0, u "(IZ)C"), (0, .methodref 10 26), (0, .nameAndType 5 27), (0, u "([C)V"), (0, .methodref 17 29), (0, .nameAndType 30 31), (0, u "refTok"), (0, u "(C)Z"), (0, .methodref 33 34), (0, .class_ 35), (0, .nameAndType 36 37), (0, u "com/example/brokkr/brokkr/HttpSyntax"), (0, u "isToken"), (0, u "(Ljava/lang/String;)Z"), (0, .methodref 33 39), (0, .nameAndType 40 41), (0, u "headerName"), (0, u "(Ljava/lang/String;)Ljava/lang/String;"), (0, .methodref 10 43), (0, .nameAndType 44 45), (0, u "equals"), (0, u "(Ljava/lang/Object;)Z"), (3, u "law"), (0, u "(IIII)Z")] 2

def k1m0 : Method := { name := "<init>", desc := "()V", sig := { parameters := [], returnType := none }, accessFlags := 2, code := none }
def k1c1 : Code := { maxStack := 2, maxLocals := 1, code := method_2_code, exceptionTable := #[], attributes := #[] }
def k1m1 : Method := { name := "refTok", desc := "(C)Z", sig := { parameters := [.char], returnType := some .boolean }, accessFlags := 10, code := some k1c1 }
def k1c2 : Code := { maxStack := 3, maxLocals := 1, code := method_3_code, exceptionTable := #[], attributes := #[] }
def k1m2 : Method := { name := "tokenChar", desc := "(I)C", sig := { parameters := [.int], returnType := some .char }, accessFlags := 10, code := some k1c2 }
def k1c3 : Code := { maxStack := 2, maxLocals := 2, code := method_4_code, exceptionTable := #[], attributes := #[] }
def k1m3 : Method := { name := "draw", desc := "(IZ)C", sig := { parameters := [.int, .boolean], returnType := some .char }, accessFlags := 10, code := some k1c3 }
def k1c4 : Code := { maxStack := 6, maxLocals := 11, code := code, exceptionTable := #[], attributes := #[] }
def k1m4 : Method := { name := "law", desc := "(IIII)Z", sig := { parameters := [.int, .int, .int, .int], returnType := some .boolean }, accessFlags := 9, code := some k1c4 }
/-- com/example/brokkr/brokkr/HttpSyntaxHeaderNamePinLaw -/
def k1 : Class := { plain "com/example/brokkr/brokkr/HttpSyntaxHeaderNamePinLaw" (some 0) with
  accessFlags := 49
  interfaces := #[]
  cf := some (fileOf pool1 17 #[] #[{ accessFlags := 2, nameIndex := 5, descriptorIndex := 6, attributes := #[] }, { accessFlags := 10, nameIndex := 30, descriptorIndex := 31, attributes := #[] }, { accessFlags := 10, nameIndex := 20, descriptorIndex := 14, attributes := #[] }, { accessFlags := 10, nameIndex := 23, descriptorIndex := 24, attributes := #[] }, { accessFlags := 9, nameIndex := 49, descriptorIndex := 50, attributes := #[] }] 49 2 #[] #[])
  fields := #[]
  methods := #[k1m0, k1m1, k1m2, k1m3, k1m4]
  instanceTypes := #[]
  staticTypes := #[]
  resolved := Array.replicate 53 none
  statics := none }

def pool2 : Array CpInfo := pool [(1, .class_ 2), (0, u "java/io/Serializable"), (0, .class_ 4), (0, u "java/lang/Object")] 2

/-- java/io/Serializable -/
def k2 : Class := { plain "java/io/Serializable" (some 0) with
  accessFlags := 1537
  interfaces := #[]
  cf := some (fileOf pool2 1 #[] #[] 1537 3 #[] #[])
  fields := #[]
  methods := #[]
  instanceTypes := #[]
  staticTypes := #[]
  resolved := Array.replicate 7 none
  statics := none }

def pool3 : Array CpInfo := pool [(1, .class_ 2), (0, u "java/lang/Comparable"), (0, .class_ 4), (0, u "java/lang/Object")] 7

/-- java/lang/Comparable -/
def k3 : Class := { plain "java/lang/Comparable" (some 0) with
  accessFlags := 1537
  interfaces := #[]
  cf := some (fileOf pool3 1 #[] #[] 1537 3 #[] #[])
  fields := #[]
  methods := #[]
  instanceTypes := #[]
  staticTypes := #[]
  resolved := Array.replicate 12 none
  statics := none }

def pool4 : Array CpInfo := pool [(2, .class_ 4), (1, u "java/lang/CharSequence"), (42, .class_ 48), (0, u "java/lang/CharSequence$1CodePointIterator"), (10, .class_ 60), (0, u "java/lang/CharSequence$1CharIterator"), (5, .class_ 67), (0, u "java/lang/Object")] 63

/-- java/lang/CharSequence -/
def k4 : Class := { plain "java/lang/CharSequence" (some 0) with
  accessFlags := 1537
  interfaces := #[]
  cf := some (fileOf pool4 2 #[.nestMembers #[47, 59]] #[] 1537 66 #[] #[])
  fields := #[]
  methods := #[]
  instanceTypes := #[]
  staticTypes := #[]
  resolved := Array.replicate 131 none
  statics := none }

def pool5 : Array CpInfo := pool [(1, .class_ 2), (0, u "java/lang/constant/Constable"), (0, .class_ 4), (0, u "java/lang/Object")] 6

/-- java/lang/constant/Constable -/
def k5 : Class := { plain "java/lang/constant/Constable" (some 0) with
  accessFlags := 1537
  interfaces := #[]
  cf := some (fileOf pool5 1 #[] #[] 1537 3 #[] #[])
  fields := #[]
  methods := #[]
  instanceTypes := #[]
  staticTypes := #[]
  resolved := Array.replicate 11 none
  statics := none }

def pool6 : Array CpInfo := pool [(1, .class_ 2), (0, u "java/lang/constant/ConstantDesc"), (0, .class_ 4), (0, u "java/lang/Object")] 32

/-- java/lang/constant/ConstantDesc -/
def k6 : Class := { plain "java/lang/constant/ConstantDesc" (some 0) with
  accessFlags := 1537
  interfaces := #[]
  cf := some (fileOf pool6 1 #[] #[] 1537 3 #[] #[])
  fields := #[]
  methods := #[]
  instanceTypes := #[]
  staticTypes := #[]
  resolved := Array.replicate 37 none
  statics := none }

def pool7 : Array CpInfo := pool [(1, .methodref 2 3), (0, .class_ 4), (0, .nameAndType 5 6), (0, u "java/lang/Object"), (0, u "<init>"), (0, u "()V"), (0, .string 8), (0, u ""), (0, .fieldref 10 11), (0, .class_ 12), (0, .nameAndType 13 14), (0, u "java/lang/String"), (0, u "value"), (0, u "[B"), (0, .fieldref 10 16), (0, .nameAndType 17 18), (0, u "coder"), (0, u "B"), (2, u "hash"), (0, u "I"), (2, u "hashIsZero"), (0, u "Z"), (0, .methodref 10 28), (0, .nameAndType 5 29), (0, u "([CIILjava/lang/Void;)V"), (8, .fieldref 10 39), (0, .nameAndType 40 26), (0, u "COMPACT_STRINGS"), (1, .class_ 44), (1, u "java/lang/StringUTF16"), (0, u "compress"), (1, .methodref 42 48), (0, .nameAndType 49 50), (0, u "coderFromArrayLen"), (0, u "([BI)B"), (56, .class_ 109), (1, u "java/lang/StringLatin1"), (32, u "()Z"), (34, .methodref 42 178), (0, .nameAndType 45 179), (0, u "([CII)[B"), (154, u "()I"), (0, .methodref 10 336), (0, .nameAndType 17 337), (0, u "()B"), (25, u "([BI)C"), (27, u "(II)V"), (35, u "(I)C"), (64, .methodref 10 493), (0, .nameAndType 494 142), (0, u "isLatin1"), (0, .methodref 107 496), (0, .nameAndType 497 363), (0, u "charAt"), (3, u "checkIndex"), (3, .methodref 10 506), (0, .nameAndType 507 334), (0, u "length"), (35, u "equals"), (29, u "(Ljava/lang/Object;)Z"), (1, .class_ 576), (0, u "java/lang/CharSequence"), (22, u "CASE_INSENSITIVE_ORDER"), (0, u "Ljava/util/Comparator;"), (32, .methodref 10 634), (0, .nameAndType 635 636), (0, u "indexOf"), (0, u "(II)I"), (0, .methodref 107 638), (0, .nameAndType 635 639), (0, u "([BIII)I"), (52, u "isEmpty"), (72, u "(I)I"), (244, u "([C)V"), (42, .fieldref 1054 1055), (0, .class_ 1056), (0, .nameAndType 1057 1058), (0, u "jdk/internal/util/Preconditions"), (0, u "SIOOBE_FORMATTER"), (0, u "Ljava/util/function/BiFunction;"), (0, .methodref 1054 1060), (0, .nameAndType 501 1061), (0, u "(IILjava/util/function/BiFunction;)I"), (39, u "serialPersistentFields"), (0, u "[Ljava/io/ObjectStreamField;"), (0, .class_ 1104), (0, u "java/lang/String$CaseInsensitiveComparator"), (1, .class_ 1107), (0, u "java/io/Serializable"), (0, .class_ 1109), (0, u "java/lang/Comparable"), (0, .class_ 1111), (0, u "java/lang/constant/Constable"), (0, .class_ 1113), (0, u "java/lang/constant/ConstantDesc"), (2, u "serialVersionUID"), (0, u "J"), (3, u "REPL"), (0, u "C"), (2, u "LATIN1"), (1, u "UTF16")] 323

def k7m0 : Method := { name := "<init>", desc := "()V", sig := { parameters := [], returnType := none }, accessFlags := 1, code := none }
def k7c1 : Code := { maxStack := 5, maxLocals := 2, code := jdk_42_method_3_code, exceptionTable := #[], attributes := #[] }
def k7m1 : Method := { name := "<init>", desc := "([C)V", sig := { parameters := [(.array .char)], returnType := none }, accessFlags := 1, code := some k7c1 }
def k7c2 : Code := { maxStack := 2, maxLocals := 1, code := jdk_42_method_54_code, exceptionTable := #[], attributes := #[] }
def k7m2 : Method := { name := "length", desc := "()I", sig := { parameters := [], returnType := some .int }, accessFlags := 1, code := some k7c2 }
def k7c3 : Code := { maxStack := 1, maxLocals := 1, code := jdk_42_method_55_code, exceptionTable := #[], attributes := #[] }
def k7m3 : Method := { name := "isEmpty", desc := "()Z", sig := { parameters := [], returnType := some .boolean }, accessFlags := 1, code := some k7c3 }
def k7c4 : Code := { maxStack := 2, maxLocals := 2, code := jdk_42_method_56_code, exceptionTable := #[], attributes := #[] }
def k7m4 : Method := { name := "charAt", desc := "(I)C", sig := { parameters := [.int], returnType := some .char }, accessFlags := 1, code := some k7c4 }
def k7c5 : Code := { maxStack := 2, maxLocals := 3, code := jdk_42_method_66_code, exceptionTable := #[], attributes := #[] }
def k7m5 : Method := { name := "equals", desc := "(Ljava/lang/Object;)Z", sig := { parameters := [(.object "java/lang/Object")], returnType := some .boolean }, accessFlags := 1, code := some k7c5 }
def k7c6 : Code := { maxStack := 3, maxLocals := 2, code := jdk_42_method_79_code, exceptionTable := #[], attributes := #[] }
def k7m6 : Method := { name := "indexOf", desc := "(I)I", sig := { parameters := [.int], returnType := some .int }, accessFlags := 1, code := some k7c6 }
def k7c7 : Code := { maxStack := 4, maxLocals := 3, code := jdk_42_method_80_code, exceptionTable := #[], attributes := #[] }
def k7m7 : Method := { name := "indexOf", desc := "(II)I", sig := { parameters := [.int, .int], returnType := some .int }, accessFlags := 1, code := some k7c7 }
def k7c8 : Code := { maxStack := 4, maxLocals := 6, code := jdk_42_method_149_code, exceptionTable := #[], attributes := #[] }
def k7m8 : Method := { name := "<init>", desc := "([CIILjava/lang/Void;)V", sig := { parameters := [(.array .char), .int, .int, (.object "java/lang/Void")], returnType := none }, accessFlags := 2, code := some k7c8 }
def k7c9 : Code := { maxStack := 1, maxLocals := 1, code := jdk_42_method_152_code, exceptionTable := #[], attributes := #[] }
def k7m9 : Method := { name := "coder", desc := "()B", sig := { parameters := [], returnType := some .byte }, accessFlags := 0, code := some k7c9 }
def k7c10 : Code := { maxStack := 1, maxLocals := 1, code := jdk_42_method_154_code, exceptionTable := #[], attributes := #[] }
def k7m10 : Method := { name := "isLatin1", desc := "()Z", sig := { parameters := [], returnType := some .boolean }, accessFlags := 0, code := some k7c10 }
def k7c11 : Code := { maxStack := 3, maxLocals := 2, code := jdk_42_method_155_code, exceptionTable := #[], attributes := #[] }
def k7m11 : Method := { name := "checkIndex", desc := "(II)V", sig := { parameters := [.int, .int], returnType := none }, accessFlags := 8, code := some k7c11 }
/-- java/lang/String -/
def k7 : Class := { plain "java/lang/String" (some 0) with
  accessFlags := 49
  interfaces := #[2, 3, 4, 5, 6]
  cf := some (fileOf pool7 10 #[.nestMembers #[1103]] #[{ accessFlags := 1, nameIndex := 5, descriptorIndex := 6, attributes := #[] }, { accessFlags := 1, nameIndex := 5, descriptorIndex := 1010, attributes := #[] }, { accessFlags := 1, nameIndex := 507, descriptorIndex := 334, attributes := #[] }, { accessFlags := 1, nameIndex := 692, descriptorIndex := 142, attributes := #[] }, { accessFlags := 1, nameIndex := 497, descriptorIndex := 427, attributes := #[] }, { accessFlags := 1, nameIndex := 543, descriptorIndex := 573, attributes := #[] }, { accessFlags := 1, nameIndex := 635, descriptorIndex := 765, attributes := #[] }, { accessFlags := 1, nameIndex := 635, descriptorIndex := 636, attributes := #[] }, { accessFlags := 2, nameIndex := 5, descriptorIndex := 29, attributes := #[] }, { accessFlags := 0, nameIndex := 17, descriptorIndex := 337, attributes := #[] }, { accessFlags := 0, nameIndex := 494, descriptorIndex := 142, attributes := #[] }, { accessFlags := 8, nameIndex := 501, descriptorIndex := 391, attributes := #[] }] 49 2 #[1106, 1108, 575, 1110, 1112] #[{ accessFlags := 18, nameIndex := 13, descriptorIndex := 14, attributes := #[] }, { accessFlags := 18, nameIndex := 17, descriptorIndex := 18, attributes := #[] }, { accessFlags := 2, nameIndex := 21, descriptorIndex := 22, attributes := #[] }, { accessFlags := 2, nameIndex := 25, descriptorIndex := 26, attributes := #[] }, { accessFlags := 26, nameIndex := 1116, descriptorIndex := 1117, attributes := #[] }, { accessFlags := 24, nameIndex := 40, descriptorIndex := 26, attributes := #[] }, { accessFlags := 26, nameIndex := 1101, descriptorIndex := 1102, attributes := #[] }, { accessFlags := 26, nameIndex := 1121, descriptorIndex := 1122, attributes := #[] }, { accessFlags := 25, nameIndex := 599, descriptorIndex := 600, attributes := #[] }, { accessFlags := 24, nameIndex := 1125, descriptorIndex := 18, attributes := #[] }, { accessFlags := 24, nameIndex := 1127, descriptorIndex := 18, attributes := #[] }])
  fields := #[{ name := "value", type := (.array .byte), accessFlags := 18, slot := 0, constantValue := 0 }, { name := "coder", type := .byte, accessFlags := 18, slot := 1, constantValue := 0 }, { name := "hash", type := .int, accessFlags := 2, slot := 2, constantValue := 0 }, { name := "hashIsZero", type := .boolean, accessFlags := 2, slot := 3, constantValue := 0 }, { name := "serialVersionUID", type := .long, accessFlags := 26, slot := 0, constantValue := 0 }, { name := "COMPACT_STRINGS", type := .boolean, accessFlags := 24, slot := 1, constantValue := 0 }, { name := "serialPersistentFields", type := (.array (.object "java/io/ObjectStreamField")), accessFlags := 26, slot := 2, constantValue := 0 }, { name := "REPL", type := .char, accessFlags := 26, slot := 3, constantValue := 0 }, { name := "CASE_INSENSITIVE_ORDER", type := (.object "java/util/Comparator"), accessFlags := 25, slot := 4, constantValue := 0 }, { name := "LATIN1", type := .byte, accessFlags := 24, slot := 5, constantValue := 0 }, { name := "UTF16", type := .byte, accessFlags := 24, slot := 6, constantValue := 0 }]
  methods := #[k7m0, k7m1, k7m2, k7m3, k7m4, k7m5, k7m6, k7m7, k7m8, k7m9, k7m10, k7m11]
  instanceTypes := #[(.array .byte), .byte, .int, .boolean]
  staticTypes := #[.long, .boolean, (.array (.object "java/io/ObjectStreamField")), .char, (.object "java/util/Comparator"), .byte, .byte]
  resolved := Array.replicate 1451 none
  statics := some 0 }

def pool8 : Array CpInfo := pool [(2, .class_ 4), (1, u "java/lang/Object"), (0, u "<init>"), (0, u "()V"), (0, .methodref 8 9), (0, .class_ 10), (0, .nameAndType 11 12), (0, u "java/lang/String"), (0, u "isEmpty"), (0, u "()Z"), (0, .methodref 8 14), (0, .nameAndType 15 16), (0, u "length"), (0, u "()I"), (0, .methodref 8 18), (0, .nameAndType 19 20), (0, u "charAt"), (0, u "(I)C"), (0, .class_ 22), (0, u "com/example/brokkr/brokkr/HttpSyntax"), (0, .string 24), (0, u "!#$%&'*+-.^_`|~"), (0, .methodref 8 26), (0, .nameAndType 27 28), (0, u "indexOf"), (0, u "(I)I"), (0, .string 30), (0, u "a header's name"), (0, .methodref 32 33), (0, .class_ 34), (0, .nameAndType 35 36), (0, u "java/util/Objects"), (0, u "requireNonNull"), (0, u "(Ljava/lang/Object;Ljava/lang/String;)Ljava/lang/Object;"), (0, .methodref 21 38), (0, .nameAndType 39 40), (0, u "isToken"), (0, u "(Ljava/lang/String;)Z"), (5, u "(Ljava/lang/String;)Ljava/lang/String;"), (3, u "TOKEN_SYMBOLS"), (0, u "Ljava/lang/String;"), (4, u "headerName")] 17

def k8m0 : Method := { name := "<init>", desc := "()V", sig := { parameters := [], returnType := none }, accessFlags := 2, code := none }
def k8c1 : Code := { maxStack := 2, maxLocals := 4, code := prog_7_method_2_code, exceptionTable := #[], attributes := #[] }
def k8m1 : Method := { name := "isToken", desc := "(Ljava/lang/String;)Z", sig := { parameters := [(.object "java/lang/String")], returnType := some .boolean }, accessFlags := 8, code := some k8c1 }
def k8c2 : Code := { maxStack := 3, maxLocals := 1, code := prog_7_method_3_code, exceptionTable := #[], attributes := #[] }
def k8m2 : Method := { name := "headerName", desc := "(Ljava/lang/String;)Ljava/lang/String;", sig := { parameters := [(.object "java/lang/String")], returnType := some (.object "java/lang/String") }, accessFlags := 8, code := some k8c2 }
/-- com/example/brokkr/brokkr/HttpSyntax -/
def k8 : Class := { plain "com/example/brokkr/brokkr/HttpSyntax" (some 0) with
  accessFlags := 48
  interfaces := #[]
  cf := some (fileOf pool8 21 #[] #[{ accessFlags := 2, nameIndex := 5, descriptorIndex := 6, attributes := #[] }, { accessFlags := 8, nameIndex := 39, descriptorIndex := 40, attributes := #[] }, { accessFlags := 8, nameIndex := 56, descriptorIndex := 46, attributes := #[] }] 48 2 #[] #[{ accessFlags := 26, nameIndex := 50, descriptorIndex := 51, attributes := #[] }])
  fields := #[{ name := "TOKEN_SYMBOLS", type := (.object "java/lang/String"), accessFlags := 26, slot := 0, constantValue := 0 }]
  methods := #[k8m0, k8m1, k8m2]
  instanceTypes := #[]
  staticTypes := #[(.object "java/lang/String")]
  resolved := Array.replicate 74 none
  statics := none }

def pool9 : Array CpInfo := pool [(6, .class_ 8), (1, u "java/lang/Object"), (0, u "<init>"), (0, u "()V"), (1, .class_ 14), (1, u "java/lang/StringUTF16"), (31, u "$assertionsDisabled"), (0, u "Z"), (13, u "HI_BYTE_SHIFT"), (0, u "I"), (2, u "LO_BYTE_SHIFT"), (49, .methodref 12 116), (0, .nameAndType 117 118), (0, u "compress"), (0, u "([CI[BII)I"), (3, u "([CII)[B"), (138, u "coderFromArrayLen"), (0, u "([BI)B"), (106, .class_ 371), (1, u "java/lang/StringUTF16$LinesSpliterator"), (58, u "MAX_LENGTH"), (196, .class_ 628), (0, u "java/lang/StringUTF16$CodePointsSpliterator"), (0, .class_ 630), (0, u "java/lang/StringUTF16$CharsSpliterator")] 4

def k9m0 : Method := { name := "<init>", desc := "()V", sig := { parameters := [], returnType := none }, accessFlags := 0, code := none }
def k9c1 : Code := { maxStack := 2, maxLocals := 2, code := jdk_52_method_15_code, exceptionTable := #[], attributes := #[] }
def k9m1 : Method := { name := "coderFromArrayLen", desc := "([BI)B", sig := { parameters := [(.array .byte), .int], returnType := some .byte }, accessFlags := 8, code := some k9c1 }
def k9c2 : Code := { maxStack := 5, maxLocals := 6, code := jdk_52_method_16_code, exceptionTable := #[], attributes := #[] }
def k9m2 : Method := { name := "compress", desc := "([CII)[B", sig := { parameters := [(.array .char), .int, .int], returnType := some (.array .byte) }, accessFlags := 9, code := some k9c2 }
def k9c3 : Code := { maxStack := 3, maxLocals := 7, code := jdk_52_method_21_code, exceptionTable := #[], attributes := #[] }
def k9m3 : Method := { name := "compress", desc := "([CI[BII)I", sig := { parameters := [(.array .char), .int, (.array .byte), .int, .int], returnType := some .int }, accessFlags := 9, code := some k9c3 }
/-- java/lang/StringUTF16 -/
def k9 : Class := { plain "java/lang/StringUTF16" (some 0) with
  accessFlags := 48
  interfaces := #[]
  cf := some (fileOf pool9 12 #[.nestMembers #[627, 629, 369]] #[{ accessFlags := 0, nameIndex := 9, descriptorIndex := 10, attributes := #[] }, { accessFlags := 8, nameIndex := 261, descriptorIndex := 262, attributes := #[] }, { accessFlags := 9, nameIndex := 117, descriptorIndex := 122, attributes := #[] }, { accessFlags := 9, nameIndex := 117, descriptorIndex := 118, attributes := #[] }] 48 6 #[] #[{ accessFlags := 26, nameIndex := 61, descriptorIndex := 62, attributes := #[] }, { accessFlags := 26, nameIndex := 65, descriptorIndex := 62, attributes := #[] }, { accessFlags := 24, nameIndex := 430, descriptorIndex := 62, attributes := #[] }, { accessFlags := 4120, nameIndex := 46, descriptorIndex := 47, attributes := #[] }])
  fields := #[{ name := "HI_BYTE_SHIFT", type := .int, accessFlags := 26, slot := 0, constantValue := 0 }, { name := "LO_BYTE_SHIFT", type := .int, accessFlags := 26, slot := 1, constantValue := 0 }, { name := "MAX_LENGTH", type := .int, accessFlags := 24, slot := 2, constantValue := 0 }, { name := "$assertionsDisabled", type := .boolean, accessFlags := 4120, slot := 3, constantValue := 0 }]
  methods := #[k9m0, k9m1, k9m2, k9m3]
  instanceTypes := #[]
  staticTypes := #[.int, .int, .int, .boolean]
  resolved := Array.replicate 635 none
  statics := none }

def pool10 : Array CpInfo := pool [(1, .class_ 2), (0, u "java/lang/String"), (1, .class_ 6), (1, u "java/lang/Object"), (0, u "<init>"), (0, u "()V"), (0, .methodref 1 10), (0, .nameAndType 11 12), (0, u "checkIndex"), (0, u "(II)V"), (1, .class_ 16), (1, u "java/lang/StringLatin1"), (21, .methodref 39 40), (0, .class_ 41), (0, .nameAndType 42 43), (0, u "java/lang/Math"), (0, u "min"), (0, u "(II)I"), (9, u "([BI)C"), (34, .methodref 14 89), (0, .nameAndType 90 91), (0, u "canEncode"), (0, u "(I)Z"), (0, .methodref 39 93), (0, .nameAndType 94 43), (0, u "max"), (0, .methodref 14 96), (0, .nameAndType 97 98), (0, u "indexOfChar"), (0, u "([BIII)I"), (2, u "indexOf"), (19, u "$assertionsDisabled"), (0, u "Z"), (98, .class_ 223), (1, u "java/lang/StringLatin1$LinesSpliterator"), (28, u "charAt"), (137, .class_ 391), (0, u "java/lang/StringLatin1$CharsSpliterator")] 3

def k10m0 : Method := { name := "<init>", desc := "()V", sig := { parameters := [], returnType := none }, accessFlags := 0, code := none }
def k10c1 : Code := { maxStack := 2, maxLocals := 2, code := jdk_43_method_2_code, exceptionTable := #[], attributes := #[] }
def k10m1 : Method := { name := "charAt", desc := "([BI)C", sig := { parameters := [(.array .byte), .int], returnType := some .char }, accessFlags := 9, code := some k10c1 }
def k10c2 : Code := { maxStack := 2, maxLocals := 1, code := jdk_43_method_4_code, exceptionTable := #[], attributes := #[] }
def k10m2 : Method := { name := "canEncode", desc := "(I)Z", sig := { parameters := [.int], returnType := some .boolean }, accessFlags := 9, code := some k10c2 }
def k10c3 : Code := { maxStack := 4, maxLocals := 4, code := jdk_43_method_22_code, exceptionTable := #[], attributes := #[] }
def k10m3 : Method := { name := "indexOf", desc := "([BIII)I", sig := { parameters := [(.array .byte), .int, .int, .int], returnType := some .int }, accessFlags := 9, code := some k10c3 }
def k10c4 : Code := { maxStack := 2, maxLocals := 6, code := jdk_43_method_23_code, exceptionTable := #[], attributes := #[] }
def k10m4 : Method := { name := "indexOfChar", desc := "([BIII)I", sig := { parameters := [(.array .byte), .int, .int, .int], returnType := some .int }, accessFlags := 10, code := some k10c4 }
/-- java/lang/StringLatin1 -/
def k10 : Class := { plain "java/lang/StringLatin1" (some 0) with
  accessFlags := 48
  interfaces := #[]
  cf := some (fileOf pool10 14 #[.nestMembers #[390, 221]] #[{ accessFlags := 0, nameIndex := 7, descriptorIndex := 8, attributes := #[] }, { accessFlags := 9, nameIndex := 252, descriptorIndex := 53, attributes := #[] }, { accessFlags := 9, nameIndex := 90, descriptorIndex := 91, attributes := #[] }, { accessFlags := 9, nameIndex := 101, descriptorIndex := 98, attributes := #[] }, { accessFlags := 10, nameIndex := 97, descriptorIndex := 98, attributes := #[] }] 48 4 #[] #[{ accessFlags := 4120, nameIndex := 121, descriptorIndex := 122, attributes := #[] }])
  fields := #[{ name := "$assertionsDisabled", type := .boolean, accessFlags := 4120, slot := 0, constantValue := 0 }]
  methods := #[k10m0, k10m1, k10m2, k10m3, k10m4]
  instanceTypes := #[]
  staticTypes := #[.boolean]
  resolved := Array.replicate 395 none
  statics := none }

def pool11 : Array CpInfo := pool [(2, .class_ 4), (1, u "java/lang/Object"), (0, u "<init>"), (0, u "()V"), (17, .class_ 26), (1, u "jdk/internal/util/Preconditions"), (6, u "checkIndex"), (21, .class_ 56), (0, u "jdk/internal/util/Preconditions$4"), (57, .class_ 115), (0, u "jdk/internal/util/Preconditions$1"), (7, u "SIOOBE_FORMATTER"), (0, u "Ljava/util/function/BiFunction;"), (0, .class_ 126), (0, u "jdk/internal/util/Preconditions$2"), (3, u "AIOOBE_FORMATTER"), (0, .class_ 132), (0, u "jdk/internal/util/Preconditions$3"), (3, u "IOOBE_FORMATTER"), (41, u "(IILjava/util/function/BiFunction;)I")] 15

def k11m0 : Method := { name := "<init>", desc := "()V", sig := { parameters := [], returnType := none }, accessFlags := 1, code := none }
def k11c1 : Code := { maxStack := 3, maxLocals := 3, code := jdk_41_method_11_code, exceptionTable := #[], attributes := #[] }
def k11m1 : Method := { name := "checkIndex", desc := "(IILjava/util/function/BiFunction;)I", sig := { parameters := [.int, .int, (.object "java/util/function/BiFunction")], returnType := some .int }, accessFlags := 9, code := some k11c1 }
/-- jdk/internal/util/Preconditions -/
def k11 : Class := { plain "jdk/internal/util/Preconditions" (some 0) with
  accessFlags := 33
  interfaces := #[]
  cf := some (fileOf pool11 24 #[.nestMembers #[55, 131, 125, 114]] #[{ accessFlags := 1, nameIndex := 5, descriptorIndex := 6, attributes := #[] }, { accessFlags := 9, nameIndex := 33, descriptorIndex := 178, attributes := #[] }] 33 2 #[] #[{ accessFlags := 25, nameIndex := 123, descriptorIndex := 124, attributes := #[] }, { accessFlags := 25, nameIndex := 130, descriptorIndex := 124, attributes := #[] }, { accessFlags := 25, nameIndex := 136, descriptorIndex := 124, attributes := #[] }])
  fields := #[{ name := "SIOOBE_FORMATTER", type := (.object "java/util/function/BiFunction"), accessFlags := 25, slot := 0, constantValue := 0 }, { name := "AIOOBE_FORMATTER", type := (.object "java/util/function/BiFunction"), accessFlags := 25, slot := 1, constantValue := 0 }, { name := "IOOBE_FORMATTER", type := (.object "java/util/function/BiFunction"), accessFlags := 25, slot := 2, constantValue := 0 }]
  methods := #[k11m0, k11m1]
  instanceTypes := #[]
  staticTypes := #[(.object "java/util/function/BiFunction"), (.object "java/util/function/BiFunction"), (.object "java/util/function/BiFunction")]
  resolved := Array.replicate 194 none
  statics := some 1 }

def pool12 : Array CpInfo := pool [(1, .class_ 2), (0, u "java/lang/Math"), (1, .class_ 6), (1, u "java/lang/Object"), (0, u "<init>"), (0, u "()V"), (89, .class_ 100), (1, u "java/lang/Math$RandomNumberGeneratorHolder"), (71, u "negativeZeroFloatBits"), (0, u "J"), (2, u "negativeZeroDoubleBits"), (21, u "max"), (2, u "min"), (43, u "$assertionsDisabled"), (0, u "Z"), (88, u "(II)I"), (2, u "twoToTheDoubleScaleDown"), (0, u "D"), (4, u "twoToTheDoubleScaleUp"), (9, u "E"), (3, u "PI"), (2, u "TAU"), (2, u "DEGREES_TO_RADIANS"), (0, u "RADIANS_TO_DEGREES")] 94

def k12m0 : Method := { name := "<init>", desc := "()V", sig := { parameters := [], returnType := none }, accessFlags := 2, code := none }
def k12c1 : Code := { maxStack := 2, maxLocals := 2, code := jdk_29_method_65_code, exceptionTable := #[], attributes := #[] }
def k12m1 : Method := { name := "max", desc := "(II)I", sig := { parameters := [.int, .int], returnType := some .int }, accessFlags := 9, code := some k12c1 }
def k12c2 : Code := { maxStack := 2, maxLocals := 2, code := jdk_29_method_69_code, exceptionTable := #[], attributes := #[] }
def k12m2 : Method := { name := "min", desc := "(II)I", sig := { parameters := [.int, .int], returnType := some .int }, accessFlags := 9, code := some k12c2 }
/-- java/lang/Math -/
def k12 : Class := { plain "java/lang/Math" (some 0) with
  accessFlags := 49
  interfaces := #[]
  cf := some (fileOf pool12 1 #[.nestMembers #[98]] #[{ accessFlags := 2, nameIndex := 7, descriptorIndex := 8, attributes := #[] }, { accessFlags := 9, nameIndex := 198, descriptorIndex := 335, attributes := #[] }, { accessFlags := 9, nameIndex := 201, descriptorIndex := 335, attributes := #[] }] 49 4 #[] #[{ accessFlags := 25, nameIndex := 354, descriptorIndex := 339, attributes := #[] }, { accessFlags := 25, nameIndex := 358, descriptorIndex := 339, attributes := #[] }, { accessFlags := 25, nameIndex := 361, descriptorIndex := 339, attributes := #[] }, { accessFlags := 26, nameIndex := 364, descriptorIndex := 339, attributes := #[] }, { accessFlags := 26, nameIndex := 365, descriptorIndex := 339, attributes := #[] }, { accessFlags := 26, nameIndex := 172, descriptorIndex := 173, attributes := #[] }, { accessFlags := 26, nameIndex := 176, descriptorIndex := 173, attributes := #[] }, { accessFlags := 8, nameIndex := 344, descriptorIndex := 339, attributes := #[] }, { accessFlags := 8, nameIndex := 338, descriptorIndex := 339, attributes := #[] }, { accessFlags := 4120, nameIndex := 245, descriptorIndex := 246, attributes := #[] }])
  fields := #[{ name := "E", type := .double, accessFlags := 25, slot := 0, constantValue := 0 }, { name := "PI", type := .double, accessFlags := 25, slot := 1, constantValue := 0 }, { name := "TAU", type := .double, accessFlags := 25, slot := 2, constantValue := 0 }, { name := "DEGREES_TO_RADIANS", type := .double, accessFlags := 26, slot := 3, constantValue := 0 }, { name := "RADIANS_TO_DEGREES", type := .double, accessFlags := 26, slot := 4, constantValue := 0 }, { name := "negativeZeroFloatBits", type := .long, accessFlags := 26, slot := 5, constantValue := 0 }, { name := "negativeZeroDoubleBits", type := .long, accessFlags := 26, slot := 6, constantValue := 0 }, { name := "twoToTheDoubleScaleUp", type := .double, accessFlags := 8, slot := 7, constantValue := 0 }, { name := "twoToTheDoubleScaleDown", type := .double, accessFlags := 8, slot := 8, constantValue := 0 }, { name := "$assertionsDisabled", type := .boolean, accessFlags := 4120, slot := 9, constantValue := 0 }]
  methods := #[k12m0, k12m1, k12m2]
  instanceTypes := #[]
  staticTypes := #[.double, .double, .double, .double, .double, .long, .long, .double, .double, .boolean]
  resolved := Array.replicate 460 none
  statics := none }

def pool13 : Array CpInfo := pool [(2, .class_ 4), (1, u "java/lang/Object"), (0, u "<init>"), (0, u "()V"), (35, .class_ 44), (1, u "java/util/Objects"), (0, u "requireNonNull"), (48, u "(Ljava/lang/Object;Ljava/lang/String;)Ljava/lang/Object;")] 89

def k13m0 : Method := { name := "<init>", desc := "()V", sig := { parameters := [], returnType := none }, accessFlags := 2, code := none }
def k13c1 : Code := { maxStack := 3, maxLocals := 2, code := jdk_31_method_11_code, exceptionTable := #[], attributes := #[] }
def k13m1 : Method := { name := "requireNonNull", desc := "(Ljava/lang/Object;Ljava/lang/String;)Ljava/lang/Object;", sig := { parameters := [(.object "java/lang/Object"), (.object "java/lang/String")], returnType := some (.object "java/lang/Object") }, accessFlags := 9, code := some k13c1 }
/-- java/util/Objects -/
def k13 : Class := { plain "java/util/Objects" (some 0) with
  accessFlags := 49
  interfaces := #[]
  cf := some (fileOf pool13 42 #[] #[{ accessFlags := 2, nameIndex := 5, descriptorIndex := 6, attributes := #[] }, { accessFlags := 9, nameIndex := 45, descriptorIndex := 94, attributes := #[] }] 49 2 #[] #[])
  fields := #[]
  methods := #[k13m0, k13m1]
  instanceTypes := #[]
  staticTypes := #[]
  resolved := Array.replicate 184 none
  statics := none }

def pool14 : Array CpInfo := pool [(9, u "<init>"), (6, .class_ 18), (1, u "java/lang/Object"), (0, u "()V"), (1, .class_ 23), (1, u "jdk/internal/util/ArraysSupport"), (0, u "LOG2_ARRAY_LONG_INDEX_SCALE"), (0, u "I"), (2, u "U"), (0, u "Ljdk/internal/misc/Unsafe;"), (8, u "BIG_ENDIAN"), (0, u "Z"), (8, u "LOG2_BYTE_BIT_SIZE"), (4, u "LOG2_ARRAY_INT_INDEX_SCALE"), (54, u "JLA"), (0, u "Ljdk/internal/access/JavaLangAccess;"), (11, u "LOG2_ARRAY_BOOLEAN_INDEX_SCALE"), (9, u "LOG2_ARRAY_BYTE_INDEX_SCALE"), (5, u "LOG2_ARRAY_CHAR_INDEX_SCALE"), (5, u "LOG2_ARRAY_SHORT_INDEX_SCALE"), (18, u "LOG2_ARRAY_FLOAT_INDEX_SCALE"), (24, u "LOG2_ARRAY_DOUBLE_INDEX_SCALE"), (89, u "T_BOOLEAN"), (2, u "T_CHAR"), (1, u "T_FLOAT"), (1, u "T_DOUBLE"), (1, u "T_BYTE"), (1, u "T_SHORT"), (1, u "T_INT"), (1, u "T_LONG"), (1, u "SOFT_MAX_ARRAY_LENGTH")] 83

def k14m0 : Method := { name := "<init>", desc := "()V", sig := { parameters := [], returnType := none }, accessFlags := 2, code := none }
/-- jdk/internal/util/ArraysSupport -/
def k14 : Class := { plain "jdk/internal/util/ArraysSupport" (some 0) with
  accessFlags := 33
  interfaces := #[]
  cf := some (fileOf pool14 21 #[] #[{ accessFlags := 2, nameIndex := 9, descriptorIndex := 19, attributes := #[] }] 33 16 #[] #[{ accessFlags := 24, nameIndex := 28, descriptorIndex := 29, attributes := #[] }, { accessFlags := 26, nameIndex := 38, descriptorIndex := 39, attributes := #[] }, { accessFlags := 25, nameIndex := 121, descriptorIndex := 25, attributes := #[] }, { accessFlags := 25, nameIndex := 131, descriptorIndex := 25, attributes := #[] }, { accessFlags := 25, nameIndex := 137, descriptorIndex := 25, attributes := #[] }, { accessFlags := 25, nameIndex := 143, descriptorIndex := 25, attributes := #[] }, { accessFlags := 25, nameIndex := 53, descriptorIndex := 25, attributes := #[] }, { accessFlags := 25, nameIndex := 24, descriptorIndex := 25, attributes := #[] }, { accessFlags := 25, nameIndex := 162, descriptorIndex := 25, attributes := #[] }, { accessFlags := 25, nameIndex := 187, descriptorIndex := 25, attributes := #[] }, { accessFlags := 26, nameIndex := 48, descriptorIndex := 25, attributes := #[] }, { accessFlags := 25, nameIndex := 277, descriptorIndex := 25, attributes := #[] }, { accessFlags := 25, nameIndex := 280, descriptorIndex := 25, attributes := #[] }, { accessFlags := 25, nameIndex := 282, descriptorIndex := 25, attributes := #[] }, { accessFlags := 25, nameIndex := 284, descriptorIndex := 25, attributes := #[] }, { accessFlags := 25, nameIndex := 286, descriptorIndex := 25, attributes := #[] }, { accessFlags := 25, nameIndex := 288, descriptorIndex := 25, attributes := #[] }, { accessFlags := 25, nameIndex := 290, descriptorIndex := 25, attributes := #[] }, { accessFlags := 25, nameIndex := 292, descriptorIndex := 25, attributes := #[] }, { accessFlags := 26, nameIndex := 108, descriptorIndex := 109, attributes := #[] }, { accessFlags := 25, nameIndex := 294, descriptorIndex := 25, attributes := #[] }])
  fields := #[{ name := "U", type := (.object "jdk/internal/misc/Unsafe"), accessFlags := 24, slot := 0, constantValue := 0 }, { name := "BIG_ENDIAN", type := .boolean, accessFlags := 26, slot := 1, constantValue := 0 }, { name := "LOG2_ARRAY_BOOLEAN_INDEX_SCALE", type := .int, accessFlags := 25, slot := 2, constantValue := 0 }, { name := "LOG2_ARRAY_BYTE_INDEX_SCALE", type := .int, accessFlags := 25, slot := 3, constantValue := 0 }, { name := "LOG2_ARRAY_CHAR_INDEX_SCALE", type := .int, accessFlags := 25, slot := 4, constantValue := 0 }, { name := "LOG2_ARRAY_SHORT_INDEX_SCALE", type := .int, accessFlags := 25, slot := 5, constantValue := 0 }, { name := "LOG2_ARRAY_INT_INDEX_SCALE", type := .int, accessFlags := 25, slot := 6, constantValue := 0 }, { name := "LOG2_ARRAY_LONG_INDEX_SCALE", type := .int, accessFlags := 25, slot := 7, constantValue := 0 }, { name := "LOG2_ARRAY_FLOAT_INDEX_SCALE", type := .int, accessFlags := 25, slot := 8, constantValue := 0 }, { name := "LOG2_ARRAY_DOUBLE_INDEX_SCALE", type := .int, accessFlags := 25, slot := 9, constantValue := 0 }, { name := "LOG2_BYTE_BIT_SIZE", type := .int, accessFlags := 26, slot := 10, constantValue := 0 }, { name := "T_BOOLEAN", type := .int, accessFlags := 25, slot := 11, constantValue := 0 }, { name := "T_CHAR", type := .int, accessFlags := 25, slot := 12, constantValue := 0 }, { name := "T_FLOAT", type := .int, accessFlags := 25, slot := 13, constantValue := 0 }, { name := "T_DOUBLE", type := .int, accessFlags := 25, slot := 14, constantValue := 0 }, { name := "T_BYTE", type := .int, accessFlags := 25, slot := 15, constantValue := 0 }, { name := "T_SHORT", type := .int, accessFlags := 25, slot := 16, constantValue := 0 }, { name := "T_INT", type := .int, accessFlags := 25, slot := 17, constantValue := 0 }, { name := "T_LONG", type := .int, accessFlags := 25, slot := 18, constantValue := 0 }, { name := "JLA", type := (.object "jdk/internal/access/JavaLangAccess"), accessFlags := 26, slot := 19, constantValue := 0 }, { name := "SOFT_MAX_ARRAY_LENGTH", type := .int, accessFlags := 25, slot := 20, constantValue := 0 }]
  methods := #[k14m0]
  instanceTypes := #[]
  staticTypes := #[(.object "jdk/internal/misc/Unsafe"), .boolean, .int, .int, .int, .int, .int, .int, .int, .int, .int, .int, .int, .int, .int, .int, .int, .int, .int, (.object "jdk/internal/access/JavaLangAccess"), .int]
  resolved := Array.replicate 378 none
  statics := none }

def pool15 : Array CpInfo := pool [(1, u "java/lang/Cloneable"), (0, .class_ 1), (0, u "java/lang/Object"), (0, .class_ 3)] 3

/-- java/lang/Cloneable -/
def k15 : Class := { plain "java/lang/Cloneable" (some 0) with
  accessFlags := 1537
  interfaces := #[]
  cf := some (fileOf pool15 2 #[] #[] 1537 4 #[] #[])
  fields := #[]
  methods := #[]
  instanceTypes := #[]
  staticTypes := #[]
  resolved := Array.replicate 8 none
  statics := none }

/-- the primitive byte -/
def k16 : Class := { plain "byte" none with kind := .primitive 'B', accessFlags := 0x411 }
/-- [B -/
def k17 : Class := { plain "[B" (some 0) with kind := .array 16 .byte, interfaces := #[15, 2], accessFlags := 1041 }

/-- the primitive char -/
def k18 : Class := { plain "char" none with kind := .primitive 'C', accessFlags := 0x411 }
/-- [C -/
def k19 : Class := { plain "[C" (some 0) with kind := .array 18 .char, interfaces := #[15, 2], accessFlags := 1041 }

/-- the primitive int -/
def k20 : Class := { plain "int" none with kind := .primitive 'I', accessFlags := 0x411 }
/-- [I -/
def k21 : Class := { plain "[I" (some 0) with kind := .array 20 .int, interfaces := #[15, 2], accessFlags := 1041 }

def heap : Heap := #[{ cls := 7, slots := #[.long 0, .int 1, .null, .int 0, .null, .int 0, .int 0], vm := .statics 7 },
  { cls := 11, slots := #[.null, .null, .null], vm := .statics 11 }]
def classes : Array Class := #[k0, k1, k2, k3, k4, k5, k6, k7, k8, k9, k10, k11, k12, k13, k14, k15, k16, k17, k18, k19, k20, k21]
def interned : List (Array UInt16 × Addr) := []
def slotsUsed : Nat := 10
def theMethod : MethodId := ⟨1, 4⟩
def args0 : Array Value := #[.int 2, .int 65, .int 98, .int 17]
def aboutOver (below : List Frame) : State where
  vm := { classes := classes, interned := interned.toArray }
  heap := heap
  slotsUsed := slotsUsed
  threads := #[{ frames := .invoking theMethod args0 :: below }]
def below0 : List Frame := [.native { method := ⟨0, 0⟩, args := #[] }]
def about1 : State := aboutOver below0
def p0 : Program := .bare "" "" ""
def e0 : Env := launch0.env 0 0 0
theorem w_frames : about1.frames = Frame.invoking theMethod args0 :: below0 := rfl
set_option maxRecDepth 65536 in
theorem w_args : argsFit about1.vm theMethod args0 = true := by decide +kernel
set_option maxRecDepth 65536 in
theorem w_heap : heapFits about1 = true := by decide +kernel
set_option maxRecDepth 65536 in
theorem w_runnable : about1.curStatus? = some .runnable := by decide +kernel
set_option maxRecDepth 65536 in
theorem w_alone : about1.alone = true := by decide +kernel
set_option maxRecDepth 65536 in
theorem w_named : about1.methodNamed? x = some theMethod := by decide +kernel
set_option maxRecDepth 65536 in
theorem w_hears : about1.hears theMethod below0 = true := by decide +kernel
set_option maxRecDepth 65536 in
theorem w_ripe : about1.ripe theMethod args0 below0 = true := by decide +kernel
theorem w_running : about1.status = .running := rfl
set_option maxRecDepth 65536 in
theorem w_room : about1.hasRoom e0.platform room_1 = true :=
  launch0.hasRoom_least _ room_1 (by decide +kernel) (by decide +kernel) (by decide +kernel) (by decide +kernel) (by decide +kernel) (by decide +kernel)
theorem allAtoms_all (ts : List Jvm.Cond) (a : Array Jvm.Value) (st : Jvm.State) : (allAtoms ts).before a st = ts.all (fun c => c.before a st) := by
  induction ts with
  | nil => rfl
  | cons c t ih =>
    show (Jvm.Cond.and c (allAtoms t)).before a st = _
    rw [Jvm.Cond.before_and, ih, List.all_cons]
def words1 : List Jvm.Cond := Jvm.Cond.code x code maxLocals ret :: tables_1
/-- a 'code' word, met by the world's own term for the bytes: nothing is compared byte by byte -/
theorem code_word {y : MethodName} {bytes : ByteArray} {mx : Nat} {rt : Option FieldType} {a : Array Value} {s : State} {m : MethodId} {meth : Method} {c : Code} (h1 : s.methodNamed? y = some m) (h2 : s.vm.method? m = some meth) (h3 : meth.code = some c) (h4 : c.code = bytes)
    (h5 : (c.maxLocals == mx && c.exceptionTable.isEmpty && decide (c.maxStack ≤ mostOperands) && decide (meth.sig.returnType = rt) && !meth.locks && decide (parseMethodDescriptor y.desc = some meth.sig)) = true) : (Jvm.Cond.code y bytes mx rt).before a s = true := by
  simp only [Bool.and_eq_true, beq_iff_eq, Bool.not_eq_true', decide_eq_true_eq] at h5
  obtain ⟨⟨⟨⟨⟨g1, g2⟩, g3⟩, g4⟩, g5⟩, g6⟩ := h5
  simp [Cond.before, Cond.holds, Cond.value, h1, h2, h3, h4, g1, g2, g3, g4, g5, g6]
def isCode : Jvm.Cond → Bool
  | .code _ _ _ _ => true
  | _ => false
theorem all_split {L : List Jvm.Cond} {P : Jvm.Cond → Bool} (h1 : L.all (fun c => isCode c || P c) = true) (h2 : ∀ c ∈ L.filter isCode, P c = true) : L.all P = true := by
  refine List.all_eq_true.mpr fun c hc => ?_
  have h := List.all_eq_true.mp h1 c hc
  rcases Bool.eq_false_or_eq_true (isCode c) with hi | hi
  · exact h2 c (List.mem_filter.mpr ⟨hc, hi⟩)
  · simpa [hi] using h
set_option maxRecDepth 65536 in
theorem w_c0 : (Jvm.Cond.code x code maxLocals ret).before args0 about1 = true := code_word (m := ⟨1, 4⟩) (meth := k1m4) (c := k1c4) (by decide +kernel) rfl rfl rfl (by decide +kernel)
set_option maxRecDepth 65536 in
theorem w_c1 : (Jvm.Cond.code ({ cls := "com/example/brokkr/brokkr/HttpSyntaxHeaderNamePinLaw", name := "draw", desc := "(IZ)C" } : Jvm.MethodName) method_4_code (2 : Nat) (Option.some Jvm.ClassFile.FieldType.char)).before args0 about1 = true := code_word (m := ⟨1, 3⟩) (meth := k1m3) (c := k1c3) (by decide +kernel) rfl rfl rfl (by decide +kernel)
set_option maxRecDepth 65536 in
theorem w_c2 : (Jvm.Cond.code ({ cls := "com/example/brokkr/brokkr/HttpSyntaxHeaderNamePinLaw", name := "tokenChar", desc := "(I)C" } : Jvm.MethodName) method_3_code (1 : Nat) (Option.some Jvm.ClassFile.FieldType.char)).before args0 about1 = true := code_word (m := ⟨1, 2⟩) (meth := k1m2) (c := k1c2) (by decide +kernel) rfl rfl rfl (by decide +kernel)
set_option maxRecDepth 65536 in
theorem w_c3 : (Jvm.Cond.code ({ cls := "java/lang/String", name := "<init>", desc := "([C)V" } : Jvm.MethodName) jdk_42_method_3_code (2 : Nat) (Option.none : Option Jvm.ClassFile.FieldType)).before args0 about1 = true := code_word (m := ⟨7, 1⟩) (meth := k7m1) (c := k7c1) (by decide +kernel) rfl rfl rfl (by decide +kernel)
set_option maxRecDepth 65536 in
theorem w_c4 : (Jvm.Cond.code ({ cls := "java/lang/String", name := "<init>", desc := "([CIILjava/lang/Void;)V" } : Jvm.MethodName) jdk_42_method_149_code (6 : Nat) (Option.none : Option Jvm.ClassFile.FieldType)).before args0 about1 = true := code_word (m := ⟨7, 8⟩) (meth := k7m8) (c := k7c8) (by decide +kernel) rfl rfl rfl (by decide +kernel)
set_option maxRecDepth 65536 in
theorem w_c5 : (Jvm.Cond.code ({ cls := "java/lang/Object", name := "<init>", desc := "()V" } : Jvm.MethodName) object_method_1_code (1 : Nat) (Option.none : Option Jvm.ClassFile.FieldType)).before args0 about1 = true := code_word (m := ⟨0, 0⟩) (meth := k0m0) (c := k0c0) (by decide +kernel) rfl rfl rfl (by decide +kernel)
set_option maxRecDepth 65536 in
theorem w_c6 : (Jvm.Cond.code ({ cls := "com/example/brokkr/brokkr/HttpSyntax", name := "isToken", desc := "(Ljava/lang/String;)Z" } : Jvm.MethodName) prog_7_method_2_code (4 : Nat) (Option.some Jvm.ClassFile.FieldType.boolean)).before args0 about1 = true := code_word (m := ⟨8, 1⟩) (meth := k8m1) (c := k8c1) (by decide +kernel) rfl rfl rfl (by decide +kernel)
set_option maxRecDepth 65536 in
theorem w_c7 : (Jvm.Cond.code ({ cls := "java/lang/String", name := "isEmpty", desc := "()Z" } : Jvm.MethodName) jdk_42_method_55_code (1 : Nat) (Option.some Jvm.ClassFile.FieldType.boolean)).before args0 about1 = true := code_word (m := ⟨7, 3⟩) (meth := k7m3) (c := k7c3) (by decide +kernel) rfl rfl rfl (by decide +kernel)
set_option maxRecDepth 65536 in
theorem w_c8 : (Jvm.Cond.code ({ cls := "java/lang/StringUTF16", name := "compress", desc := "([CII)[B" } : Jvm.MethodName) jdk_52_method_16_code (6 : Nat) (Option.some (Jvm.ClassFile.FieldType.array Jvm.ClassFile.FieldType.byte))).before args0 about1 = true := code_word (m := ⟨9, 2⟩) (meth := k9m2) (c := k9c2) (by decide +kernel) rfl rfl rfl (by decide +kernel)
set_option maxRecDepth 65536 in
theorem w_c9 : (Jvm.Cond.code ({ cls := "java/lang/StringUTF16", name := "compress", desc := "([CI[BII)I" } : Jvm.MethodName) jdk_52_method_21_code (7 : Nat) (Option.some Jvm.ClassFile.FieldType.int)).before args0 about1 = true := code_word (m := ⟨9, 3⟩) (meth := k9m3) (c := k9c3) (by decide +kernel) rfl rfl rfl (by decide +kernel)
set_option maxRecDepth 65536 in
theorem w_c10 : (Jvm.Cond.code ({ cls := "java/lang/StringUTF16", name := "coderFromArrayLen", desc := "([BI)B" } : Jvm.MethodName) jdk_52_method_15_code (2 : Nat) (Option.some Jvm.ClassFile.FieldType.byte)).before args0 about1 = true := code_word (m := ⟨9, 1⟩) (meth := k9m1) (c := k9c1) (by decide +kernel) rfl rfl rfl (by decide +kernel)
set_option maxRecDepth 65536 in
theorem w_c11 : (Jvm.Cond.code ({ cls := "com/example/brokkr/brokkr/HttpSyntaxHeaderNamePinLaw", name := "refTok", desc := "(C)Z" } : Jvm.MethodName) method_2_code (1 : Nat) (Option.some Jvm.ClassFile.FieldType.boolean)).before args0 about1 = true := code_word (m := ⟨1, 1⟩) (meth := k1m1) (c := k1c1) (by decide +kernel) rfl rfl rfl (by decide +kernel)
set_option maxRecDepth 65536 in
theorem w_c12 : (Jvm.Cond.code ({ cls := "java/lang/String", name := "length", desc := "()I" } : Jvm.MethodName) jdk_42_method_54_code (1 : Nat) (Option.some Jvm.ClassFile.FieldType.int)).before args0 about1 = true := code_word (m := ⟨7, 2⟩) (meth := k7m2) (c := k7c2) (by decide +kernel) rfl rfl rfl (by decide +kernel)
set_option maxRecDepth 65536 in
theorem w_c13 : (Jvm.Cond.code ({ cls := "java/lang/String", name := "coder", desc := "()B" } : Jvm.MethodName) jdk_42_method_152_code (1 : Nat) (Option.some Jvm.ClassFile.FieldType.byte)).before args0 about1 = true := code_word (m := ⟨7, 9⟩) (meth := k7m9) (c := k7c9) (by decide +kernel) rfl rfl rfl (by decide +kernel)
set_option maxRecDepth 65536 in
theorem w_c14 : (Jvm.Cond.code ({ cls := "java/lang/String", name := "charAt", desc := "(I)C" } : Jvm.MethodName) jdk_42_method_56_code (2 : Nat) (Option.some Jvm.ClassFile.FieldType.char)).before args0 about1 = true := code_word (m := ⟨7, 4⟩) (meth := k7m4) (c := k7c4) (by decide +kernel) rfl rfl rfl (by decide +kernel)
set_option maxRecDepth 65536 in
theorem w_c15 : (Jvm.Cond.code ({ cls := "java/lang/String", name := "isLatin1", desc := "()Z" } : Jvm.MethodName) jdk_42_method_154_code (1 : Nat) (Option.some Jvm.ClassFile.FieldType.boolean)).before args0 about1 = true := code_word (m := ⟨7, 10⟩) (meth := k7m10) (c := k7c10) (by decide +kernel) rfl rfl rfl (by decide +kernel)
set_option maxRecDepth 65536 in
theorem w_c16 : (Jvm.Cond.code ({ cls := "java/lang/StringLatin1", name := "charAt", desc := "([BI)C" } : Jvm.MethodName) jdk_43_method_2_code (2 : Nat) (Option.some Jvm.ClassFile.FieldType.char)).before args0 about1 = true := code_word (m := ⟨10, 1⟩) (meth := k10m1) (c := k10c1) (by decide +kernel) rfl rfl rfl (by decide +kernel)
set_option maxRecDepth 65536 in
theorem w_c17 : (Jvm.Cond.code ({ cls := "java/lang/String", name := "checkIndex", desc := "(II)V" } : Jvm.MethodName) jdk_42_method_155_code (2 : Nat) (Option.none : Option Jvm.ClassFile.FieldType)).before args0 about1 = true := code_word (m := ⟨7, 11⟩) (meth := k7m11) (c := k7c11) (by decide +kernel) rfl rfl rfl (by decide +kernel)
set_option maxRecDepth 65536 in
theorem w_c18 : (Jvm.Cond.code ({ cls := "jdk/internal/util/Preconditions", name := "checkIndex", desc := "(IILjava/util/function/BiFunction;)I" } : Jvm.MethodName) jdk_41_method_11_code (3 : Nat) (Option.some Jvm.ClassFile.FieldType.int)).before args0 about1 = true := code_word (m := ⟨11, 1⟩) (meth := k11m1) (c := k11c1) (by decide +kernel) rfl rfl rfl (by decide +kernel)
set_option maxRecDepth 65536 in
theorem w_c19 : (Jvm.Cond.code ({ cls := "java/lang/String", name := "indexOf", desc := "(I)I" } : Jvm.MethodName) jdk_42_method_79_code (2 : Nat) (Option.some Jvm.ClassFile.FieldType.int)).before args0 about1 = true := code_word (m := ⟨7, 6⟩) (meth := k7m6) (c := k7c6) (by decide +kernel) rfl rfl rfl (by decide +kernel)
set_option maxRecDepth 65536 in
theorem w_c20 : (Jvm.Cond.code ({ cls := "java/lang/String", name := "indexOf", desc := "(II)I" } : Jvm.MethodName) jdk_42_method_80_code (3 : Nat) (Option.some Jvm.ClassFile.FieldType.int)).before args0 about1 = true := code_word (m := ⟨7, 7⟩) (meth := k7m7) (c := k7c7) (by decide +kernel) rfl rfl rfl (by decide +kernel)
set_option maxRecDepth 65536 in
theorem w_c21 : (Jvm.Cond.code ({ cls := "java/lang/StringLatin1", name := "indexOf", desc := "([BIII)I" } : Jvm.MethodName) jdk_43_method_22_code (4 : Nat) (Option.some Jvm.ClassFile.FieldType.int)).before args0 about1 = true := code_word (m := ⟨10, 3⟩) (meth := k10m3) (c := k10c3) (by decide +kernel) rfl rfl rfl (by decide +kernel)
set_option maxRecDepth 65536 in
theorem w_c22 : (Jvm.Cond.code ({ cls := "java/lang/StringLatin1", name := "canEncode", desc := "(I)Z" } : Jvm.MethodName) jdk_43_method_4_code (1 : Nat) (Option.some Jvm.ClassFile.FieldType.boolean)).before args0 about1 = true := code_word (m := ⟨10, 2⟩) (meth := k10m2) (c := k10c2) (by decide +kernel) rfl rfl rfl (by decide +kernel)
set_option maxRecDepth 65536 in
theorem w_c23 : (Jvm.Cond.code ({ cls := "java/lang/Math", name := "max", desc := "(II)I" } : Jvm.MethodName) jdk_29_method_65_code (2 : Nat) (Option.some Jvm.ClassFile.FieldType.int)).before args0 about1 = true := code_word (m := ⟨12, 1⟩) (meth := k12m1) (c := k12c1) (by decide +kernel) rfl rfl rfl (by decide +kernel)
set_option maxRecDepth 65536 in
theorem w_c24 : (Jvm.Cond.code ({ cls := "java/lang/Math", name := "min", desc := "(II)I" } : Jvm.MethodName) jdk_29_method_69_code (2 : Nat) (Option.some Jvm.ClassFile.FieldType.int)).before args0 about1 = true := code_word (m := ⟨12, 2⟩) (meth := k12m2) (c := k12c2) (by decide +kernel) rfl rfl rfl (by decide +kernel)
set_option maxRecDepth 65536 in
theorem w_c25 : (Jvm.Cond.code ({ cls := "java/lang/StringLatin1", name := "indexOfChar", desc := "([BIII)I" } : Jvm.MethodName) jdk_43_method_23_code (6 : Nat) (Option.some Jvm.ClassFile.FieldType.int)).before args0 about1 = true := code_word (m := ⟨10, 4⟩) (meth := k10m4) (c := k10c4) (by decide +kernel) rfl rfl rfl (by decide +kernel)
set_option maxRecDepth 65536 in
theorem w_c26 : (Jvm.Cond.code ({ cls := "com/example/brokkr/brokkr/HttpSyntax", name := "headerName", desc := "(Ljava/lang/String;)Ljava/lang/String;" } : Jvm.MethodName) prog_7_method_3_code (1 : Nat) (Option.some (Jvm.ClassFile.FieldType.object "java/lang/String"))).before args0 about1 = true := code_word (m := ⟨8, 2⟩) (meth := k8m2) (c := k8c2) (by decide +kernel) rfl rfl rfl (by decide +kernel)
set_option maxRecDepth 65536 in
theorem w_c27 : (Jvm.Cond.code ({ cls := "java/util/Objects", name := "requireNonNull", desc := "(Ljava/lang/Object;Ljava/lang/String;)Ljava/lang/Object;" } : Jvm.MethodName) jdk_31_method_11_code (2 : Nat) (Option.some (Jvm.ClassFile.FieldType.object "java/lang/Object"))).before args0 about1 = true := code_word (m := ⟨13, 1⟩) (meth := k13m1) (c := k13c1) (by decide +kernel) rfl rfl rfl (by decide +kernel)
set_option maxRecDepth 65536 in
theorem w_c28 : (Jvm.Cond.code ({ cls := "java/lang/String", name := "equals", desc := "(Ljava/lang/Object;)Z" } : Jvm.MethodName) jdk_42_method_66_code (3 : Nat) (Option.some Jvm.ClassFile.FieldType.boolean)).before args0 about1 = true := code_word (m := ⟨7, 5⟩) (meth := k7m5) (c := k7c5) (by decide +kernel) rfl rfl rfl (by decide +kernel)
def codes1 : List Jvm.Cond := [Jvm.Cond.code x code maxLocals ret, Jvm.Cond.code ({ cls := "com/example/brokkr/brokkr/HttpSyntaxHeaderNamePinLaw", name := "draw", desc := "(IZ)C" } : Jvm.MethodName) method_4_code (2 : Nat) (Option.some Jvm.ClassFile.FieldType.char), Jvm.Cond.code ({ cls := "com/example/brokkr/brokkr/HttpSyntaxHeaderNamePinLaw", name := "tokenChar", desc := "(I)C" } : Jvm.MethodName) method_3_code (1 : Nat) (Option.some Jvm.ClassFile.FieldType.char), Jvm.Cond.code ({ cls := "java/lang/String", name := "<init>", desc := "([C)V" } : Jvm.MethodName) jdk_42_method_3_code (2 : Nat) (Option.none : Option Jvm.ClassFile.FieldType), Jvm.Cond.code ({ cls := "java/lang/String", name := "<init>", desc := "([CIILjava/lang/Void;)V" } : Jvm.MethodName) jdk_42_method_149_code (6 : Nat) (Option.none : Option Jvm.ClassFile.FieldType), Jvm.Cond.code ({ cls := "java/lang/Object", name := "<init>", desc := "()V" } : Jvm.MethodName) object_method_1_code (1 : Nat) (Option.none : Option Jvm.ClassFile.FieldType), Jvm.Cond.code ({ cls := "com/example/brokkr/brokkr/HttpSyntax", name := "isToken", desc := "(Ljava/lang/String;)Z" } : Jvm.MethodName) prog_7_method_2_code (4 : Nat) (Option.some Jvm.ClassFile.FieldType.boolean), Jvm.Cond.code ({ cls := "java/lang/String", name := "isEmpty", desc := "()Z" } : Jvm.MethodName) jdk_42_method_55_code (1 : Nat) (Option.some Jvm.ClassFile.FieldType.boolean), Jvm.Cond.code ({ cls := "java/lang/StringUTF16", name := "compress", desc := "([CII)[B" } : Jvm.MethodName) jdk_52_method_16_code (6 : Nat) (Option.some (Jvm.ClassFile.FieldType.array Jvm.ClassFile.FieldType.byte)), Jvm.Cond.code ({ cls := "java/lang/StringUTF16", name := "compress", desc := "([CI[BII)I" } : Jvm.MethodName) jdk_52_method_21_code (7 : Nat) (Option.some Jvm.ClassFile.FieldType.int), Jvm.Cond.code ({ cls := "java/lang/StringUTF16", name := "coderFromArrayLen", desc := "([BI)B" } : Jvm.MethodName) jdk_52_method_15_code (2 : Nat) (Option.some Jvm.ClassFile.FieldType.byte), Jvm.Cond.code ({ cls := "com/example/brokkr/brokkr/HttpSyntaxHeaderNamePinLaw", name := "refTok", desc := "(C)Z" } : Jvm.MethodName) method_2_code (1 : Nat) (Option.some Jvm.ClassFile.FieldType.boolean), Jvm.Cond.code ({ cls := "java/lang/String", name := "length", desc := "()I" } : Jvm.MethodName) jdk_42_method_54_code (1 : Nat) (Option.some Jvm.ClassFile.FieldType.int), Jvm.Cond.code ({ cls := "java/lang/String", name := "coder", desc := "()B" } : Jvm.MethodName) jdk_42_method_152_code (1 : Nat) (Option.some Jvm.ClassFile.FieldType.byte), Jvm.Cond.code ({ cls := "java/lang/String", name := "charAt", desc := "(I)C" } : Jvm.MethodName) jdk_42_method_56_code (2 : Nat) (Option.some Jvm.ClassFile.FieldType.char), Jvm.Cond.code ({ cls := "java/lang/String", name := "isLatin1", desc := "()Z" } : Jvm.MethodName) jdk_42_method_154_code (1 : Nat) (Option.some Jvm.ClassFile.FieldType.boolean), Jvm.Cond.code ({ cls := "java/lang/StringLatin1", name := "charAt", desc := "([BI)C" } : Jvm.MethodName) jdk_43_method_2_code (2 : Nat) (Option.some Jvm.ClassFile.FieldType.char), Jvm.Cond.code ({ cls := "java/lang/String", name := "checkIndex", desc := "(II)V" } : Jvm.MethodName) jdk_42_method_155_code (2 : Nat) (Option.none : Option Jvm.ClassFile.FieldType), Jvm.Cond.code ({ cls := "jdk/internal/util/Preconditions", name := "checkIndex", desc := "(IILjava/util/function/BiFunction;)I" } : Jvm.MethodName) jdk_41_method_11_code (3 : Nat) (Option.some Jvm.ClassFile.FieldType.int), Jvm.Cond.code ({ cls := "java/lang/String", name := "indexOf", desc := "(I)I" } : Jvm.MethodName) jdk_42_method_79_code (2 : Nat) (Option.some Jvm.ClassFile.FieldType.int), Jvm.Cond.code ({ cls := "java/lang/String", name := "indexOf", desc := "(II)I" } : Jvm.MethodName) jdk_42_method_80_code (3 : Nat) (Option.some Jvm.ClassFile.FieldType.int), Jvm.Cond.code ({ cls := "java/lang/StringLatin1", name := "indexOf", desc := "([BIII)I" } : Jvm.MethodName) jdk_43_method_22_code (4 : Nat) (Option.some Jvm.ClassFile.FieldType.int), Jvm.Cond.code ({ cls := "java/lang/StringLatin1", name := "canEncode", desc := "(I)Z" } : Jvm.MethodName) jdk_43_method_4_code (1 : Nat) (Option.some Jvm.ClassFile.FieldType.boolean), Jvm.Cond.code ({ cls := "java/lang/Math", name := "max", desc := "(II)I" } : Jvm.MethodName) jdk_29_method_65_code (2 : Nat) (Option.some Jvm.ClassFile.FieldType.int), Jvm.Cond.code ({ cls := "java/lang/Math", name := "min", desc := "(II)I" } : Jvm.MethodName) jdk_29_method_69_code (2 : Nat) (Option.some Jvm.ClassFile.FieldType.int), Jvm.Cond.code ({ cls := "java/lang/StringLatin1", name := "indexOfChar", desc := "([BIII)I" } : Jvm.MethodName) jdk_43_method_23_code (6 : Nat) (Option.some Jvm.ClassFile.FieldType.int), Jvm.Cond.code ({ cls := "com/example/brokkr/brokkr/HttpSyntax", name := "headerName", desc := "(Ljava/lang/String;)Ljava/lang/String;" } : Jvm.MethodName) prog_7_method_3_code (1 : Nat) (Option.some (Jvm.ClassFile.FieldType.object "java/lang/String")), Jvm.Cond.code ({ cls := "java/util/Objects", name := "requireNonNull", desc := "(Ljava/lang/Object;Ljava/lang/String;)Ljava/lang/Object;" } : Jvm.MethodName) jdk_31_method_11_code (2 : Nat) (Option.some (Jvm.ClassFile.FieldType.object "java/lang/Object")), Jvm.Cond.code ({ cls := "java/lang/String", name := "equals", desc := "(Ljava/lang/Object;)Z" } : Jvm.MethodName) jdk_42_method_66_code (3 : Nat) (Option.some Jvm.ClassFile.FieldType.boolean)]
set_option maxRecDepth 65536 in
theorem codes_eq : words1.filter isCode = codes1 := rfl
theorem w_codes : ∀ c ∈ words1.filter isCode, c.before args0 about1 = true := by
  rw [codes_eq]
  intro c hc
  simp only [codes1, List.mem_cons, List.not_mem_nil, or_false] at hc
  rcases hc with rfl | rfl | rfl | rfl | rfl | rfl | rfl | rfl | rfl | rfl | rfl | rfl | rfl | rfl | rfl | rfl | rfl | rfl | rfl | rfl | rfl | rfl | rfl | rfl | rfl | rfl | rfl | rfl | rfl
  · exact w_c0
  · exact w_c1
  · exact w_c2
  · exact w_c3
  · exact w_c4
  · exact w_c5
  · exact w_c6
  · exact w_c7
  · exact w_c8
  · exact w_c9
  · exact w_c10
  · exact w_c11
  · exact w_c12
  · exact w_c13
  · exact w_c14
  · exact w_c15
  · exact w_c16
  · exact w_c17
  · exact w_c18
  · exact w_c19
  · exact w_c20
  · exact w_c21
  · exact w_c22
  · exact w_c23
  · exact w_c24
  · exact w_c25
  · exact w_c26
  · exact w_c27
  · exact w_c28
set_option maxRecDepth 65536 in
theorem w_t1 : (words1.take 24).all (fun c => isCode c || c.before args0 about1) = true := by decide +kernel
set_option maxRecDepth 65536 in
theorem w_t2 : ((words1.drop 24).take 24).all (fun c => isCode c || c.before args0 about1) = true := by decide +kernel
set_option maxRecDepth 65536 in
theorem w_t3 : (((words1.drop 24).drop 24).take 24).all (fun c => isCode c || c.before args0 about1) = true := by decide +kernel
set_option maxRecDepth 65536 in
theorem w_t4 : ((((words1.drop 24).drop 24).drop 24).take 24).all (fun c => isCode c || c.before args0 about1) = true := by decide +kernel
set_option maxRecDepth 65536 in
theorem w_t5 : (((((words1.drop 24).drop 24).drop 24).drop 24).take 24).all (fun c => isCode c || c.before args0 about1) = true := by decide +kernel
set_option maxRecDepth 65536 in
theorem w_t6 : (((((words1.drop 24).drop 24).drop 24).drop 24).drop 24).all (fun c => isCode c || c.before args0 about1) = true := by decide +kernel
theorem w_tables : (allAtoms (Jvm.Cond.code x code maxLocals ret :: tables_1)).before args0 about1 = true := by
  rw [allAtoms_all]
  show words1.all (fun c => c.before args0 about1) = true
  refine all_split ?_ w_codes
  rw [← List.take_append_drop 24 words1, List.all_append, w_t1, ← List.take_append_drop 24 (words1.drop 24), List.all_append, w_t2, ← List.take_append_drop 24 ((words1.drop 24).drop 24), List.all_append, w_t3, ← List.take_append_drop 24 (((words1.drop 24).drop 24).drop 24), List.all_append, w_t4, ← List.take_append_drop 24 ((((words1.drop 24).drop 24).drop 24).drop 24), List.all_append, w_t5, w_t6]
  rfl
set_option maxRecDepth 65536 in
theorem w_rest : rest_1_c.before args0 about1 = true := by decide +kernel
set_option maxRecDepth 65536 in
theorem w_case : (Jvm.Cond.and given_1 narrow_1).before args0 about1 = true := by decide +kernel
set_option maxRecDepth 65536 in
theorem w_consts : constsHeld consts_1 about1 := Jvm.Lit.constsHeldB_iff.mp (by decide +kernel)
theorem w_applies : (headSpec (Jvm.Cond.code x code maxLocals ret :: tables_1) room_1).applies x e0.platform about1 = true :=
  (Spec.applies_iff w_frames).mpr ⟨w_running, w_runnable, w_alone, w_named, w_hears, w_ripe, w_room, w_tables⟩
theorem atStart : AtStart classFile x code maxLocals ret World_1 tables_1 room_1 Calls_1 rest_1 Pre_1 launch0 p0 e0 about1 theMethod args0 below0 :=
  ⟨lists_1, trivial, launch0.admits_env _ _ _, launch0.least_env, fairChoices_fair.cas, fairChoices_fair.clock, w_frames, w_args, w_heap, w_applies, ⟨w_consts, trivial⟩, w_rest, w_case⟩
end start1
theorem witness_1 : WitnessClaimed_1 := ⟨start1.p0, start1.e0, start1.about1, start1.theMethod, start1.args0, start1.below0, start1.atStart⟩
end Jvm.Pilot.@@N@@
