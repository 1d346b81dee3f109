import JvmDerived
import JvmDerived.Pilot.@@N@@Statement
import JvmDerived.Pilot.@@N@@Code
set_option linter.unusedVariables false
set_option linter.unusedSimpArgs false
/- laws to paste: Road.backV (cut by pick.py; bodies as the Statement names them) -/
namespace Jvm.Pilot.@@N@@
namespace StrChars
open Jvm Sem ClassFile Op Lib Jvm.Stand Jvm.Free.XT Jvm.Free.ALB Jvm.Free.JM Jvm.Free
open Jvm.Lib.Cold (StaticIs)
/-- a char array whose places are chars -/
def Ch (a : Addr) (A : Cell) (U : State) : Prop := Arr .char a A U ∧ Typed .char A
theorem Ch.mv {a : Addr} {A : Cell} {U U' : State} (h : Ch a A U) (hal : U.vm.Alike U'.vm) (hh : U'.heap = U.heap) : Ch a A U' := ⟨h.1.mv hal hh, h.2⟩
theorem Ch.keep {a : Addr} {A : Cell} {U U' : State} (h : Ch a A U) (hal : U.vm.Alike U'.vm) (hk : U'.heap[a]? = some A) : Ch a A U' := ⟨h.1.keep hal hk, h.2⟩
/-- what place i of a char[]'s cell holds -/
def cv (A : Cell) (i : Nat) : Int32 := match A.slots[i]? with | some (.int x) => x | _ => 0
theorem Ch.get {a : Addr} {A : Cell} {U : State} (h : Ch a A U) {i : Nat} (hi : i < A.slots.size) : A.slots[i]? = some (.int (cv A i)) := by
  have e := Array.getElem?_eq_getElem hi
  have f := h.2 i _ e
  unfold cv; rw [e]
  generalize A.slots[i] = v at f
  cases v <;> simp [fits] at f ⊢
/-- the byte that i2b leaves of a char -/
def lo8 (x : Int32) : Int32 := x.toInt8.toInt32
theorem fits_lo8 (y : Int32) : fits .byte (.int (lo8 y)) = true := by
  have h1 := y.toInt8.le_toInt
  have h2 := y.toInt8.toInt_lt
  simp only [lo8, fits, Bool.and_eq_true, decide_eq_true_eq, Int32.le_iff_toInt_le, Int8.toInt_toInt32, show (-128 : Int32).toInt = -128 from by decide, show (127 : Int32).toInt = 127 from by decide]
  omega
/-- A' is A but that each place j of lo .. hi - 1 holds f j -/
def Laid (A A' : Cell) (lo hi : Nat) (f : Nat → Value) : Prop := A'.cls = A.cls ∧ A'.vm = A.vm ∧ A'.slots.size = A.slots.size ∧ ∀ i, A'.slots[i]? = if lo ≤ i ∧ i < hi then some (f i) else A.slots[i]?
theorem Laid.zero (A : Cell) (lo : Nat) (f : Nat → Value) : Laid A A lo (lo + 0) f := ⟨rfl, rfl, rfl, fun i => by rw [if_neg (by omega)]⟩
theorem Laid.step {A Ak : Cell} {lo k : Nat} {f : Nat → Value} {v : Value} (h : Laid A Ak lo k f) (hlo : lo ≤ k) (hk : k < Ak.slots.size) (hv : v = f k) : Laid A (Ak.setSlot k v) lo (k + 1) f := by
  refine ⟨h.1, h.2.1, by simpa [Cell.setSlot] using h.2.2.1, fun i => ?_⟩
  by_cases e : k = i
  · subst e; rw [Cell.slots_setSlot_self v hk, if_pos (by omega), hv]
  · rw [Cell.slots_setSlot_ne v e, h.2.2.2 i]
    by_cases q : lo ≤ i ∧ i < k
    · rw [if_pos q, if_pos (by omega)]
    · rw [if_neg q, if_neg (by omega)]
def U16 : String := "java/lang/StringUTF16"
namespace Cmp5
def yN : MethodName := ⟨"java/lang/StringUTF16", "compress", "([CI[BII)I"⟩
abbrev yB : ByteArray := jdk_52_method_21_code
theorem d0 : decode yB 0 = .ok (.iconst 0, 1) := by decide +kernel
theorem d1 : decode yB 1 = .ok (.istore 5, 2) := by decide +kernel
theorem d3 : decode yB 3 = .ok (.iload 5, 2) := by decide +kernel
theorem d5 : decode yB 5 = .ok (.iload 4, 2) := by decide +kernel
theorem d7 : decode yB 7 = .ok (.if_icmp (.ge) 37, 3) := by decide +kernel
theorem d10 : decode yB 10 = .ok (.aload_n 0, 1) := by decide +kernel
theorem d11 : decode yB 11 = .ok (.iload_n 1, 1) := by decide +kernel
theorem d12 : decode yB 12 = .ok (.caload, 1) := by decide +kernel
theorem d13 : decode yB 13 = .ok (.istore 6, 2) := by decide +kernel
theorem d15 : decode yB 15 = .ok (.iload 6, 2) := by decide +kernel
theorem d17 : decode yB 17 = .ok (.sipush 255, 3) := by decide +kernel
theorem d20 : decode yB 20 = .ok (.if_icmp (.le) 6, 3) := by decide +kernel
theorem d26 : decode yB 26 = .ok (.aload_n 2, 1) := by decide +kernel
theorem d27 : decode yB 27 = .ok (.iload_n 3, 1) := by decide +kernel
theorem d28 : decode yB 28 = .ok (.iload 6, 2) := by decide +kernel
theorem d30 : decode yB 30 = .ok (.i2b, 1) := by decide +kernel
theorem d31 : decode yB 31 = .ok (.bastore, 1) := by decide +kernel
theorem d32 : decode yB 32 = .ok (.iinc 1 1, 3) := by decide +kernel
theorem d35 : decode yB 35 = .ok (.iinc 3 1, 3) := by decide +kernel
theorem d38 : decode yB 38 = .ok (.iinc 5 1, 3) := by decide +kernel
theorem d41 : decode yB 41 = .ok (.goto (-38), 3) := by decide +kernel
theorem d44 : decode yB 44 = .ok (.iload 4, 2) := by decide +kernel
theorem d46 : decode yB 46 = .ok (.ireturn, 1) := by decide +kernel
def site : List Cond := []
def tab : Cond := tabOf yN yB 7 (some .int) site
def P (b : Addr) (A : Cell) (d : Addr) (B : Cell) (o q len : Nat) (args : Array Value) (s : State) : Prop := args = #[.ref b, .int (Int32.ofNat o), .ref d, .int (Int32.ofNat q), .int (Int32.ofNat len)] ∧ Ch b A s ∧ Arr .byte d B s ∧ b ≠ d ∧ o + len ≤ A.slots.size ∧ q + len ≤ B.slots.size ∧ ∀ i, i < len → ¬ 255 < cv A (o + i)
def E (b : Addr) (A : Cell) (d : Addr) (B : Cell) (o q len : Nat) (r : Option Value) (s u : State) : Prop := r = some (.int (Int32.ofNat len)) ∧ ∃ B', Put d B' s u ∧ Laid B B' q (q + len) (fun j => Value.int (lo8 (cv A (o + (j - q)))))
/-- no char of the range above 255: len; the places written hold each char's low byte -/
theorem law (l : Launch) (b : Addr) (A : Cell) (d : Addr) (B : Cell) (o q len : Nat) : Law l yN 5 5 0 0 yB 7 (some .int) site (P b A d B o q len) (E b A d B o q len) (copyLocs d q len) 0 0 := by
  refine Law.of_walk (plainFor_of_name (by decide +kernel)) (by decide +kernel) (by decide +kernel) (by decide) (fun _ _ h => by rw [h.1]; rfl) (fun _ U U' hal hh h => ⟨h.1, h.2.1.mv hal hh, h.2.2.1.mv hal hh, h.2.2.2⟩) (fun r U U' V V' h1 hal h2 h => ⟨h.1, h.2.elim fun B' q => ⟨B', q.1.mv h1 h2, q.2⟩⟩) ?_
  intro p e s m args below meth c s₁ X0 hexec hbytes hml hret hlk hnm hown hh0 W hP
  obtain ⟨rfl, hA, hB, hne, l1, l2, hp⟩ := hP
  have c1 : Steps p.tables e below (s₁.setTop (entryFrame m #[.ref b, .int (Int32.ofNat o), .ref d, .int (Int32.ofNat q), .int (Int32.ofNat len)] 7)) (s₁.setTop (mkF m 0 #[.val (.ref b), .val (.int (Int32.ofNat o)), .val (.ref d), .val (.int (Int32.ofNat q)), .val (.int (Int32.ofNat len)), .unset, .unset] [])) := entry rfl
  have hA0 := hA.1.mv X0.warmed.alike hh0
  have hB0 := hB.mv X0.warmed.alike hh0
  have a31 := hA.1.2.2.2
  have c2 : Steps p.tables e below (s₁.setTop (entryFrame m #[.ref b, .int (Int32.ofNat o), .ref d, .int (Int32.ofNat q), .int (Int32.ofNat len)] 7)) (s₁.setTop (mkF m 3 #[.val (.ref b), .val (.int (Int32.ofNat o)), .val (.ref d), .val (.int (Int32.ofNat q)), .val (.int (Int32.ofNat len)), .val (.int 0), .unset] [])) := c1.trans (by
    refine iconstV X0.here hexec rfl 0 (hb hbytes d0) (by decide) ?_
    refine XS.istore X0.here hexec rfl (hb hbytes d1) rfl rfl ?_
    exact Steps.refl _)
  have loop : ∀ (r i : Nat), i + r = len → ∀ (z : Slot), (z = .unset ∨ ∃ w, z = .val w ∧ w.category = 1) → ∀ (Tl : State) (Bk : Cell), Stand p l e { frames := 0, locals := 0, cells := 0, slots := 0 } s m #[.ref b, .int (Int32.ofNat o), .ref d, .int (Int32.ofNat q), .int (Int32.ofNat len)] below meth c Tl ([] ++ copyLocs d q i) 0 0 → Put d Bk s₁ Tl → Laid B Bk q (q + i) (fun j => Value.int (lo8 (cv A (o + (j - q))))) →
      Steps p.tables e below (s₁.setTop (entryFrame m #[.ref b, .int (Int32.ofNat o), .ref d, .int (Int32.ofNat q), .int (Int32.ofNat len)] 7)) (Tl.setTop (mkF m 3 #[.val (.ref b), .val (.int (Int32.ofNat (o + i))), .val (.ref d), .val (.int (Int32.ofNat (q + i))), .val (.int (Int32.ofNat len)), .val (.int (Int32.ofNat i)), z] [])) → ∃ (T' : State) (B' : Cell) (z' : Slot), Stand p l e { frames := 0, locals := 0, cells := 0, slots := 0 } s m #[.ref b, .int (Int32.ofNat o), .ref d, .int (Int32.ofNat q), .int (Int32.ofNat len)] below meth c T' ([] ++ copyLocs d q len) 0 0 ∧ Put d B' s₁ T' ∧ Laid B B' q (q + len) (fun j => Value.int (lo8 (cv A (o + (j - q))))) ∧
      Steps p.tables e below (s₁.setTop (entryFrame m #[.ref b, .int (Int32.ofNat o), .ref d, .int (Int32.ofNat q), .int (Int32.ofNat len)] 7)) (T'.setTop (mkF m 3 #[.val (.ref b), .val (.int (Int32.ofNat (o + len))), .val (.ref d), .val (.int (Int32.ofNat (q + len))), .val (.int (Int32.ofNat len)), .val (.int (Int32.ofNat len)), z'] [])) := by
    intro r
    induction r with
    | zero =>
      intro i hi z hz Tl Bk Xl pl fl cl
      have hil : i = len := by omega
      rw [hil] at Xl fl cl
      exact ⟨Tl, Bk, z, Xl, pl, fl, cl⟩
    | succ r ih =>
      intro i hi z hz Tl Bk Xl pl fl cl
      have all := X0.warmed.alike.symm.trans Xl.warmed.alike
      have hAl := hA0.keep all (pl.other hne hA0.1)
      have hBk := hB0.like all pl.1 fl.1 fl.2.1 fl.2.2.1
      have hlt : q + i < Bk.slots.size := by rw [fl.2.2.1]; omega
      have c3 : Steps p.tables e below (s₁.setTop (entryFrame m #[.ref b, .int (Int32.ofNat o), .ref d, .int (Int32.ofNat q), .int (Int32.ofNat len)] 7)) (Tl.setTop (mkF m 12 #[.val (.ref b), .val (.int (Int32.ofNat (o + i))), .val (.ref d), .val (.int (Int32.ofNat (q + i))), .val (.int (Int32.ofNat len)), .val (.int (Int32.ofNat i)), z] [.int (Int32.ofNat (o + i)), .ref b])) := cl.trans (by
        refine XS.iload Xl.here hexec rfl (hb hbytes d3) rfl ?_
        refine XS.iload Xl.here hexec rfl (hb hbytes d5) rfl ?_
        refine XS.icmpNo Xl.here hexec rfl (hb hbytes d7) rfl (ii_ge_f (lt32 (by omega) (by omega))) ?_
        refine XS.aloadN Xl.here hexec rfl (hb hbytes d10) rfl rfl ?_
        refine XS.iloadN Xl.here hexec rfl (hb hbytes d11) rfl ?_
        exact Steps.refl _)
      have c4 : Steps p.tables e below (s₁.setTop (entryFrame m #[.ref b, .int (Int32.ofNat o), .ref d, .int (Int32.ofNat q), .int (Int32.ofNat len)] 7)) (Tl.setTop (mkF m 13 #[.val (.ref b), .val (.int (Int32.ofNat (o + i))), .val (.ref d), .val (.int (Int32.ofNat (q + i))), .val (.int (Int32.ofNat len)), .val (.int (Int32.ofNat i)), z] [.int (cv A (o + i))])) := c3.trans (by
        refine Xl.aget hexec hAl rfl (hA.get (i := o + i) (by omega)) rfl rfl (hb hbytes d12) ?_
        exact Steps.refl _)
      have c5 : Steps p.tables e below (s₁.setTop (entryFrame m #[.ref b, .int (Int32.ofNat o), .ref d, .int (Int32.ofNat q), .int (Int32.ofNat len)] 7)) (Tl.setTop (mkF m 15 #[.val (.ref b), .val (.int (Int32.ofNat (o + i))), .val (.ref d), .val (.int (Int32.ofNat (q + i))), .val (.int (Int32.ofNat len)), .val (.int (Int32.ofNat i)), .val (.int (cv A (o + i)))] [])) := c4.trans (by
        refine XS.istoreS Xl.here hexec rfl (hb hbytes d13) rfl rfl hz ?_
        exact Steps.refl _)
      have c6 : Steps p.tables e below (s₁.setTop (entryFrame m #[.ref b, .int (Int32.ofNat o), .ref d, .int (Int32.ofNat q), .int (Int32.ofNat len)] 7)) (Tl.setTop (mkF m 31 #[.val (.ref b), .val (.int (Int32.ofNat (o + i))), .val (.ref d), .val (.int (Int32.ofNat (q + i))), .val (.int (Int32.ofNat len)), .val (.int (Int32.ofNat i)), .val (.int (cv A (o + i)))] [.int (lo8 (cv A (o + i))), .int (Int32.ofNat (q + i)), .ref d])) := c5.trans (by
        refine XS.iload Xl.here hexec rfl (hb hbytes d15) rfl ?_
        refine sipushV Xl.here hexec rfl 255 (hb hbytes d17) (by decide) ?_
        refine XS.icmpYes Xl.here hexec rfl (pc0 := 20) rfl (hb hbytes d20) rfl (ii_le_t (hp i (by omega))) (by decide) rfl ?_
        refine XS.aloadN Xl.here hexec rfl (hb hbytes d26) rfl rfl ?_
        refine XS.iloadN Xl.here hexec rfl (hb hbytes d27) rfl ?_
        refine XS.iload Xl.here hexec rfl (hb hbytes d28) rfl ?_
        refine i2b Xl.here hexec rfl (hb hbytes d30) rfl ?_
        exact Steps.refl _)
      obtain ⟨T7, X7, p7, st7⟩ := Xl.aput hexec hBk rfl hlt rfl (fits_lo8 (cv A (o + i))) (g := (mkF m 31 #[.val (.ref b), .val (.int (Int32.ofNat (o + i))), .val (.ref d), .val (.int (Int32.ofNat (q + i))), .val (.int (Int32.ofNat len)), .val (.int (Int32.ofNat i)), .val (.int (cv A (o + i)))] [.int (lo8 (cv A (o + i))), .int (Int32.ofNat (q + i)), .ref d])) rfl (rest := []) rfl (hb hbytes d31)
      have c8 : Steps p.tables e below (s₁.setTop (entryFrame m #[.ref b, .int (Int32.ofNat o), .ref d, .int (Int32.ofNat q), .int (Int32.ofNat len)] 7)) (T7.setTop (mkF m 32 #[.val (.ref b), .val (.int (Int32.ofNat (o + i))), .val (.ref d), .val (.int (Int32.ofNat (q + i))), .val (.int (Int32.ofNat len)), .val (.int (Int32.ofNat i)), .val (.int (cv A (o + i)))] [])) := c6.trans (st7 _ (Steps.refl _))
      have c9 : Steps p.tables e below (s₁.setTop (entryFrame m #[.ref b, .int (Int32.ofNat o), .ref d, .int (Int32.ofNat q), .int (Int32.ofNat len)] 7)) (T7.setTop (mkF m 3 #[.val (.ref b), .val (.int (Int32.ofNat (o + i) + 1)), .val (.ref d), .val (.int (Int32.ofNat (q + i) + 1)), .val (.int (Int32.ofNat len)), .val (.int (Int32.ofNat i + 1)), .val (.int (cv A (o + i)))] [])) := c8.trans (by
        refine iincV X7.here hexec rfl 1 (hb hbytes d32) (by decide) rfl rfl ?_
        refine iincV X7.here hexec rfl 1 (hb hbytes d35) (by decide) rfl rfl ?_
        refine iincV X7.here hexec rfl 1 (hb hbytes d38) (by decide) rfl rfl ?_
        refine XS.goto X7.here hexec rfl (pc0 := 41) rfl (hb hbytes d41) (by decide) rfl ?_
        exact Steps.refl _)
      have c10 : Steps p.tables e below (s₁.setTop (entryFrame m #[.ref b, .int (Int32.ofNat o), .ref d, .int (Int32.ofNat q), .int (Int32.ofNat len)] 7)) (T7.setTop (mkF m 3 #[.val (.ref b), .val (.int (Int32.ofNat (o + (i + 1)))), .val (.ref d), .val (.int (Int32.ofNat (q + (i + 1)))), .val (.int (Int32.ofNat len)), .val (.int (Int32.ofNat (i + 1))), .val (.int (cv A (o + i)))] [])) := by
        have := c9
        rw [succ32, succ32, succ32] at this
        exact this
      exact ih (i + 1) (by omega) _ (Or.inr ⟨_, rfl, rfl⟩) T7 _ (by rw [copyLocs_step, ← List.append_assoc]; exact X7) (pl.trans p7) (fl.step (by omega) hlt (by simp)) c10
  obtain ⟨T9, B9, z9, X9, p9, f9, g9⟩ := loop len 0 (by omega) .unset (Or.inl rfl) s₁ B (by simpa [copyLocs] using X0) ⟨hB0.1, fun _ _ => rfl, rfl⟩ (Laid.zero _ _ _) c2
  have c11 : Steps p.tables e below (s₁.setTop (entryFrame m #[.ref b, .int (Int32.ofNat o), .ref d, .int (Int32.ofNat q), .int (Int32.ofNat len)] 7)) (T9.setTop (mkF m 46 #[.val (.ref b), .val (.int (Int32.ofNat (o + len))), .val (.ref d), .val (.int (Int32.ofNat (q + len))), .val (.int (Int32.ofNat len)), .val (.int (Int32.ofNat len)), z9] [.int (Int32.ofNat len)])) := g9.trans (by
    refine XS.iload X9.here hexec rfl (hb hbytes d3) rfl ?_
    refine XS.iload X9.here hexec rfl (hb hbytes d5) rfl ?_
    refine XS.icmpYes X9.here hexec rfl (pc0 := 7) rfl (hb hbytes d7) rfl (ii_ge_t (nlt32 (by omega) (Nat.le_refl _))) (by decide) rfl ?_
    refine XS.iload X9.here hexec rfl (hb hbytes d44) rfl ?_
    exact Steps.refl _)
  exact ⟨T9, some (.int (Int32.ofNat len)), _, _, _, X9, by simp, rfl, rfl, (fun h => by cases h), ⟨rfl, B9, p9.from hh0, f9⟩, fun fs hl => c11.trans (X9.ireturnOut hexec hret rfl (Or.inl rfl) (hb hbytes d46) hl)⟩
end Cmp5
namespace Cmp3
def yN : MethodName := ⟨"java/lang/StringUTF16", "compress", "([CII)[B"⟩
abbrev yB : ByteArray := jdk_52_method_16_code
theorem d0 : decode yB 0 = .ok (.iload_n 2, 1) := by decide +kernel
theorem d1 : decode yB 1 = .ok (.newarray .byte, 2) := by decide +kernel
theorem d3 : decode yB 3 = .ok (.astore_n 3, 1) := by decide +kernel
theorem d4 : decode yB 4 = .ok (.aload_n 0, 1) := by decide +kernel
theorem d5 : decode yB 5 = .ok (.iload_n 1, 1) := by decide +kernel
theorem d6 : decode yB 6 = .ok (.aload_n 3, 1) := by decide +kernel
theorem d7 : decode yB 7 = .ok (.iconst 0, 1) := by decide +kernel
theorem d8 : decode yB 8 = .ok (.iload_n 2, 1) := by decide +kernel
theorem d9 : decode yB 9 = .ok (.invokestatic 115, 3) := by decide +kernel
theorem d12 : decode yB 12 = .ok (.istore 4, 2) := by decide +kernel
theorem d14 : decode yB 14 = .ok (.iload 4, 2) := by decide +kernel
theorem d16 : decode yB 16 = .ok (.iload_n 2, 1) := by decide +kernel
theorem d17 : decode yB 17 = .ok (.if_icmp (.eq) 40, 3) := by decide +kernel
theorem d57 : decode yB 57 = .ok (.aload_n 3, 1) := by decide +kernel
theorem d58 : decode yB 58 = .ok (.areturn, 1) := by decide +kernel
def site : List Cond := [.arrayClass .byte, Cmp5.tab] ++ staticW U16 115 Cmp5.yN
def tab : Cond := tabOf yN yB 6 (some (.array .byte)) site
def P (b : Addr) (A : Cell) (o len : Nat) (args : Array Value) (s : State) : Prop := args = #[.ref b, .int (Int32.ofNat o), .int (Int32.ofNat len)] ∧ Ch b A s ∧ o + len ≤ A.slots.size ∧ len ≤ 536870912 ∧ ∀ i, i < len → ¬ 255 < cv A (o + i)
def E (b : Addr) (A : Cell) (o len : Nat) (r : Option Value) (s u : State) : Prop := NewArr .byte "[B" len (fun j => .int (lo8 (cv A (o + j)))) r s u ∧ u.heap.size = s.heap.size + 1
/-- no char of the range above 255: a new byte[] of their low bytes -/
theorem law (l : Launch) (b : Addr) (A : Cell) (o len : Nat) : Law l yN 3 3 1 18 yB 6 (some (.array .byte)) site (P b A o len) (E b A o len) [] 1 len := by
  refine Law.of_walk (plainFor_of_name (by decide +kernel)) (by decide +kernel) (by decide +kernel) (by decide) (fun _ _ h => by rw [h.1]; rfl) (fun _ U U' hal hh h => ⟨h.1, h.2.1.mv hal hh, h.2.2⟩) (fun r U U' V V' h1 hal h2 h => ⟨NewArr.mv r U U' V V' h1 hal h2 h.1, by rw [h1, h2]; exact h.2⟩) ?_
  intro p e s m args below meth c s₁ X0 hexec hbytes hml hret hlk hnm hown hh0 W hP
  obtain ⟨rfl, hA, l1, l2, hp⟩ := hP
  have a31 := hA.1.2.2.2
  have c1 : Steps p.tables e below (s₁.setTop (entryFrame m #[.ref b, .int (Int32.ofNat o), .int (Int32.ofNat len)] 6)) (s₁.setTop (mkF m 0 #[.val (.ref b), .val (.int (Int32.ofNat o)), .val (.int (Int32.ofNat len)), .unset, .unset, .unset] [])) := entry rfl
  have c2 : Steps p.tables e below (s₁.setTop (entryFrame m #[.ref b, .int (Int32.ofNat o), .int (Int32.ofNat len)] 6)) (s₁.setTop (mkF m 1 #[.val (.ref b), .val (.int (Int32.ofNat o)), .val (.int (Int32.ofNat len)), .unset, .unset, .unset] [.int (Int32.ofNat len)])) := c1.trans (by
    refine XS.iloadN X0.here hexec rfl (hb hbytes d0) rfl ?_
    exact Steps.refl _)
  obtain ⟨T3, B3, X3, ba3, bs3, bv3, bh3, bf3, st3⟩ := X0.anew hexec (atype := .byte) (wk W (.arrayClass .byte)) rfl (by show len * 1 ≤ _; omega) (by omega) (g := (mkF m 1 #[.val (.ref b), .val (.int (Int32.ofNat o)), .val (.int (Int32.ofNat len)), .unset, .unset, .unset] [.int (Int32.ofNat len)])) rfl (hb hbytes d1) (rest := []) rfl (Nat.le_refl _) (by show 0 + len ≤ len; omega)
  rw [hh0] at ba3 st3
  have kp3 : XT.Kept s T3 := (XT.Kept.of_eq hh0).push bh3
  have hA3 := hA.keep X3.warmed.alike (kp3 _ _ hA.1.1)
  have hne : b ≠ s.heap.size := hA.1.ne
  have c4 : Steps p.tables e below (s₁.setTop (entryFrame m #[.ref b, .int (Int32.ofNat o), .int (Int32.ofNat len)] 6)) (T3.setTop (mkF m 3 #[.val (.ref b), .val (.int (Int32.ofNat o)), .val (.int (Int32.ofNat len)), .unset, .unset, .unset] [.ref s.heap.size])) := c2.trans (st3 _ (Steps.refl _))
  have c5 : Steps p.tables e below (s₁.setTop (entryFrame m #[.ref b, .int (Int32.ofNat o), .int (Int32.ofNat len)] 6)) (T3.setTop (mkF m 9 #[.val (.ref b), .val (.int (Int32.ofNat o)), .val (.int (Int32.ofNat len)), .val (.ref s.heap.size), .unset, .unset] [.int (Int32.ofNat len), .int 0, .ref s.heap.size, .int (Int32.ofNat o), .ref b])) := c4.trans (by
    refine XS.astoreN X3.here hexec rfl (hb hbytes d3) rfl rfl rfl ?_
    refine XS.aloadN X3.here hexec rfl (hb hbytes d4) rfl rfl ?_
    refine XS.iloadN X3.here hexec rfl (hb hbytes d5) rfl ?_
    refine XS.aloadN X3.here hexec rfl (hb hbytes d6) rfl rfl ?_
    refine iconstV X3.here hexec rfl 0 (hb hbytes d7) (by decide) ?_
    refine XS.iloadN X3.here hexec rfl (hb hbytes d8) rfl ?_
    exact Steps.refl _)
  obtain ⟨v6, T6, X6, E6, g6⟩ := X3.callS hexec (Cmp5.law l b A s.heap.size B3 o 0 len) hown (wks W (staticW U16 115 Cmp5.yN)) (wk W Cmp5.tab) (W := 0) (Nat.le_of_ble_eq_true rfl) (Nat.le_of_ble_eq_true rfl) (Nat.le_refl _) (by show 0 + len + 0 ≤ len; omega) (g := (mkF m 9 #[.val (.ref b), .val (.int (Int32.ofNat o)), .val (.int (Int32.ofNat len)), .val (.ref s.heap.size), .unset, .unset] [.int (Int32.ofNat len), .int (Int32.ofNat 0), .ref s.heap.size, .int (Int32.ofNat o), .ref b])) rfl (by rw [hml]; rfl) c5 (argsL := [.ref b, .int (Int32.ofNat o), .ref s.heap.size, .int (Int32.ofNat 0), .int (Int32.ofNat len)]) (rest := []) rfl rfl (by show 2 * 0 + 0 ≤ _; decide) (hb hbytes d9) (⟨rfl, hA3, ba3, hne, l1, by rw [bs3]; simp, hp⟩)
  obtain ⟨rfl, B6, p6, f6⟩ := E6
  have c7 : Steps p.tables e below (s₁.setTop (entryFrame m #[.ref b, .int (Int32.ofNat o), .int (Int32.ofNat len)] 6)) (T6.setTop (mkF m 12 #[.val (.ref b), .val (.int (Int32.ofNat o)), .val (.int (Int32.ofNat len)), .val (.ref s.heap.size), .unset, .unset] [.int (Int32.ofNat len)])) := g6
  have c8 : Steps p.tables e below (s₁.setTop (entryFrame m #[.ref b, .int (Int32.ofNat o), .int (Int32.ofNat len)] 6)) (T6.setTop (mkF m 58 #[.val (.ref b), .val (.int (Int32.ofNat o)), .val (.int (Int32.ofNat len)), .val (.ref s.heap.size), .val (.int (Int32.ofNat len)), .unset] [.ref s.heap.size])) := c7.trans (by
    refine XS.istore X6.here hexec rfl (hb hbytes d12) rfl rfl ?_
    refine XS.iload X6.here hexec rfl (hb hbytes d14) rfl ?_
    refine XS.iloadN X6.here hexec rfl (hb hbytes d16) rfl ?_
    refine XS.icmpYes X6.here hexec rfl (pc0 := 17) rfl (hb hbytes d17) rfl (ii_eq_t rfl) (by decide) rfl ?_
    refine XS.aloadN X6.here hexec rfl (hb hbytes d57) rfl rfl ?_
    exact Steps.refl _)
  have X8 := X6.wide (L' := []) (cells' := 1) (slots' := len) (fun x hx hlt => by
    simp only [List.nil_append, copyLocs, List.mem_map, List.mem_range] at hx
    obtain ⟨i, -, rfl⟩ := hx
    exact absurd hlt (Nat.lt_irrefl _)) (Nat.le_refl _) (by omega)
  exact ⟨T6, some (.ref s.heap.size), _, _, _, X8, rfl, rfl, rfl, (fun h => by cases h), ⟨⟨rfl, B6, ba3.like (X3.warmed.alike.symm.trans X6.warmed.alike) p6.1 f6.1 f6.2.1 f6.2.2.1, f6.2.1.trans bv3, by rw [X6.warmed.alike.findClass, f6.1]; exact bf3, by rw [f6.2.2.1, bs3]; simp, fun j hj => by rw [f6.2.2.2 j, if_pos (by omega)]; rfl, kp3.put p6 (Nat.le_refl _)⟩, by rw [p6.2.2, bh3, hh0]; simp⟩, fun fs hl => c8.trans (X8.areturnOut hexec rfl hret rfl (hb hbytes d58) hl)⟩
end Cmp3
namespace CodL
def yN : MethodName := ⟨"java/lang/StringUTF16", "coderFromArrayLen", "([BI)B"⟩
abbrev yB : ByteArray := jdk_52_method_15_code
theorem d0 : decode yB 0 = .ok (.iload_n 1, 1) := by decide +kernel
theorem d1 : decode yB 1 = .ok (.aload_n 0, 1) := by decide +kernel
theorem d2 : decode yB 2 = .ok (.arraylength, 1) := by decide +kernel
theorem d3 : decode yB 3 = .ok (.isub, 1) := by decide +kernel
theorem d4 : decode yB 4 = .ok (.bipush 31, 2) := by decide +kernel
theorem d6 : decode yB 6 = .ok (.iushr, 1) := by decide +kernel
theorem d7 : decode yB 7 = .ok (.i2b, 1) := by decide +kernel
theorem d8 : decode yB 8 = .ok (.ireturn, 1) := by decide +kernel
def site : List Cond := []
def tab : Cond := tabOf yN yB 2 (some .byte) site
def P (d : Addr) (B : Cell) (args : Array Value) (s : State) : Prop := args = #[.ref d, .int (Int32.ofNat B.slots.size)] ∧ Arr .byte d B s
def E (r : Option Value) (s u : State) : Prop := XT.PureE (some (.int 0)) r s u
/-- an array as long as the number of chars: LATIN1 -/
theorem law (l : Launch) (d : Addr) (B : Cell) : Law l yN 2 2 0 0 yB 2 (some .byte) site (P d B) E [] 0 0 := by
  refine Law.of_walk (plainFor_of_name (by decide +kernel)) (by decide +kernel) (by decide +kernel) (by decide) (fun _ _ h => by rw [h.1]; rfl) (fun _ U U' hal hh h => ⟨h.1, h.2.mv hal hh⟩) (fun r U U' V V' h1 hal h2 h => XT.PureE.mv r U U' V V' h1 hal h2 h) ?_
  intro p e s m args below meth c s₁ X0 hexec hbytes hml hret hlk hnm hown hh0 W hP
  obtain ⟨rfl, hB⟩ := hP
  have hB0 := hB.mv X0.warmed.alike hh0
  have c1 : Steps p.tables e below (s₁.setTop (entryFrame m #[.ref d, .int (Int32.ofNat B.slots.size)] 2)) (s₁.setTop (mkF m 0 #[.val (.ref d), .val (.int (Int32.ofNat B.slots.size))] [])) := entry rfl
  have c2 : Steps p.tables e below (s₁.setTop (entryFrame m #[.ref d, .int (Int32.ofNat B.slots.size)] 2)) (s₁.setTop (mkF m 2 #[.val (.ref d), .val (.int (Int32.ofNat B.slots.size))] [.ref d, .int (Int32.ofNat B.slots.size)])) := c1.trans (by
    refine XS.iloadN X0.here hexec rfl (hb hbytes d0) rfl ?_
    refine XS.aloadN X0.here hexec rfl (hb hbytes d1) rfl rfl ?_
    exact Steps.refl _)
  have c3 : Steps p.tables e below (s₁.setTop (entryFrame m #[.ref d, .int (Int32.ofNat B.slots.size)] 2)) (s₁.setTop (mkF m 8 #[.val (.ref d), .val (.int (Int32.ofNat B.slots.size))] [.int (lo8 (ushr (Int32.ofNat B.slots.size - Int32.ofNat B.slots.size) 31))])) := c2.trans (by
    refine X0.alen hexec hB0 rfl rfl (hb hbytes d2) ?_
    refine XS.isub X0.here hexec rfl (hb hbytes d3) rfl ?_
    refine bipushV X0.here hexec rfl 31 (hb hbytes d4) (by decide) ?_
    refine iushr X0.here hexec rfl (hb hbytes d6) rfl ?_
    refine i2b X0.here hexec rfl (hb hbytes d7) rfl ?_
    exact Steps.refl _)
  have e0 : lo8 (ushr (Int32.ofNat B.slots.size - Int32.ofNat B.slots.size) 31) = 0 := by rw [Int32.sub_self]; decide
  rw [e0] at c3
  exact ⟨s₁, some (.int 0), _, _, _, X0, rfl, rfl, rfl, (fun h => by cases h), ⟨rfl, hh0⟩, fun fs hl => c3.trans (X0.ireturnOut hexec hret rfl (Or.inr (Or.inr (Or.inl rfl))) (hb hbytes d8) hl)⟩
end CodL
/-- the String at a is Latin-1 over a new byte[] (the heap's one new cell): the low bytes of the len chars of A from o on; every cell but a is kept -/
def Got (a : Addr) (D : Cell) (fV fC : Field) (A : Cell) (o len : Nat) (r : Option Value) (s u : State) : Prop := r = none ∧ ∃ D' V : Cell, Blank "java/lang/String" a D' u ∧ Same D D' [fV.slot, fC.slot] ∧ D'.slots[fV.slot]? = some (.ref s.heap.size) ∧ D'.slots[fC.slot]? = some (.int 0) ∧ Arr .byte s.heap.size V u ∧ V.vm = .none ∧ u.vm.findClass "[B" = some V.cls ∧ V.slots.size = len ∧ (∀ j, j < len → V.slots[j]? = some (.int (lo8 (cv A (o + j))))) ∧ (∀ (y : Addr) (c : Cell), y ≠ a → s.heap[y]? = some c → u.heap[y]? = some c) ∧ u.heap.size = s.heap.size + 1
theorem Got.mv {a : Addr} {D A : Cell} {fV fC : Field} {o len : Nat} : ∀ r (U U' V V' : State), U'.heap = U.heap → V.vm.Alike V'.vm → V'.heap = V.heap → Got a D fV fC A o len r U V → Got a D fV fC A o len r U' V' :=
  fun r U U' V V' h1 hal h2 ⟨e0, D', X, a1, a2, a3, a4, a5, a6, a7, a8, a9, a10, a11⟩ => ⟨e0, D', X, a1.mv hal h2, a2, by rw [h1]; exact a3, a4, by rw [h1]; exact a5.mv hal h2, a6, by rw [hal.findClass]; exact a7, a8, a9, by rw [h1, h2]; exact a10, by rw [h1, h2]; exact a11⟩
namespace New4
def yN : MethodName := ⟨"java/lang/String", "<init>", "([CIILjava/lang/Void;)V"⟩
abbrev yB : ByteArray := jdk_42_method_149_code
theorem d0 : decode yB 0 = .ok (.aload_n 0, 1) := by decide +kernel
theorem d1 : decode yB 1 = .ok (.invokespecial 1, 3) := by decide +kernel
theorem d4 : decode yB 4 = .ok (.iload_n 3, 1) := by decide +kernel
theorem d5 : decode yB 5 = .ok (.ifCond (.ne) 22, 3) := by decide +kernel
theorem d27 : decode yB 27 = .ok (.getstatic 38, 3) := by decide +kernel
theorem d30 : decode yB 30 = .ok (.ifCond (.eq) 28, 3) := by decide +kernel
theorem d33 : decode yB 33 = .ok (.aload_n 1, 1) := by decide +kernel
theorem d34 : decode yB 34 = .ok (.iload_n 2, 1) := by decide +kernel
theorem d35 : decode yB 35 = .ok (.iload_n 3, 1) := by decide +kernel
theorem d36 : decode yB 36 = .ok (.invokestatic 177, 3) := by decide +kernel
theorem d39 : decode yB 39 = .ok (.astore 5, 2) := by decide +kernel
theorem d41 : decode yB 41 = .ok (.aload_n 0, 1) := by decide +kernel
theorem d42 : decode yB 42 = .ok (.aload 5, 2) := by decide +kernel
theorem d44 : decode yB 44 = .ok (.iload_n 3, 1) := by decide +kernel
theorem d45 : decode yB 45 = .ok (.invokestatic 47, 3) := by decide +kernel
theorem d48 : decode yB 48 = .ok (.putfield 15, 3) := by decide +kernel
theorem d51 : decode yB 51 = .ok (.aload_n 0, 1) := by decide +kernel
theorem d52 : decode yB 52 = .ok (.aload 5, 2) := by decide +kernel
theorem d54 : decode yB 54 = .ok (.putfield 9, 3) := by decide +kernel
theorem d57 : decode yB 57 = .ok (.return_, 1) := by decide +kernel
def site : List Cond := [.fieldLink "java/lang/String" 38 "java/lang/String" "COMPACT_STRINGS" "Z", Cmp3.tab, CodL.tab, .laysFinal "java/lang/String" "java/lang/String" "value" "[B", .fieldLink "java/lang/String" 9 "java/lang/String" "value" "[B", .laysFinal "java/lang/String" "java/lang/String" "coder" "B", .fieldLink "java/lang/String" 15 "java/lang/String" "coder" "B"] ++ objW "java/lang/String" 1 ++ staticW "java/lang/String" 177 Cmp3.yN ++ staticW "java/lang/String" 47 CodL.yN
def tab : Cond := tabOf yN yB 6 none site
def P (a : Addr) (D : Cell) (fV fC : Field) (b : Addr) (A : Cell) (z : Int32) (o len : Nat) (args : Array Value) (s : State) : Prop := args = #[.ref a, .ref b, .int (Int32.ofNat o), .int (Int32.ofNat len), .null] ∧ Blank "java/lang/String" a D s ∧ Found "java/lang/String" "value" "[B" fV s ∧ Found "java/lang/String" "coder" "B" fC s ∧ Ch b A s ∧ StaticIs s "java/lang/String" "COMPACT_STRINGS" "Z" (.int z) ∧ ¬ z = 0 ∧ 0 < len ∧ o + len ≤ A.slots.size ∧ len ≤ 536870912 ∧ ∀ i, i < len → ¬ 255 < cv A (o + i)
def E (a : Addr) (D : Cell) (fV fC : Field) (A : Cell) (o len : Nat) (r : Option Value) (s u : State) : Prop := Got a D fV fC A o len r s u
/-- len > 0, no char of the range above 255: a Latin-1 String of their low bytes -/
theorem law (l : Launch) (a : Addr) (D : Cell) (fV fC : Field) (b : Addr) (A : Cell) (z : Int32) (o len : Nat) : Law l yN 5 4 2 35 yB 6 none site (P a D fV fC b A z o len) (E a D fV fC A o len) [⟨a, fC.slot⟩, ⟨a, fV.slot⟩] 1 len := by
  refine Law.of_walk (plainFor_of_name (by decide +kernel)) (by decide +kernel) (by decide +kernel) (by decide) (fun _ _ h => by rw [h.1]; rfl) (fun _ U U' hal hh h => ⟨h.1, h.2.1.mv hal hh, h.2.2.1.al hal, h.2.2.2.1.al hal, h.2.2.2.2.1.mv hal hh, h.2.2.2.2.2.1.there hal hh, h.2.2.2.2.2.2⟩) (fun r U U' V V' h1 hal h2 h => Got.mv r U U' V V' h1 hal h2 h) ?_
  intro p e s m args below meth c s₁ X0 hexec hbytes hml hret hlk hnm hown hh0 W hP
  obtain ⟨rfl, hB, f1, f2, hA, s1, hz, l0, l1, l2, hp⟩ := hP
  have a31 := hA.1.2.2.2
  have c1 : Steps p.tables e below (s₁.setTop (entryFrame m #[.ref a, .ref b, .int (Int32.ofNat o), .int (Int32.ofNat len), .null] 6)) (s₁.setTop (mkF m 0 #[.val (.ref a), .val (.ref b), .val (.int (Int32.ofNat o)), .val (.int (Int32.ofNat len)), .val .null, .unset] [])) := entry rfl
  have c2 : Steps p.tables e below (s₁.setTop (entryFrame m #[.ref a, .ref b, .int (Int32.ofNat o), .int (Int32.ofNat len), .null] 6)) (s₁.setTop (mkF m 1 #[.val (.ref a), .val (.ref b), .val (.int (Int32.ofNat o)), .val (.int (Int32.ofNat len)), .val .null, .unset] [.ref a])) := c1.trans (by
    refine XS.aloadN X0.here hexec rfl (hb hbytes d0) rfl rfl ?_
    exact Steps.refl _)
  obtain ⟨T3, X3, q3, st3⟩ := X0.oinit hexec hown (wks W (objW "java/lang/String" 1)) (g := (mkF m 1 #[.val (.ref a), .val (.ref b), .val (.int (Int32.ofNat o)), .val (.int (Int32.ofNat len)), .val .null, .unset] [.ref a])) rfl (by rw [hml]; rfl) (rest := []) rfl (hb hbytes d1) (W := 0) (by show 2 * 0 + 0 ≤ _; decide) (Nat.le_of_ble_eq_true rfl) (Nat.le_of_ble_eq_true rfl)
  have hh3 := q3.trans hh0
  have c4 : Steps p.tables e below (s₁.setTop (entryFrame m #[.ref a, .ref b, .int (Int32.ofNat o), .int (Int32.ofNat len), .null] 6)) (T3.setTop (mkF m 27 #[.val (.ref a), .val (.ref b), .val (.int (Int32.ofNat o)), .val (.int (Int32.ofNat len)), .val .null, .unset] [])) := (c2.trans (st3 _ (Steps.refl _))).trans (by
    refine XS.iloadN X3.here hexec rfl (hb hbytes d4) rfl ?_
    refine XS.ifYes X3.here hexec rfl (pc0 := 5) rfl (hb hbytes d5) rfl (i0_ne_t (nz32 (by omega) l0)) (by decide) rfl ?_
    exact Steps.refl _)
  obtain ⟨T5, X5, q5, st5⟩ := X3.sget hexec hown (wk W (.fieldLink "java/lang/String" 38 "java/lang/String" "COMPACT_STRINGS" "Z")) s1 (fun _ _ h => by rw [hh3]; exact h) (g := (mkF m 27 #[.val (.ref a), .val (.ref b), .val (.int (Int32.ofNat o)), .val (.int (Int32.ofNat len)), .val .null, .unset] [])) rfl (hb hbytes d27)
  have hh5 := q5.trans hh3
  have c6 : Steps p.tables e below (s₁.setTop (entryFrame m #[.ref a, .ref b, .int (Int32.ofNat o), .int (Int32.ofNat len), .null] 6)) (T5.setTop (mkF m 30 #[.val (.ref a), .val (.ref b), .val (.int (Int32.ofNat o)), .val (.int (Int32.ofNat len)), .val .null, .unset] [.int z])) := c4.trans (st5 _ (Steps.refl _))
  have c7 : Steps p.tables e below (s₁.setTop (entryFrame m #[.ref a, .ref b, .int (Int32.ofNat o), .int (Int32.ofNat len), .null] 6)) (T5.setTop (mkF m 36 #[.val (.ref a), .val (.ref b), .val (.int (Int32.ofNat o)), .val (.int (Int32.ofNat len)), .val .null, .unset] [.int (Int32.ofNat len), .int (Int32.ofNat o), .ref b])) := c6.trans (by
    refine XS.ifNo X5.here hexec rfl (hb hbytes d30) rfl (i0_eq_f hz) ?_
    refine XS.aloadN X5.here hexec rfl (hb hbytes d33) rfl rfl ?_
    refine XS.iloadN X5.here hexec rfl (hb hbytes d34) rfl ?_
    refine XS.iloadN X5.here hexec rfl (hb hbytes d35) rfl ?_
    exact Steps.refl _)
  obtain ⟨v8, T8, X8, E8, g8⟩ := X5.callS hexec (Cmp3.law l b A o len) hown (wks W (staticW "java/lang/String" 177 Cmp3.yN)) (wk W Cmp3.tab) (W := 0) (Nat.le_of_ble_eq_true rfl) (Nat.le_of_ble_eq_true rfl) (Nat.le_refl _) (by show 0 + len ≤ len; omega) (g := (mkF m 36 #[.val (.ref a), .val (.ref b), .val (.int (Int32.ofNat o)), .val (.int (Int32.ofNat len)), .val .null, .unset] [.int (Int32.ofNat len), .int (Int32.ofNat o), .ref b])) rfl (by rw [hml]; rfl) c7 (argsL := [.ref b, .int (Int32.ofNat o), .int (Int32.ofNat len)]) (rest := []) rfl rfl (by show 2 * 0 + 0 ≤ _; decide) (hb hbytes d36) (⟨rfl, hA.mv X5.warmed.alike hh5, l1, l2, hp⟩)
  obtain ⟨e8, z8⟩ := E8
  obtain ⟨rfl, N, n1, n2, n3, n4, n5, n6⟩ := NewArr.mv _ T5 s _ _ hh5.symm (Vm.Alike.refl _) rfl e8
  rw [hh5] at z8
  have hB1 := hB.keep X8.warmed.alike (n6 _ _ hB.1)
  have hne : s.heap.size ≠ a := (Nat.ne_of_lt (Array.getElem?_eq_some_iff.mp hB.1).1).symm
  have c9 : Steps p.tables e below (s₁.setTop (entryFrame m #[.ref a, .ref b, .int (Int32.ofNat o), .int (Int32.ofNat len), .null] 6)) (T8.setTop (mkF m 39 #[.val (.ref a), .val (.ref b), .val (.int (Int32.ofNat o)), .val (.int (Int32.ofNat len)), .val .null, .unset] [.ref s.heap.size])) := g8
  have c10 : Steps p.tables e below (s₁.setTop (entryFrame m #[.ref a, .ref b, .int (Int32.ofNat o), .int (Int32.ofNat len), .null] 6)) (T8.setTop (mkF m 45 #[.val (.ref a), .val (.ref b), .val (.int (Int32.ofNat o)), .val (.int (Int32.ofNat len)), .val .null, .val (.ref s.heap.size)] [.int (Int32.ofNat N.slots.size), .ref s.heap.size, .ref a])) := by
    have hc : Steps p.tables e below (s₁.setTop (entryFrame m #[.ref a, .ref b, .int (Int32.ofNat o), .int (Int32.ofNat len), .null] 6)) (T8.setTop (mkF m 45 #[.val (.ref a), .val (.ref b), .val (.int (Int32.ofNat o)), .val (.int (Int32.ofNat len)), .val .null, .val (.ref s.heap.size)] [.int (Int32.ofNat len), .ref s.heap.size, .ref a])) := c9.trans (by
      refine XS.astore X8.here hexec rfl (hb hbytes d39) rfl rfl rfl ?_
      refine XS.aloadN X8.here hexec rfl (hb hbytes d41) rfl rfl ?_
      refine XS.aload X8.here hexec rfl (hb hbytes d42) rfl rfl ?_
      refine XS.iloadN X8.here hexec rfl (hb hbytes d44) rfl ?_
      exact Steps.refl _)
    rw [n4]; exact hc
  obtain ⟨v11, T11, X11, E11, g11⟩ := X8.callS hexec (CodL.law l s.heap.size N) hown (wks W (staticW "java/lang/String" 47 CodL.yN)) (wk W CodL.tab) (W := 1) (Nat.le_of_ble_eq_true rfl) (Nat.le_of_ble_eq_true rfl) (Nat.le_refl _) (by show 0 + len + 0 ≤ len; omega) (g := (mkF m 45 #[.val (.ref a), .val (.ref b), .val (.int (Int32.ofNat o)), .val (.int (Int32.ofNat len)), .val .null, .val (.ref s.heap.size)] [.int (Int32.ofNat N.slots.size), .ref s.heap.size, .ref a])) rfl (by rw [hml]; rfl) c10 (argsL := [.ref s.heap.size, .int (Int32.ofNat N.slots.size)]) (rest := [.ref a]) rfl rfl (by show 2 * 0 + (1 + 0) ≤ _; decide) (hb hbytes d45) (⟨rfl, n1⟩)
  obtain ⟨rfl, q11⟩ := E11
  have hB11 := hB1.mv (X8.warmed.alike.symm.trans X11.warmed.alike) q11
  have c12 : Steps p.tables e below (s₁.setTop (entryFrame m #[.ref a, .ref b, .int (Int32.ofNat o), .int (Int32.ofNat len), .null] 6)) (T11.setTop (mkF m 48 #[.val (.ref a), .val (.ref b), .val (.int (Int32.ofNat o)), .val (.int (Int32.ofNat len)), .val .null, .val (.ref s.heap.size)] [.int 0, .ref a])) := g11
  obtain ⟨T13, X13, p13, bl13, sl13, st13⟩ := X11.finit hexec hown (wk W (.fieldLink "java/lang/String" 15 "java/lang/String" "coder" "B")) (Or.inr ⟨_, (wk W (.laysFinal "java/lang/String" "java/lang/String" "coder" "B"))⟩) (Or.inl ⟨rfl, hnm⟩) f2 (Or.inl rfl) hB11 (t := .byte) (by decide +kernel) rfl (g := (mkF m 48 #[.val (.ref a), .val (.ref b), .val (.int (Int32.ofNat o)), .val (.int (Int32.ofNat len)), .val .null, .val (.ref s.heap.size)] [.int 0, .ref a])) rfl (rest := []) rfl (hb hbytes d48)
  have c14 : Steps p.tables e below (s₁.setTop (entryFrame m #[.ref a, .ref b, .int (Int32.ofNat o), .int (Int32.ofNat len), .null] 6)) (T13.setTop (mkF m 54 #[.val (.ref a), .val (.ref b), .val (.int (Int32.ofNat o)), .val (.int (Int32.ofNat len)), .val .null, .val (.ref s.heap.size)] [.ref s.heap.size, .ref a])) := (c12.trans (st13 _ (Steps.refl _))).trans (by
    refine XS.aloadN X13.here hexec rfl (hb hbytes d51) rfl rfl ?_
    refine XS.aload X13.here hexec rfl (hb hbytes d52) rfl rfl ?_
    exact Steps.refl _)
  obtain ⟨T15, X15, p15, bl15, sl15, st15⟩ := X13.finit hexec hown (wk W (.fieldLink "java/lang/String" 9 "java/lang/String" "value" "[B")) (Or.inr ⟨_, (wk W (.laysFinal "java/lang/String" "java/lang/String" "value" "[B"))⟩) (Or.inl ⟨rfl, hnm⟩) f1 (Or.inl rfl) bl13 (t := (.array .byte)) (by decide +kernel) rfl (g := (mkF m 54 #[.val (.ref a), .val (.ref b), .val (.int (Int32.ofNat o)), .val (.int (Int32.ofNat len)), .val .null, .val (.ref s.heap.size)] [.ref s.heap.size, .ref a])) rfl (rest := []) rfl (hb hbytes d54)
  have c16 : Steps p.tables e below (s₁.setTop (entryFrame m #[.ref a, .ref b, .int (Int32.ofNat o), .int (Int32.ofNat len), .null] 6)) (T15.setTop (mkF m 57 #[.val (.ref a), .val (.ref b), .val (.int (Int32.ofNat o)), .val (.int (Int32.ofNat len)), .val .null, .val (.ref s.heap.size)] [])) := c14.trans (st15 _ (Steps.refl _))
  have ap := apart (Or.inr ⟨_, (wk W (.laysFinal "java/lang/String" "java/lang/String" "value" "[B"))⟩) (Or.inr ⟨_, (wk W (.laysFinal "java/lang/String" "java/lang/String" "coder" "B"))⟩) f1 f2 (t₁ := .array .byte) (t₂ := .byte) (by decide +kernel) (by decide +kernel) (by decide)
  have al := X8.warmed.alike.symm.trans X15.warmed.alike
  have n7 : T11.heap[s.heap.size]? = some N := by rw [q11]; exact n1.1
  exact ⟨T15, none, _, _, _, X15, by simp, rfl, by omega, (fun _ => rfl), ⟨rfl, _, N, bl15, ((Same.refl D _).set _ (by simp)).set _ (by simp), sl15, (Cell.slots_setSlot_ne _ ap).trans sl13, n1.keep al (p15.other hne (p13.other hne n7)), n2, by rw [al.findClass]; exact n3, n4, n5, fun y c h1 h2 => p15.other h1 (p13.other h1 (by rw [q11]; exact n6 y c h2)), by rw [p15.2.2, p13.2.2, q11]; exact z8⟩, fun fs hl => c16.trans (X15.returnOut hexec hret (hb hbytes d57) hl)⟩
end New4
namespace New1
def yN : MethodName := ⟨"java/lang/String", "<init>", "([C)V"⟩
abbrev yB : ByteArray := jdk_42_method_3_code
theorem d0 : decode yB 0 = .ok (.aload_n 0, 1) := by decide +kernel
theorem d1 : decode yB 1 = .ok (.aload_n 1, 1) := by decide +kernel
theorem d2 : decode yB 2 = .ok (.iconst 0, 1) := by decide +kernel
theorem d3 : decode yB 3 = .ok (.aload_n 1, 1) := by decide +kernel
theorem d4 : decode yB 4 = .ok (.arraylength, 1) := by decide +kernel
theorem d5 : decode yB 5 = .ok (.aconst_null, 1) := by decide +kernel
theorem d6 : decode yB 6 = .ok (.invokespecial 27, 3) := by decide +kernel
theorem d9 : decode yB 9 = .ok (.return_, 1) := by decide +kernel
def site : List Cond := [New4.tab] ++ initW "java/lang/String" 27 New4.yN
def tab : Cond := tabOf yN yB 2 none site
def P (a : Addr) (D : Cell) (fV fC : Field) (b : Addr) (A : Cell) (z : Int32) (args : Array Value) (s : State) : Prop := args = #[.ref a, .ref b] ∧ Blank "java/lang/String" a D s ∧ Found "java/lang/String" "value" "[B" fV s ∧ Found "java/lang/String" "coder" "B" fC s ∧ Ch b A s ∧ StaticIs s "java/lang/String" "COMPACT_STRINGS" "Z" (.int z) ∧ ¬ z = 0 ∧ 0 < A.slots.size ∧ A.slots.size ≤ 536870912 ∧ ∀ i, i < A.slots.size → ¬ 255 < cv A i
def E (a : Addr) (D : Cell) (fV fC : Field) (A : Cell) (r : Option Value) (s u : State) : Prop := Got a D fV fC A 0 A.slots.size r s u
/-- new String(chars), not empty, no char above 255: a Latin-1 String of their low bytes -/
theorem law (l : Launch) (a : Addr) (D : Cell) (fV fC : Field) (b : Addr) (A : Cell) (z : Int32) : Law l yN 2 1 3 52 yB 2 none site (P a D fV fC b A z) (E a D fV fC A) [⟨a, fC.slot⟩, ⟨a, fV.slot⟩] 1 A.slots.size := by
  refine Law.of_walk (plainFor_of_name (by decide +kernel)) (by decide +kernel) (by decide +kernel) (by decide) (fun _ _ h => by rw [h.1]; rfl) (fun _ U U' hal hh h => ⟨h.1, h.2.1.mv hal hh, h.2.2.1.al hal, h.2.2.2.1.al hal, h.2.2.2.2.1.mv hal hh, h.2.2.2.2.2.1.there hal hh, h.2.2.2.2.2.2⟩) (fun r U U' V V' h1 hal h2 h => Got.mv r U U' V V' h1 hal h2 h) ?_
  intro p e s m args below meth c s₁ X0 hexec hbytes hml hret hlk hnm hown hh0 W hP
  obtain ⟨rfl, hB, f1, f2, hA, s1, hz, l0, l2, hp⟩ := hP
  have c1 : Steps p.tables e below (s₁.setTop (entryFrame m #[.ref a, .ref b] 2)) (s₁.setTop (mkF m 0 #[.val (.ref a), .val (.ref b)] [])) := entry rfl
  have c2 : Steps p.tables e below (s₁.setTop (entryFrame m #[.ref a, .ref b] 2)) (s₁.setTop (mkF m 6 #[.val (.ref a), .val (.ref b)] [.null, .int (Int32.ofNat A.slots.size), .int 0, .ref b, .ref a])) := c1.trans (by
    refine XS.aloadN X0.here hexec rfl (hb hbytes d0) rfl rfl ?_
    refine XS.aloadN X0.here hexec rfl (hb hbytes d1) rfl rfl ?_
    refine iconstV X0.here hexec rfl 0 (hb hbytes d2) (by decide) ?_
    refine XS.aloadN X0.here hexec rfl (hb hbytes d3) rfl rfl ?_
    refine X0.alen hexec (hA.1.mv X0.warmed.alike hh0) rfl rfl (hb hbytes d4) ?_
    refine XS.aconstNull X0.here hexec rfl (hb hbytes d5) ?_
    exact Steps.refl _)
  obtain ⟨v3, T3, X3, E3, g3⟩ := X0.callN hexec (New4.law l a D fV fC b A z 0 A.slots.size) rfl hown (wks W (initW "java/lang/String" 27 New4.yN)) (W New4.tab (by simp only [site, List.mem_cons, List.mem_append, true_or, or_true])) (W := 0) (Nat.le_of_ble_eq_true rfl) (Nat.le_of_ble_eq_true rfl) (Nat.le_refl _) (by show 0 + A.slots.size ≤ A.slots.size; omega) (g := (mkF m 6 #[.val (.ref a), .val (.ref b)] [.null, .int (Int32.ofNat A.slots.size), .int (Int32.ofNat 0), .ref b, .ref a])) rfl (by rw [hml]; rfl) c2 (argsL := [.ref b, .int (Int32.ofNat 0), .int (Int32.ofNat A.slots.size), .null]) (rest := []) rfl rfl (by show 2 * 0 + 0 ≤ _; decide) (hb hbytes d6) (⟨rfl, hB.mv X0.warmed.alike hh0, f1.al X0.warmed.alike, f2.al X0.warmed.alike, hA.mv X0.warmed.alike hh0, s1.there X0.warmed.alike hh0, hz, l0, by omega, l2, fun i hi => by rw [Nat.zero_add]; exact hp i hi⟩)
  have e0 := Got.mv _ s₁ s _ _ hh0.symm (Vm.Alike.refl _) rfl E3
  obtain rfl := e0.1
  have c4 : Steps p.tables e below (s₁.setTop (entryFrame m #[.ref a, .ref b] 2)) (T3.setTop (mkF m 9 #[.val (.ref a), .val (.ref b)] [])) := g3
  exact ⟨T3, none, _, _, _, X3, by simp, rfl, by omega, (fun _ => rfl), e0, fun fs hl => c4.trans (X3.returnOut hexec hret (hb hbytes d9) hl)⟩
theorem pays {l : Launch} {R : Room} {p : Program} {e : Env} {below : List Frame} {s : State} {sargs : Array Value} {len W : Nat} (a : Addr) (D : Cell) (fV fC : Field) (b : Addr) (A : Cell) (z : Int32) (htab : tab.before sargs s = true) (hfr : 4 ≤ R.frames) (hlo : W + 65 ≤ R.locals) :
    Back l R p e below s sargs yN len W (fun A₁ a₁ => A₁.cells + 1 ≤ R.cells ∧ A₁.slots + A.slots.size ≤ R.slots ∧ P a D fV fC b A z a₁ A₁.U) (fun A₁ _ v₁ B₁ => E a D fV fC A v₁ A₁.U B₁.U ∧ B₁.locs = A₁.locs ++ [⟨a, fC.slot⟩, ⟨a, fV.slot⟩] ∧ B₁.cells = A₁.cells + 1 ∧ B₁.slots = A₁.slots + A.slots.size) :=
  (law l a D fV fC b A z).pays htab hfr (by omega)
end New1
end StrChars
namespace StrChars.Road
open Jvm Sem ClassFile Op Lib Jvm.Stand Jvm.Free Jvm.Free.XT
open Jvm.Lib.Cold (StaticIs)
abbrev ST : String := "java/lang/String"
/-- every table word that New1's law asks, flat -/
abbrev words : List Jvm.Cond := [.code New1.yN New1.yB 2 none, .initialized ST, .methodLink ST 27 New4.yN, .instanceMethod New4.yN,
  .code New4.yN New4.yB 6 none, .fieldLink ST 38 ST "COMPACT_STRINGS" "Z", .laysFinal ST ST "value" "[B", .fieldLink ST 9 ST "value" "[B", .laysFinal ST ST "coder" "B", .fieldLink ST 15 ST "coder" "B",
  .methodLink ST 1 Lib.objectInit, .instanceMethod Lib.objectInit, .code Lib.objectInit ⟨#[0xb1]⟩ 1 none, .methodLink ST 177 Cmp3.yN, .static Cmp3.yN, .methodLink ST 47 CodL.yN, .static CodL.yN,
  .code Cmp3.yN Cmp3.yB 6 (some (.array .byte)), .initialized U16, .arrayClass .byte, .methodLink U16 115 Cmp5.yN, .static Cmp5.yN, .code Cmp5.yN Cmp5.yB 7 (some .int), .code CodL.yN CodL.yB 2 (some .byte)]
theorem tab_of {a : Array Value} {s : State} (h : ∀ w ∈ words, w.before a s = true) : New1.tab.before a s = true := by
  have h5 : Cmp5.tab.before a s = true := unparts (wk h (.code Cmp5.yN Cmp5.yB 7 (some .int))) (wks h (.initialized Cmp5.yN.cls :: Cmp5.site))
  have hc : CodL.tab.before a s = true := unparts (wk h (.code CodL.yN CodL.yB 2 (some .byte))) (wks h (.initialized CodL.yN.cls :: CodL.site))
  have q5 : ∀ w ∈ Cmp5.tab :: words, w.before a s = true := fun w hw => (List.mem_cons.mp hw).elim (fun e => e ▸ h5) (h w)
  have h3 : Cmp3.tab.before a s = true := unparts (wk q5 (.code Cmp3.yN Cmp3.yB 6 (some (.array .byte)))) (wks q5 (.initialized Cmp3.yN.cls :: Cmp3.site))
  have q3 : ∀ w ∈ Cmp3.tab :: CodL.tab :: words, w.before a s = true := fun w hw => (List.mem_cons.mp hw).elim (fun e => e ▸ h3) fun hw => (List.mem_cons.mp hw).elim (fun e => e ▸ hc) (h w)
  have h4 : New4.tab.before a s = true := unparts (wk q3 (.code New4.yN New4.yB 6 none)) (wks q3 (.initialized New4.yN.cls :: New4.site))
  have q4 : ∀ w ∈ New4.tab :: words, w.before a s = true := fun w hw => (List.mem_cons.mp hw).elim (fun e => e ▸ h4) (h w)
  exact unparts (wk q4 (.code New1.yN New1.yB 2 none)) (wks q4 (.initialized New1.yN.cls :: New1.site))
/-- the words ride from the start Z to the walk's own state -/
theorem moved {Z s : State} {a0 args : Array Value} (hZ : Z.Warmed39 s.vm) (hw : ∀ d ∈ words, d.before a0 Z = true) : ∀ d ∈ words, d.before args s = true := fun d hd => by
  have q := hw d hd
  have t : ∀ d ∈ words, d = .arrayClass .byte ∨ (d.onTables && d.keepsFace) = true := by decide +kernel
  rcases t d hd with rfl | t
  · exact RoadKit.mvA hZ q
  · exact RoadKit.mv hZ q t
/-- WHAT COMES BACK, over the tables of the start Z: h the heap at the call, h' behind it -/
def Q (Z : State) (x : Addr) (A : Cell) (h : Heap) (v : Option Value) (h' : Heap) (L : List Loc) : Prop := v = none ∧ (∀ y ∈ L, y.base = x) ∧ RoadKit.Keep h h' [x] ∧ h'.size = h.size + 1 ∧ RoadKit.Exa Z h' x ST ∧ RoadKit.Fld Z h' x ST "value" "[B" (.ref h.size) ∧ RoadKit.Fld Z h' x ST "coder" "B" (.int 0) ∧
  (∃ V : Cell, RoadKit.Arr Z h' h.size V .byte ∧ V.vm = .none ∧ Z.vm.findClass "[B" = some V.cls ∧ V.slots.size = A.slots.size ∧ ∀ j, j < A.slots.size → V.slots[j]? = some (.int (lo8 (cv A j)))) ∧
  ∀ (O n d : String) (w : Value), RoadKit.Fld Z h x O n d w → RoadKit.slotOf Z O n d ≠ RoadKit.slotOf Z ST "value" "[B" → RoadKit.slotOf Z O n d ≠ RoadKit.slotOf Z ST "coder" "B" → RoadKit.Fld Z h' x O n d w
/-- **new String(chars) AT A CALL, IN THE ROAD'S FORM**: for specialBack behind newO: x the fresh String, b the char[] with the cell A -/
theorem back {p : Program} {l : Launch} {e : Env} {R : Room} {s : State} {args : Array Value} {below : List Frame} {len W : Nat} {Z : State} {a0 : Array Value} {h : Heap} (hZ : Z.Warmed39 s.vm) (hw : ∀ d ∈ words, d.before a0 Z = true) {kI : Nat} (wi : (Jvm.Cond.instantiable ST kI).before a0 Z = true)
    {x b : Addr} {A : Cell} {z : Int32} {v0 c0 : Value} (E : RoadKit.Exa Z h x ST) (V : RoadKit.Fld Z h x ST "value" "[B" v0) (C : RoadKit.Fld Z h x ST "coder" "B" c0) (K : RoadKit.Arr Z h b A .char) (hty : Typed .char A) (S : RoadKit.Sta Z h ST "COMPACT_STRINGS" "Z" (.int z)) (hz : ¬ z = 0)
    (l0 : 0 < A.slots.size) (l2 : A.slots.size ≤ 536870912) (hp : ∀ i, i < A.slots.size → ¬ 255 < cv A i) (hfr : 4 ≤ R.frames) (hlo : W + 65 ≤ R.locals) :
    Back l R p e below s args New1.yN len W (fun P a => a = #[.ref x, .ref b] ∧ P.U.heap = h ∧ P.cells + 1 ≤ R.cells ∧ P.slots + A.slots.size ≤ R.slots)
      (fun P _ v B => ∃ L, Q Z x A h v B.U.heap L ∧ B.locs = P.locs ++ L ∧ B.cells = P.cells + 1 ∧ B.slots = P.slots + A.slots.size) := by
  intro m meth c P g ig mk a X hg hsize hdg hW hn hp'
  obtain ⟨rfl, rfl, r1, r2⟩ := hp'
  have al : Z.vm.Alike P.U.vm := hZ.alike.trans X.warmed.alike
  obtain ⟨D, cfV, kV, iV, fV, hD, gV, stV, knV, obV, asV, slV⟩ := id V
  obtain ⟨D', cfC, kC, iC, fC, hD', gC, stC, -, -, asC, slC⟩ := id C
  cases hD.symm.trans hD'
  obtain ⟨D2, kD, e1, e2, e3, e4, e5⟩ := id E
  cases hD.symm.trans e1
  obtain ⟨c2, k2, i1, i2, i3, -⟩ := Cond.instantiable_spec wi
  cases e2.symm.trans i1
  cases e3.symm.trans i2
  obtain ⟨kU, u1, u2⟩ := al.2.2 _ _ e3
  have hB : Blank ST x D P.U := ⟨hD, ⟨knV, fun q hq => by rw [hq] at obV; cases obV⟩, by rw [al.findClass]; exact e2, kU, u1, by rw [u2]; exact i3, by rw [u2]; exact e5 i3⟩
  have F1 : Found ST "value" "[B" fV P.U := ⟨SBG.found_only al ⟨cfV, kV, iV, gV⟩, stV⟩
  have F2 : Found ST "coder" "B" fC P.U := ⟨SBG.found_only al ⟨cfC, kC, iC, gC⟩, stC⟩
  have hA : Ch b A P.U := ⟨⟨K.1, State.isArrayOf_alike al K.2.1, K.2.2, by omega⟩, hty⟩
  have hS : StaticIs P.U ST "COMPACT_STRINGS" "Z" (.int z) := by
    obtain ⟨cfS, iS, kS, fS, st, cS, t1, t2, t3, t4, t5, t6, t7⟩ := S
    exact StaticIs.there (s := { Z with heap := P.U.heap }) ⟨cfS, iS, kS, fS, st, cS, t1, t2, t3, t4, t5, (fun q => by rw [q] at t6; cases t6), t7⟩ al rfl
  obtain ⟨v, B, X', ⟨⟨hv, E', V', q1, q2, q3, q4, q5, q6, q7, q8, q9, q10, q11⟩, hl, hc, hs⟩, st⟩ := New1.pays x D fV fC b A z (tab_of (moved hZ hw)) hfr hlo m meth c P g ig mk _ X hg hsize hdg hW hn ⟨r1, r2, rfl, hB, F1, F2, hA, hS, hz, l0, l2, hp⟩
  have al' : Z.vm.Alike B.U.vm := hZ.alike.trans X'.warmed.alike
  have hsz : E'.slots.size = D.slots.size := by
    obtain ⟨-, -, -, kB, w1, w2, w3⟩ := q1
    obtain ⟨kB', y1, y2⟩ := al'.2.2 _ _ e3
    rw [q2.2.1] at w1
    cases w1.symm.trans y1
    rw [w3, e5 i3, y2]
  refine ⟨v, B, X', ⟨_, ⟨hv, ?_, ⟨by omega, fun y cy hy hn' => q10 y cy (by simpa using hn') hy, fun y cy hy => ?_⟩, q11, ⟨E', _, q1.1, by rw [q2.2.1]; exact e2, by rw [q2.2.1]; exact e3, by rw [q2.1]; exact obV, fun _ => by rw [hsz]; exact e5 i3⟩,
    ⟨E', cfV, kV, iV, fV, q1.1, gV, stV, by rw [q2.1]; exact knV, by rw [q2.1]; exact obV, by rw [q2.2.1]; exact asV, q3⟩, ⟨E', cfC, kC, iC, fC, q1.1, gC, stC, by rw [q2.1]; exact knV, by rw [q2.1]; exact obV, by rw [q2.2.1]; exact asC, q4⟩,
    ⟨V', ⟨q5.1, State.isArrayOf_alike al'.symm q5.2.1, q5.2.2.1⟩, q6, by rw [← al'.findClass]; exact q7, q8, fun j hj => by have := q9 j hj; rwa [Nat.zero_add] at this⟩, fun O n d w F n1 n2 => ?_⟩, hl, hc, hs⟩, st⟩
  · intro y hy
    simp only [List.mem_cons, List.not_mem_nil, or_false] at hy
    rcases hy with rfl | rfl <;> rfl
  · by_cases q : y = x
    · subst q
      cases hD.symm.trans hy
      exact ⟨E', q1.1, q2.2.1, q2.1, hsz⟩
    · exact ⟨cy, q10 y cy q hy, rfl, rfl, rfl⟩
  · obtain ⟨D3, cf, k, i, f, g1, g2, g3, g4, g5, g6, g7⟩ := F
    cases hD.symm.trans g1
    simp only [RoadKit.slotOf, g2, gV, gC, Option.map_some, Option.getD_some] at n1 n2
    exact ⟨E', cf, k, i, f, q1.1, g2, g3, by rw [q2.1]; exact g4, by rw [q2.1]; exact g5, by rw [q2.2.1]; exact g6, by rw [q2.2.2 f.slot (by simp [n1, n2])]; exact g7⟩
end StrChars.Road
namespace StrChars.Road
open Jvm Sem ClassFile Op Lib Jvm.Stand Jvm.Free Jvm.Free.XT
/-- WHAT COMES BACK, the byte[] as a list of values -/
def QA (Z : State) (x : Addr) (zn : Int32) (cs : List Int32) (h : Heap) (v : Option Value) (h' : Heap) (L : List Loc) : Prop := v = none ∧ (∀ y ∈ L, y.base = x) ∧ RoadKit.Keep h h' [x] ∧ h'.size = h.size + 1 ∧ RoadKit.Exa Z h' x ST ∧ RoadKit.Fld Z h' x ST "value" "[B" (.ref h.size) ∧ RoadKit.Fld Z h' x ST "coder" "B" (.int 0) ∧
  (∃ kb, Z.vm.findClass "[B" = some kb ∧ RoadKit.Arv Z h' h.size kb .byte zn (cs.map fun c => .int (lo8 c)) (.int 0)) ∧
  ∀ (O n d : String) (w : Value), RoadKit.Fld Z h x O n d w → RoadKit.slotOf Z O n d ≠ RoadKit.slotOf Z ST "value" "[B" → RoadKit.slotOf Z O n d ≠ RoadKit.slotOf Z ST "coder" "B" → RoadKit.Fld Z h' x O n d w
/-- **new String(chars) AT A CALL, THE ARRAYS AS LISTS**: the char[] at b holds cs, not empty, no char above 255 -/
theorem backArv {p : Program} {l : Launch} {e : Env} {R : Room} {s : State} {args : Array Value} {below : List Frame} {len W : Nat} {Z : State} {a0 : Array Value} {h : Heap} (hZ : Z.Warmed39 s.vm) (hw : ∀ d ∈ words, d.before a0 Z = true) {kI : Nat} (wi : (Jvm.Cond.instantiable ST kI).before a0 Z = true)
    {x b : Addr} {k : ClassId} {zn z : Int32} {cs : List Int32} {dv v0 c0 : Value} (E : RoadKit.Exa Z h x ST) (V : RoadKit.Fld Z h x ST "value" "[B" v0) (C : RoadKit.Fld Z h x ST "coder" "B" c0) (K : RoadKit.Arv Z h b k .char zn (cs.map Value.int) dv) (S : RoadKit.Sta Z h ST "COMPACT_STRINGS" "Z" (.int z)) (hz : ¬ z = 0)
    (hlen : zn.toNatClampNeg = cs.length) (h0 : 0 < cs.length) (hbig : cs.length ≤ 536870912) (hall : ∀ c ∈ cs, ¬ 255 < c) (hfr : 4 ≤ R.frames) (hlo : W + 65 ≤ R.locals) :
    Back l R p e below s args New1.yN len W (fun P a => a = #[.ref x, .ref b] ∧ P.U.heap = h ∧ P.cells + 1 ≤ R.cells ∧ P.slots + cs.length ≤ R.slots)
      (fun P _ v B => ∃ L, QA Z x zn cs h v B.U.heap L ∧ B.locs = P.locs ++ L ∧ B.cells = P.cells + 1 ∧ B.slots = P.slots + cs.length) := by
  obtain ⟨A, K1, K2, K3, K4, K5, K6⟩ := K
  have e : A.slots.size = cs.length := K3.trans hlen
  have hat : ∀ (i : Nat) (hi : i < cs.length), A.slots[i]? = some (.int cs[i]) := fun i hi => by rw [K5 i (by omega)]; simp [List.getD_eq_getElem?_getD, hi]
  have hcv : ∀ (i : Nat) (hi : i < cs.length), cv A i = cs[i] := fun i hi => by unfold cv; rw [hat i hi]
  have hty : Typed .char A := fun i v hv => by
    have hi : i < A.slots.size := (Array.getElem?_eq_some_iff.mp hv).1
    have q := K5 i hi
    rw [hv] at q
    rw [Option.some.inj q]
    exact K6 i hi
  refine Back.mono (back hZ hw wi E V C K1 hty S hz (by omega) (by omega) (fun i hi => by rw [hcv i (by omega)]; exact hall _ (List.getElem_mem _)) hfr hlo) (fun P a hp => ⟨hp.1, hp.2.1, hp.2.2.1, by rw [e]; exact hp.2.2.2⟩) (fun P a v B hp hq => ?_)
  obtain ⟨L, ⟨q1, q2, q3, q4, q5, q6, q7, ⟨V', v1, v2, v3, v4, v5⟩, q9⟩, hl, hc, hs⟩ := hq
  refine ⟨L, ⟨q1, q2, q3, q4, q5, q6, q7, ⟨V'.cls, v3, V', v1, rfl, by rw [v4, e, hlen], K4, fun i hi => ?_, fun i hi => ?_⟩, q9⟩, hl, hc, by rw [hs, e]⟩
  · have hi' : i < cs.length := by omega
    rw [v5 i (by omega), hcv i hi']; simp [List.getD_eq_getElem?_getD, hi']
  · have hi' : i < cs.length := by omega
    simp only [List.getD_eq_getElem?_getD, List.getElem?_map, List.getElem?_eq_getElem hi', Option.map_some, Option.getD_some]
    exact fits_lo8 _
end StrChars.Road
namespace StrChars.Road
open Jvm Sem ClassFile Op Lib Jvm.Stand Jvm.Free Jvm.Free.XT
/-- WHAT COMES BACK, in the writer's own shape -/
def QV (Z : State) (x : Addr) (N : Int32) (bs : List Int32) (h : Heap) (n0 : Nat) (v : Option Value) (h' : Heap) (L : List Loc) : Prop := v = none ∧ RoadKit.Fr n0 L ∧ RoadKit.Keep h h' [x] ∧ RoadKit.Exa Z h' x ST ∧ RoadKit.Fld Z h' x ST "coder" "B" (.int 0) ∧
  ∃ (t : Addr) (kb : ClassId), n0 ≤ t ∧ h.size ≤ t ∧ ¬ t = x ∧ RoadKit.Fld Z h' x ST "value" "[B" (.ref t) ∧ RoadKit.Arv Z h' t kb .byte N (bs.map Value.int) (.int 0)
/-- **new String(chars) AT A CALL, FOR THE WRITER**: a char[] of n known ints, each 0 to 255 -/
theorem backV {p : Program} {l : Launch} {e : Env} {R : Room} {s : State} {args : Array Value} {below : List Frame} {len W : Nat} {Z : State} {a0 : Array Value} {h : Heap} (hZ : Z.Warmed39 s.vm) (hw : ∀ d ∈ words, d.before a0 Z = true) {kI : Nat} (wi : (Jvm.Cond.instantiable ST kI).before a0 Z = true)
    {x b : Addr} {kC : ClassId} {cs bs : List Int32} {d v0 c0 : Value} {z N : Int32} {n n0 : Nat} (hx0 : n0 ≤ x) (hh0 : n0 ≤ h.size) (E : RoadKit.Exa Z h x ST) (V : RoadKit.Fld Z h x ST "value" "[B" v0) (C : RoadKit.Fld Z h x ST "coder" "B" c0) (K : RoadKit.Arv Z h b kC .char N (cs.map Value.int) d) (S : RoadKit.Sta Z h ST "COMPACT_STRINGS" "Z" (.int z)) (hz : ¬ z = 0)
    (hn : cs.length = n) (hN : N = Int32.ofNat n) (l0 : 0 < n) (l2 : n ≤ 4000) (hp : ∀ c ∈ cs, ¬ c < 0 ∧ ¬ (255 : Int32) < c) (hb : bs = cs.map (fun c => c.toInt8.toInt32)) (hfr : 4 ≤ R.frames) (hlo : W + 65 ≤ R.locals) :
    Back l R p e below s args (⟨"java/lang/String", "<init>", "([C)V"⟩ : MethodName) len W (fun P a => a = #[.ref x, .ref b] ∧ P.U.heap = h ∧ P.cells + 1 ≤ R.cells ∧ P.slots + n ≤ R.slots)
      (fun P _ v B => ∃ L, QV Z x N bs h n0 v B.U.heap L ∧ B.locs = P.locs ++ L ∧ B.cells = P.cells + 1 ∧ B.slots = P.slots + n) := by
  subst hn hN hb
  refine Back.mono (backArv hZ hw wi E V C K S hz (n32 (by omega)) l0 (by omega) (fun c hc => (hp c hc).2) hfr hlo) (fun P a hp => hp) (fun P a v B hp hq => ?_)
  obtain ⟨L, ⟨q1, q2, q3, q4, q5, q6, q7, ⟨kb, v1, v2⟩, q9⟩, hl, hc, hs⟩ := hq
  exact ⟨L, ⟨q1, fun y hy => by rw [q2 y hy]; exact hx0, q3, q5, q7, h.size, kb, hh0, Nat.le_refl _, Nat.ne_of_gt E.lt, q6, by rw [List.map_map]; exact v2⟩, hl, hc, hs⟩
end StrChars.Road
end Jvm.Pilot.@@N@@

namespace Jvm.OwnGo
open Sem ClassFile Op Lib Jvm.Stand Jvm.Free Jvm.LawKit Jvm.RoadKit
section Own
variable {p : Program} {l : Launch} {e : Env} {R : Room} {s : State} {m : MethodId} {args : Array Value} {below : List Frame} {meth : Method} {c : Code} {T T' : State} {locs : List Loc} {cells slots : Nat} {P : Outcome → State → Prop} {g g' : JFrame} {Z : State} {h : Heap}
/-- from where the walk stands (the state T, the frame g) it ends well -/
def Go (p : Program) (e : Env) (below : List Frame) (P : Outcome → State → Prop) (T : State) (g : JFrame) : Prop :=
  ∃ s₂ o, Steps p.tables e below (T.setTop g) s₂ ∧ s₂.status = .running ∧ Ended s₂ below o ∧ P o s₂
/-- what a contract asks of the end -/
abbrev PQ (s : State) (C S : Nat) (Q : Option Value → Heap → List Loc → Prop) : Outcome → State → Prop := fun o U' => ∃ v L, o = .returned v ∧ Q v U'.heap L ∧ FrameEnd s o U' L C S
theorem goS {n : Nat} {Ls' : Array Slot} {st' : List Value} (k : ∀ t, Steps p.tables e below (T'.setTop (mkF m n Ls' st')) t → Steps p.tables e below (T.setTop g) t) (h : Go p e below P T' (mkF m n Ls' st')) : Go p e below P T g := by
  obtain ⟨s2, o, h1, h2⟩ := h; exact ⟨s2, o, k _ h1, h2⟩
theorem goT {n : Nat} {Ls' : Array Slot} {st' : List Value} (k : Steps p.tables e below (T.setTop g) (T'.setTop (mkF m n Ls' st'))) (h : Go p e below P T' (mkF m n Ls' st')) : Go p e below P T g := by
  obtain ⟨s2, o, h1, h2⟩ := h; exact ⟨s2, o, k.trans h1, h2⟩
theorem enter (q : entryFrame m args n = g) (h : Go p e below P T g) : ∃ s₂ o, Steps p.tables e below (T.setTop (entryFrame m args n)) s₂ ∧ s₂.status = .running ∧ Ended s₂ below o ∧ P o s₂ := by
  rw [q]; exact h
theorem goRet {Q : Option Value → Heap → List Loc → Prop} {C S : Nat} (X : Stand p l e R s m args below meth c T locs cells slots) (hx : p.tables.exec = Jvm.exec) (hlk : meth.locks = false) {pc : Nat} {Ls : Array Slot} {w : Value} {t : FieldType} {i : Instr} {rest : List Value} (hret : meth.sig.returnType = some t) (hn : narrow t w = w)
    (hi : (i = .ireturn ∧ (t = .int ∨ t = .boolean ∨ t = .byte ∨ t = .char ∨ t = .short) ∧ ∃ z, w = .int z) ∨ (i = .lreturn ∧ t = .long ∧ ∃ z, w = .long z) ∨ (i = .dreturn ∧ t = .double ∧ ∃ z, w = .double z) ∨ (i = .freturn ∧ t = .float ∧ ∃ z, w = .float z) ∨ (i = .areturn ∧ t.isReference = true ∧ w.isRef = true))
    (hd : decode c.code pc = .ok (i, 1)) (hC : cells ≤ C) (hS : slots ≤ S) (hQ : Q (some w) T.heap locs) : Go p e below (PQ s C S Q) T (mkF m pc Ls (w :: rest)) := by
  obtain ⟨fs, hr, hrun, hended, hW, hsame⟩ := X.leave (v := some w) (fun h => by rw [hret] at h; cases h) hlk
  exact ⟨_, _, retOut X hx hret hn hi hd hr, hrun, hended, _, _, rfl, hQ, ⟨_, rfl⟩, hW, hsame.mono hC hS⟩
theorem goRetI {Q : Option Value → Heap → List Loc → Prop} {C S : Nat} (X : Stand p l e R s m args below meth c T locs cells slots) (hx : p.tables.exec = Jvm.exec) (hlk : meth.locks = false) {pc : Nat} {Ls : Array Slot} {z : Int32} {rest : List Value} (hret : meth.sig.returnType = some .int) (hd : decode c.code pc = .ok (.ireturn, 1)) (hC : cells ≤ C) (hS : slots ≤ S) (hQ : Q (some (.int z)) T.heap locs) : Go p e below (PQ s C S Q) T (mkF m pc Ls (.int z :: rest)) :=
  goRet X hx hlk hret rfl (Or.inl ⟨rfl, Or.inl rfl, _, rfl⟩) hd hC hS hQ
theorem goRetZ {Q : Option Value → Heap → List Loc → Prop} {C S : Nat} (X : Stand p l e R s m args below meth c T locs cells slots) (hx : p.tables.exec = Jvm.exec) (hlk : meth.locks = false) {pc : Nat} {Ls : Array Slot} {z : Int32} {rest : List Value} (hret : meth.sig.returnType = some .boolean) (hz : z = 0 ∨ z = 1) (hd : decode c.code pc = .ok (.ireturn, 1)) (hC : cells ≤ C) (hS : slots ≤ S) (hQ : Q (some (.int z)) T.heap locs) : Go p e below (PQ s C S Q) T (mkF m pc Ls (.int z :: rest)) :=
  goRet X hx hlk hret (by rcases hz with rfl | rfl <;> rfl) (Or.inl ⟨rfl, Or.inr (Or.inl rfl), _, rfl⟩) hd hC hS hQ
theorem goRetJ {Q : Option Value → Heap → List Loc → Prop} {C S : Nat} (X : Stand p l e R s m args below meth c T locs cells slots) (hx : p.tables.exec = Jvm.exec) (hlk : meth.locks = false) {pc : Nat} {Ls : Array Slot} {z : Int64} {rest : List Value} (hret : meth.sig.returnType = some .long) (hd : decode c.code pc = .ok (.lreturn, 1)) (hC : cells ≤ C) (hS : slots ≤ S) (hQ : Q (some (.long z)) T.heap locs) : Go p e below (PQ s C S Q) T (mkF m pc Ls (.long z :: rest)) :=
  goRet X hx hlk hret rfl (Or.inr (Or.inl ⟨rfl, rfl, _, rfl⟩)) hd hC hS hQ
theorem goRetA {Q : Option Value → Heap → List Loc → Prop} {C S : Nat} (X : Stand p l e R s m args below meth c T locs cells slots) (hx : p.tables.exec = Jvm.exec) (hlk : meth.locks = false) {pc : Nat} {Ls : Array Slot} {w : Value} {t : FieldType} {rest : List Value} (hret : meth.sig.returnType = some t) (ht : t.isReference = true) (hw : w.isRef = true) (hd : decode c.code pc = .ok (.areturn, 1)) (hC : cells ≤ C) (hS : slots ≤ S) (hQ : Q (some w) T.heap locs) : Go p e below (PQ s C S Q) T (mkF m pc Ls (w :: rest)) :=
  goRet X hx hlk hret (by cases t <;> first | rfl | cases ht) (Or.inr (Or.inr (Or.inr (Or.inr ⟨rfl, ht, hw⟩)))) hd hC hS hQ
theorem goRetV {Q : Option Value → Heap → List Loc → Prop} {C S : Nat} (X : Stand p l e R s m args below meth c T locs cells slots) (hx : p.tables.exec = Jvm.exec) (hlk : meth.locks = false) {pc : Nat} {Ls : Array Slot} (hret : meth.sig.returnType = none) (hd : decode c.code pc = .ok (.return_, 1)) (hC : cells ≤ C) (hS : slots ≤ S) (hQ : Q none T.heap locs) : Go p e below (PQ s C S Q) T (mkF m pc Ls []) := by
  obtain ⟨fs, hr, hrun, hended, hW, hsame⟩ := X.leave (v := none) (fun _ => rfl) hlk
  exact ⟨_, _, X.returnOut hx hret hd hr, hrun, hended, _, _, rfl, hQ, ⟨_, rfl⟩, hW, hsame.mono hC hS⟩
abbrev PQW (s : State) (C S : Nat) (Q : Option Value → Heap → List Loc → Prop) : Outcome → State → Prop := fun o U' => ∃ v L, o = .returned v ∧ Q v U'.heap L ∧ ReturnedEndW s o U' L C S
theorem goRetW {Q : Option Value → Heap → List Loc → Prop} {C S : Nat} {vm₁ : Vm} (X : Stand p l e R (s.setVm vm₁) m args below meth c T locs cells slots) (hx : p.tables.exec = Jvm.exec) (hlk : meth.locks = false) {n : Nat} (hS : s.Since vm₁ n) (hn0 : n ≤ T.heap.size) {pc : Nat} {Ls : Array Slot} {w : Value} {t : FieldType} {i : Instr} {rest : List Value} (hret : meth.sig.returnType = some t) (hn : narrow t w = w)
    (hi : (i = .ireturn ∧ (t = .int ∨ t = .boolean ∨ t = .byte ∨ t = .char ∨ t = .short) ∧ ∃ z, w = .int z) ∨ (i = .lreturn ∧ t = .long ∧ ∃ z, w = .long z) ∨ (i = .dreturn ∧ t = .double ∧ ∃ z, w = .double z) ∨ (i = .freturn ∧ t = .float ∧ ∃ z, w = .float z) ∨ (i = .areturn ∧ t.isReference = true ∧ w.isRef = true))
    (hd : decode c.code pc = .ok (i, 1)) (hC : cells ≤ C) (hSl : slots ≤ S) (hQ : Q (some w) T.heap locs) : Go p e below (PQW s C S Q) T (mkF m pc Ls (w :: rest)) := by
  obtain ⟨fs, hr, hrun, hended, h1, h2, h3, h4⟩ := X.leaveW hS hn0 (v := some w) (fun h => by rw [hret] at h; cases h) hlk
  exact ⟨_, _, retOut X hx hret hn hi hd hr, hrun, hended, _, _, rfl, hQ, ⟨_, rfl⟩, h2, h3, h4.mono hC hSl⟩
theorem goRetVW {Q : Option Value → Heap → List Loc → Prop} {C S : Nat} {vm₁ : Vm} (X : Stand p l e R (s.setVm vm₁) m args below meth c T locs cells slots) (hx : p.tables.exec = Jvm.exec) (hlk : meth.locks = false) {n : Nat} (hS : s.Since vm₁ n) (hn0 : n ≤ T.heap.size) {pc : Nat} {Ls : Array Slot} (hret : meth.sig.returnType = none) (hd : decode c.code pc = .ok (.return_, 1)) (hC : cells ≤ C) (hSl : slots ≤ S) (hQ : Q none T.heap locs) : Go p e below (PQW s C S Q) T (mkF m pc Ls []) := by
  obtain ⟨fs, hr, hrun, hended, h1, h2, h3, h4⟩ := X.leaveW hS hn0 (v := none) (fun _ => rfl) hlk
  exact ⟨_, _, X.returnOut hx hret hd hr, hrun, hended, _, _, rfl, hQ, ⟨_, rfl⟩, h2, h3, h4.mono hC hSl⟩
abbrev PQH (Z : State) (EL : List (String × Nat)) (s : State) (C S : Nat) (Q : Option Value → Heap → List Loc → Prop) : Outcome → State → Prop := fun o U' => ∃ v L, o = .returned v ∧ Q v U'.heap L ∧ CHr Z EL s.vm s.heap U'.vm U'.heap ∧ ReturnedEndW s o U' L C S
theorem goRetH {Q : Option Value → Heap → List Loc → Prop} {C S : Nat} {vm₁ : Vm} {EL : List (String × Nat)} {a0 : Array Value} (X : Stand p l e R (s.setVm vm₁) m args below meth c T locs cells slots) (hx : p.tables.exec = Jvm.exec) (hlk : meth.locks = false) {n : Nat} (hS : s.Since vm₁ n) (hn0 : n ≤ T.heap.size) (hZ : Z.Warmed39 vm₁) (hEL : EW Z a0 EL) (hC' : CHr Z EL s.vm s.heap vm₁ T.heap) {pc : Nat} {Ls : Array Slot} {w : Value} {t : FieldType} {i : Instr} {rest : List Value} (hret : meth.sig.returnType = some t) (hn : narrow t w = w)
    (hi : (i = .ireturn ∧ (t = .int ∨ t = .boolean ∨ t = .byte ∨ t = .char ∨ t = .short) ∧ ∃ z, w = .int z) ∨ (i = .lreturn ∧ t = .long ∧ ∃ z, w = .long z) ∨ (i = .dreturn ∧ t = .double ∧ ∃ z, w = .double z) ∨ (i = .freturn ∧ t = .float ∧ ∃ z, w = .float z) ∨ (i = .areturn ∧ t.isReference = true ∧ w.isRef = true))
    (hd : decode c.code pc = .ok (i, 1)) (hC : cells ≤ C) (hSl : slots ≤ S) (hQ : Q (some w) T.heap locs) : Go p e below (PQH Z EL s C S Q) T (mkF m pc Ls (w :: rest)) := by
  obtain ⟨fs, hr, hrun, hended, h1, h2, h3, h4⟩ := X.leaveW hS hn0 (v := some w) (fun h => by rw [hret] at h; cases h) hlk
  have qC : CHr Z EL s.vm s.heap T.vm T.heap := hC'.trans (CHv.at X hZ hEL hC'.1)
  exact ⟨_, _, retOut X hx hret hn hi hd hr, hrun, hended, _, _, rfl, hQ, qC, ⟨_, rfl⟩, h2, h3, h4.mono hC hSl⟩
theorem goRetVH {Q : Option Value → Heap → List Loc → Prop} {C S : Nat} {vm₁ : Vm} {EL : List (String × Nat)} {a0 : Array Value} (X : Stand p l e R (s.setVm vm₁) m args below meth c T locs cells slots) (hx : p.tables.exec = Jvm.exec) (hlk : meth.locks = false) {n : Nat} (hS : s.Since vm₁ n) (hn0 : n ≤ T.heap.size) (hZ : Z.Warmed39 vm₁) (hEL : EW Z a0 EL) (hC' : CHr Z EL s.vm s.heap vm₁ T.heap) {pc : Nat} {Ls : Array Slot} (hret : meth.sig.returnType = none) (hd : decode c.code pc = .ok (.return_, 1)) (hC : cells ≤ C) (hSl : slots ≤ S) (hQ : Q none T.heap locs) : Go p e below (PQH Z EL s C S Q) T (mkF m pc Ls []) := by
  obtain ⟨fs, hr, hrun, hended, h1, h2, h3, h4⟩ := X.leaveW hS hn0 (v := none) (fun _ => rfl) hlk
  have qC : CHr Z EL s.vm s.heap T.vm T.heap := hC'.trans (CHv.at X hZ hEL hC'.1)
  exact ⟨_, _, X.returnOut hx hret hd hr, hrun, hended, _, _, rfl, hQ, qC, ⟨_, rfl⟩, h2, h3, h4.mono hC hSl⟩
/-- a String under construction (its value is null) is no booked one -/
theorem safeNull {vm : Vm} {EL : List (String × Nat)} {a : Addr} (hal : Z.vm.Alike vm) (E : Exa Z h a "java/lang/String") (F : Fld Z h a "java/lang/String" "value" "[B" .null) : Safe Z EL vm h a := fun B => by
  obtain ⟨cell, cf, k, i, f, f1, f2, f3, f4, f5, f6, f7⟩ := F
  obtain ⟨cell', k', e1, e2, e3, -, -⟩ := E
  cases f1.symm.trans e1
  obtain ⟨p, -, u, a', -, q, -, F', rfl | rfl⟩ := B
  · have ha := F'.ha
    cases (show h[q.sa]? = some q.sC from ha).symm.trans f1
    obtain ⟨cS, ⟨⟨-, -, -, ⟨cv, kv, iv, s4, -⟩, -, -, -, s8, -⟩, -⟩, -⟩ := F'
    obtain ⟨kv', z4⟩ := ff_back (U := Wst Z vm h) hal s4
    cases f2.symm.trans z4
    rw [f7] at s8
    cases s8
  · have hd := F'.hd
    cases (show h[q.sd]? = some q.SA from hd).symm.trans f1
    obtain ⟨cS, -, -, hB, -⟩ := F'
    have hB' : Z.vm.findClass "[B" = some q.SA.cls := by rw [← hal.findClass]; exact hB
    obtain ⟨k1, q1, q2⟩ := Vm.findClass_spec hB'
    obtain ⟨k2, q3, q4⟩ := Vm.findClass_spec e2
    cases q1.symm.trans q3
    exact absurd (q2.symm.trans q4) (by decide)
theorem mvMN {a0 args : Array Value} {own host : String} {y : MethodName} {index : Nat} (hZ : Z.Warmed39 s.vm) (w : (Cond.methodLinkNest own index y host).before a0 Z = true) : (Cond.methodLinkNest own index y host).before args s = true := (Cond.methodLinkNest_wide hZ w :)
theorem shr0 (z : Int32) : z >>> ((0 : Int32) &&& 31) = z := by
  have h := c_ishr z 0 0 (by decide)
  exact Int32.toInt_inj.mp (by rw [h]; omega)
theorem neEA {a0 : Array Value} {a b : Addr} {C : String} {n : Nat} {k : ClassId} {ty : FieldType} {z : Int32} {vs : List Value} {d : Value} (F : Exa Z h a C) (wi : (Cond.instantiable C n).before a0 Z = true) (G : Arv Z h b k ty z vs d) : a ≠ b := by
  obtain ⟨c, A, -⟩ := G
  exact ne_arr F wi A
theorem insArv {a : Addr} {K : String} {k : ClassId} {ty : FieldType} {z : Int32} {vs : List Value} {d : Value} (F : Arv Z h a k ty z vs d) (hc : Z.vm.findClass K = some k) : Ins Z h a K true := by
  obtain ⟨c, A, q, -⟩ := F
  exact ⟨c, k, A.1, hc, by simp [A.plain, q, Vm.assignable_self]⟩
theorem nle {a b : Nat} (h : Nat.ble a b = true) : a ≤ b := Nat.le_of_ble_eq_true h
theorem narZ {z : Int32} (hz : z = 0 ∨ z = 1) : narrow .boolean (.int z) = .int z := by rcases hz with rfl | rfl <;> rfl
theorem fldStart {args : Array Value} {t : Term} {C n d : String} {a : Addr} {k : Int32} (ht : t.eval args Z none [] Z = some (.ref a)) (h : (Cond.eq (Term.field t C n d) (.int k)).value args Z none Z [] = some true) : Fld Z Z.heap a C n d (.int k) := by
  obtain ⟨x, y, e1, e2, k1, k2⟩ := cmp_v (Or.inl h)
  rw [Term.int_eval] at e2
  cases e2
  obtain ⟨z, rfl⟩ := k2
  have e3 := e1
  rw [fld_at ht] at e3
  have q : z = k := by simpa [Cond.value, e1, Term.int_eval] using h
  subst q
  exact Fld.start e3
def bi (P : Prop) [Decidable P] : Int32 := if P then 1 else 0
theorem bi_t {P : Prop} [Decidable P] (h : P) : bi P = 1 := if_pos h
theorem bi_f {P : Prop} [Decidable P] (h : ¬ P) : bi P = 0 := if_neg h
theorem bi01 (P : Prop) [Decidable P] : bi P = 0 ∨ bi P = 1 := by unfold bi; split <;> simp
theorem modk (x k : Int32) (K : Int) (hk : k.toInt = K) : 0 < K → 0 ≤ ((x &&& 2147483647) % k).toInt ∧ ((x &&& 2147483647) % k).toInt < K := by
  intro h0
  have h1 := c_mask x 2147483647 31 (by decide) (by decide)
  have h2 : 0 ≤ (x &&& 2147483647).toInt := by rw [h1]; omega
  have h3 := (c_irem (x &&& 2147483647) k K hk).1 h2
  rw [h3]
  exact ⟨Int.emod_nonneg _ (by omega), Int.emod_lt_of_pos _ h0⟩
/-- an index: a natural below n -/
theorem idx {i : Int32} {n : Nat} (h : 0 ≤ i.toInt ∧ i.toInt < (n : Int)) : ∃ k : Nat, k < n ∧ i.toInt = (k : Int) ∧ i.toNatClampNeg = k ∧ ¬ i < 0 := by
  have h0 : ¬ i < 0 := by rw [Int32.lt_iff_toInt_lt]; show ¬ i.toInt < 0; omega
  have h1 := nat_of h0
  exact ⟨i.toNatClampNeg, by omega, h1, rfl, h0⟩
theorem lsw {target : State} (X : Stand p l e R s m args below meth c T locs cells slots) (hx : p.tables.exec = Jvm.exec) (hg : g.method = m) {dflt : Int} {pairs : Array (Int × Int)} {len pc0 pc' : Nat} (hpc : g.pc = pc0) {o : Int} {i : Int32} {rest : List Value} (hd : decode c.code g.pc = .ok (.lookupswitch dflt pairs, len)) (hs : g.stack = .int i :: rest)
    (hord : ∀ (a b a_1 b_1 : Int), ((a, b), a_1, b_1) ∈ pairs.toList.zip pairs.toList.tail → a < a_1) (hf : (∃ kk, pairs.find? (·.1 == i.toInt) = some (kk, o)) ∨ (pairs.find? (·.1 == i.toInt) = none ∧ o = dflt)) (h0 : 0 ≤ (pc0 : Int) + o) (hp : ((pc0 : Int) + o).toNat = pc')
    (hr : Steps p.tables e below (T.setTop { g with pc := pc', stack := rest }) target) : Steps p.tables e below (T.setTop g) target := by
  subst hg hpc hp
  rcases hf with ⟨kk, hf⟩ | ⟨hf, rfl⟩
  · jvm_step X.here [X.here.top, hx, hd, hs, hf, h0, lookupswitch.wp_whole]
    exact ⟨hord, hr⟩
  · jvm_step X.here [X.here.top, hx, hd, hs, hf, h0, lookupswitch.wp_whole]
    exact ⟨hord, hr⟩
theorem ieq {x k : Int32} {n K : Nat} (hx : x.toInt = (n : Int)) (hk : k.toInt = (K : Int)) : x = k ↔ n = K := by rw [← Int32.toInt_inj, hx, hk]; omega
theorem lenStart {args : Array Value} {t : Term} {a : Addr} {cl : Cell} {ty : FieldType} {z : Int32} (ht : t.eval args Z none [] Z = some (.ref a)) (A : Arr Z Z.heap a cl ty) (h : (Term.length t).eval args Z none [] Z = some (.int z)) : cl.slots.size < 2 ^ 31 ∧ cl.slots.size.toInt32 = z := by
  have ha := A.fin (U := Z) (Vm.Alike.refl _)
  by_cases q : cl.slots.size < 2 ^ 31
  · refine ⟨q, ?_⟩
    rw [len_f ht ha q] at h
    exact Value.int.inj (Option.some.inj h)
  · simp [Term.eval, ht, ha, q] at h
theorem subIdx {args : Array Value} {j : Int32} (hj : ¬ j < 0) (k : Int32) : (Term.sub (.index 0) (.int k)).eval args Z none [j.toNatClampNeg] Z = some (.int (j - k)) := Term.sub_int (idx_at hj) (Term.int_eval _)
theorem bi_iff {P Q : Prop} [Decidable P] [Decidable Q] (h : P ↔ Q) : bi P = bi Q := by unfold bi; simp only [h]
theorem cacheIdx {x : Int32} {n : Nat} (h1 : ¬ x < (-128 : Int32)) (h2 : ¬ (127 : Int32) < x) (hn : n = (256 : Int32).toNatClampNeg) : ¬ (x + (128 : Int32) < 0 ∨ n ≤ (x + (128 : Int32)).toNatClampNeg) := by
  rw [Int32.lt_iff_toInt_lt] at h1 h2
  have a1 : ¬ x.toInt < -128 := h1
  have a2 : ¬ (127 : Int) < x.toInt := h2
  have q0 : (128 : Int32).toInt = 128 := rfl
  have q := c_iadd x 128
  have r := rng32 (x + 128)
  rw [q0] at q
  have e1 : (x + (128 : Int32)).toInt = x.toInt + 128 := by omega
  have e2 : ¬ x + (128 : Int32) < 0 := by rw [Int32.lt_iff_toInt_lt]; show ¬ _ < (0 : Int); omega
  have e3 := nat_of e2
  have e4 : n = 256 := hn
  rintro (h | h)
  · exact e2 h
  · omega
theorem nsRoot {a0 : Array Value} {O K : String} {n : Nat} (w : (Cond.noSuperclass O).before a0 Z = true) (wk : (Cond.instantiable K n).before a0 Z = true) (hn : O ≠ K) : NS Z O K := by
  obtain ⟨c, k, h1, h2, h3, -, -⟩ := Cond.noSuperclass_spec w
  obtain ⟨t, kt, g1, -⟩ := Cond.instantiable_spec wk
  have ne := ids_ne h1 g1 hn
  refine ⟨c, t, h1, g1, fun fuel => ?_⟩
  cases fuel with
  | zero => rfl
  | succ f => simp [Vm.isSubclassAux, ne, h2, h3]
theorem nsNo {a0 : Array Value} {C S K : String} {n : Nat} (w : (Cond.superclass C S).before a0 Z = true) (wk : (Cond.instantiable K n).before a0 Z = true) (q : NS Z C K) (hn : C ≠ K) : ∃ c t, Z.vm.findClass C = some c ∧ Z.vm.findClass K = some t ∧ Z.vm.assignable c t = false := by
  obtain ⟨c, t, h0, g0, n3⟩ := q
  obtain ⟨p, k, kp, h1, h2, h3, h4, h5, -, h7⟩ := Cond.superclass_spec h0 w
  obtain ⟨t', k', g1, g2, g5, g7, -⟩ := Cond.instantiable_spec wk
  cases g0.symm.trans g1
  have g8 := (Bool.or_eq_false_iff.mp g7).1
  have ne := ids_ne h0 g0 hn
  refine ⟨c, t, h0, g0, ?_⟩
  show Z.vm.assignableAux (255 + 1) c t = false
  simp [Vm.assignableAux, ne, h2, g2, h5, g5, g8, Vm.isSubclass, n3]
theorem ne_key {x k : Int32} {K : Int} (h : ¬ x = k) (hk : k.toInt = K) : K ≠ x.toInt := fun q => h (Int32.toInt_inj.mp (by rw [hk]; exact q.symm))
end Own
end Jvm.OwnGo

namespace Jvm.Pilot.@@N@@
open Jvm Jvm.ClassFile Sem Op Lib Jvm.Free Jvm.Stand Jvm.LawKit Jvm.RoadKit Jvm.OwnGo Bundle Jvm.Pilot.@@N@@.Jvm.D
theorem own_wS {Z : State} {a0 : Array Value} (hw : ∀ d ∈ tables_1, d.before a0 Z = true) : ∀ a ∈ Bundle.stringAtoms, a.before a0 Z = true := by
  intro a ha
  simp only [Bundle.stringAtoms, List.mem_cons, List.not_mem_nil, or_false] at ha
  rcases ha with rfl | rfl | rfl | rfl | rfl | rfl | rfl
  all_goals first | exact (hw _ (List.mem_of_getElem? (i := 6) rfl)) | exact (hw _ (List.mem_of_getElem? (i := 5) rfl)) | exact (hw _ (List.mem_of_getElem? (i := 22) rfl)) | exact (hw _ (List.mem_of_getElem? (i := 32) rfl)) | exact (hw _ (List.mem_of_getElem? (i := 30) rfl)) | exact (hw _ (List.mem_of_getElem? (i := 79) rfl)) | exact (hw _ (List.mem_of_getElem? (i := 80) rfl))
abbrev own_EL : List (String × Nat) := [("java/lang/String", 7)]
theorem own_EW {Z : State} {a0 : Array Value} (hw : ∀ d ∈ tables_1, d.before a0 Z = true) : EW Z a0 own_EL := EW.cons (text := "") (hw _ (List.mem_of_getElem? (i := 78) rfl)) (fun _ q => nomatch q) EW.nil
theorem own_words {Z : State} {a0 : Array Value} (hw : ∀ d ∈ tables_1, d.before a0 Z = true) : ∀ d ∈ StrChars.Road.words, d.before a0 Z = true := fun d hd => hw d ((by decide +kernel : ∀ d ∈ StrChars.Road.words, d ∈ tables_1) d hd)
theorem d2_0 : decode jdk_42_method_149_code 0 = .ok (.aload_n 0, 1) := by decide +kernel
theorem d2_1 : decode jdk_42_method_149_code 1 = .ok (.invokespecial 1, 3) := by decide +kernel
theorem d2_4 : decode jdk_42_method_149_code 4 = .ok (.iload_n 3, 1) := by decide +kernel
theorem d2_5 : decode jdk_42_method_149_code 5 = .ok (.ifCond .ne 22, 3) := by decide +kernel
theorem d2_8 : decode jdk_42_method_149_code 8 = .ok (.aload_n 0, 1) := by decide +kernel
theorem d2_9 : decode jdk_42_method_149_code 9 = .ok (.ldc 7, 2) := by decide +kernel
theorem d2_11 : decode jdk_42_method_149_code 11 = .ok (.getfield 9, 3) := by decide +kernel
theorem d2_14 : decode jdk_42_method_149_code 14 = .ok (.putfield 9, 3) := by decide +kernel
theorem d2_17 : decode jdk_42_method_149_code 17 = .ok (.aload_n 0, 1) := by decide +kernel
theorem d2_18 : decode jdk_42_method_149_code 18 = .ok (.ldc 7, 2) := by decide +kernel
theorem d2_20 : decode jdk_42_method_149_code 20 = .ok (.getfield 15, 3) := by decide +kernel
theorem d2_23 : decode jdk_42_method_149_code 23 = .ok (.putfield 15, 3) := by decide +kernel
theorem d2_26 : decode jdk_42_method_149_code 26 = .ok (.return_, 1) := by decide +kernel
theorem pn_0 : plainName "java/lang/String" = true := by first | (simp [plainName, overriddenIn]; done) | decide +kernel
theorem ef_strE4 (m : MethodId) (a : Addr) (c0 : Addr) : entryFrame m #[(.ref a), (.ref c0), (.int (0 : Int32)), (.int (0 : Int32)), .null] 6 = mkF m 0 #[.val (.ref a), .val (.ref c0), .val (.int (0 : Int32)), .val (.int (0 : Int32)), .val .null, .unset] [] := by first | (simp [entryFrame, mkF, argsToLocals, Value.category]; done) | rfl
abbrev R_strE4 : Room := { frames := 1, cells := 4, slots := 8, locals := 12 }
def Q_strE4 (Z : State) (a : Addr) (c0 : Addr) (h0 : Heap) (n0 : Nat) (v : Option Value) (h : Heap) (L : List Loc) : Prop := v = none ∧ ∃ (t : Addr) (k : ClassId), Fr n0 L ∧ Keep h0 h [a] ∧ Fld Z h a "java/lang/String" "value" "[B" (.ref t) ∧ Fld Z h a "java/lang/String" "coder" "B" (.int (0 : Int32)) ∧ Arv Z h t k .byte (0 : Int32) [] (.int (0 : Int32)) ∧ Fld Z h a "java/lang/String" "hash" "I" (.int (0 : Int32)) ∧ Fld Z h a "java/lang/String" "hashIsZero" "Z" (.int (0 : Int32))
set_option maxRecDepth 65536 in
set_option maxHeartbeats 40000000 in
theorem rm_strE4 (l : Launch) (Z : State) (a0 : Array Value) (hw : ∀ d ∈ tables_1, d.before a0 Z = true) (ws : List Jvm.Cond) (a : Addr) (c0 : Addr) (h0 : Heap) (n0 : Nat) (O0 : Old Z n0 h0) (E_a : Exa Z h0 a "java/lang/String") (F_value_a : Fld Z h0 a "java/lang/String" "value" "[B" .null) (F_coder_a : Fld Z h0 a "java/lang/String" "coder" "B" (.int (0 : Int32))) (g_a : n0 ≤ a) (F_hash_a : Fld Z h0 a "java/lang/String" "hash" "I" (.int (0 : Int32))) (F_hashIsZero_a : Fld Z h0 a "java/lang/String" "hashIsZero" "Z" (.int (0 : Int32))) :
    MetFree l (⟨"java/lang/String", "<init>", "([CIILjava/lang/Void;)V"⟩ : MethodName) (head1 (Jvm.Cond.code (⟨"java/lang/String", "<init>", "([CIILjava/lang/Void;)V"⟩ : MethodName) jdk_42_method_149_code 6 none :: ws) R_strE4) (fun as_ U => as_ = #[(.ref a), (.ref c0), (.int (0 : Int32)), (.int (0 : Int32)), .null] ∧ Z.Warmed39 U.vm ∧ U.heap = h0 ∧ CHv Z own_EL U.vm h0) (fun _ _ _ _ _ => True) (fun _ U o U' => ∃ v L, o = .returned v ∧ Q_strE4 Z a c0 h0 n0 v U'.heap L ∧ CHr Z own_EL U.vm U.heap U'.vm U'.heap ∧ ReturnedEndW U o U' L R_strE4.cells R_strE4.slots) := by
  refine MetFree.of_bodySF (plainFor_of_name pn_0) hisR ?_
  intro p e s m args below meth c s₁ Bd hml0 hP hK
  obtain ⟨rfl, hZ, hh, hC0⟩ := hP
  have hx := Bd.exec
  have hby := Bd.bytes
  have hml : c.maxLocals = 6 := hml0
  have hown : s.vm.findClass "java/lang/String" = some m.cls := findClass_of_methodNamed Bd.named
  have hnm := (name_of_methodNamed Bd.named Bd.method).1
  have hlk : meth.locks = false := BodyLoose.notSynchronized Bd
  have X0 : Stand p l e R_strE4 (s.setVm s.vm) m #[(.ref a), (.ref c0), (.int (0 : Int32)), (.int (0 : Int32)), .null] below meth c s₁ [] 0 0 := Stand.of_body Bd
  have e0 : s₁.heap = h0 := by rw [← hh, Bd.state]; rfl
  have N0 := Fr.nil n0
  have hS : s.Since s.vm s.heap.size := (State.WarmedH.refl s).since _
  have hk : s.heap.size ≤ h0.size := by rw [← hh]; exact Nat.le_refl _
  have hZ : Z.Warmed39 (s.setVm s.vm).vm := hZ
  have hown : (s.setVm s.vm).vm.findClass "java/lang/String" = some m.cls := hown
  have wS := own_wS hw
  have hC : CHr Z own_EL s.vm h0 s.vm h0 := CHr.refl hC0
  have hEL := own_EW hw
  have SF_a : Safe Z own_EL s.vm h0 a := safeNull hZ.alike E_a F_value_a
  refine enter (P := PQH Z own_EL s R_strE4.cells R_strE4.slots (Q_strE4 Z a c0 h0 n0)) (ef_strE4 m a c0) ?_
  refine goS (n := 1) (Ls' := #[.val (.ref a), .val (.ref c0), .val (.int (0 : Int32)), .val (.int (0 : Int32)), .val .null, .unset]) (st' := [(.ref a)]) (fun _ kz => XS.aloadN X0.here hx rfl (hb hby d2_0) rfl rfl kz) ?_
  obtain ⟨T1, X1, e1, st1⟩ := initO X0 hx hZ hown (hw _ (List.mem_of_getElem? (i := 14) rfl)) (hw _ (List.mem_of_getElem? (i := 15) rfl)) (hw _ (List.mem_of_getElem? (i := 16) rfl)) e0 (g := (mkF m 1 #[.val (.ref a), .val (.ref c0), .val (.int (0 : Int32)), .val (.int (0 : Int32)), .val .null, .unset] [(.ref a)])) rfl (by rw [hml]; rfl) rfl (hb hby d2_1) (by decide) (W := 0) (by show 2 * 0 + _ ≤ _; exact Nat.le_of_eq rfl) (by decide)
  refine goS (n := 4) (Ls' := #[.val (.ref a), .val (.ref c0), .val (.int (0 : Int32)), .val (.int (0 : Int32)), .val .null, .unset]) (st' := []) st1 ?_
  refine goS (n := 5) (Ls' := #[.val (.ref a), .val (.ref c0), .val (.int (0 : Int32)), .val (.int (0 : Int32)), .val .null, .unset]) (st' := [(.int (0 : Int32))]) (fun _ kz => XS.iloadN X1.here hx rfl (hb hby d2_4) rfl kz) ?_
  refine goS (n := 8) (Ls' := #[.val (.ref a), .val (.ref c0), .val (.int (0 : Int32)), .val (.int (0 : Int32)), .val .null, .unset]) (st' := []) (fun _ kz => XS.ifNo X1.here hx rfl (hb hby d2_5) rfl (by decide) kz) ?_
  refine goS (n := 9) (Ls' := #[.val (.ref a), .val (.ref c0), .val (.int (0 : Int32)), .val (.int (0 : Int32)), .val .null, .unset]) (st' := [(.ref a)]) (fun _ kz => XS.aloadN X1.here hx rfl (hb hby d2_8) rfl rfl kz) ?_
  obtain ⟨sa2, T2, h2, k12, sb2, kb2, X2, e2, E2, hS, hk2, hZ, hown, E_sa2, F_coder_sa2, F_value_sa2, V_sb2, -, -, hCr2, -, hne2, st2⟩ := ldcCH X1 hx hZ hown (hw _ (List.mem_of_getElem? (i := 78) rfl)) wS e1 hS hk hEL (List.mem_of_getElem? (i := 0) rfl) hC.1 (vs := []) (z := 0) ⟨(fun _ q => nomatch q), rfl⟩ (by decide) rfl (g := (mkF m 9 #[.val (.ref a), .val (.ref c0), .val (.int (0 : Int32)), .val (.int (0 : Int32)), .val .null, .unset] [(.ref a)])) rfl (hb hby d2_9) (n := 0) (by decide +kernel) (by decide) (nle rfl) (nle rfl)
  have SF_a := CHr.safe hCr2 E_a.lt SF_a
  have hC := hC.trans hCr2
  have F_hash_a : Fld Z h2 a "java/lang/String" "hash" "I" (.int (0 : Int32)) := F_hash_a.ext E2
  have F_hashIsZero_a : Fld Z h2 a "java/lang/String" "hashIsZero" "Z" (.int (0 : Int32)) := F_hashIsZero_a.ext E2
  have E_a : Exa Z h2 a "java/lang/String" := E_a.ext E2
  have F_value_a : Fld Z h2 a "java/lang/String" "value" "[B" .null := F_value_a.ext E2
  have F_coder_a : Fld Z h2 a "java/lang/String" "coder" "B" (.int (0 : Int32)) := F_coder_a.ext E2
  have hk := hk2
  have O2 := O0.ext E2
  have KK2 : Keep h0 h2 [a] := (Keep.refl h0 [a]).ext E2
  have ne_a_sa2 : a ≠ sa2 := (hne2 _ SF_a).1
  have ne_a_sb2 : a ≠ sb2 := (hne2 _ SF_a).2
  refine goS (n := 11) (Ls' := #[.val (.ref a), .val (.ref c0), .val (.int (0 : Int32)), .val (.int (0 : Int32)), .val .null, .unset]) (st' := [(.ref sa2), (.ref a)]) st2 ?_
  obtain ⟨T3, X3, e3, st3⟩ := getF X2 hx hZ hown (host := "") (Or.inl (hw _ (List.mem_of_getElem? (i := 31) rfl))) Via.refl e2 F_value_sa2 (g := (mkF m 11 #[.val (.ref a), .val (.ref c0), .val (.int (0 : Int32)), .val (.int (0 : Int32)), .val .null, .unset] [(.ref sa2), (.ref a)])) rfl rfl (hb hby d2_11)
  refine goS (n := 14) (Ls' := #[.val (.ref a), .val (.ref c0), .val (.int (0 : Int32)), .val (.int (0 : Int32)), .val .null, .unset]) (st' := [(.ref sb2), (.ref a)]) st3 ?_
  obtain ⟨T4, h4, X4, e4, W4, st4⟩ := putF X3 hx hZ hown (host := "") (Or.inl (hw _ (List.mem_of_getElem? (i := 31) rfl))) Via.refl e3 F_value_a E_a (Or.inr ⟨(hw _ (List.mem_of_getElem? (i := 32) rfl)), rfl, hnm⟩) (hw _ (List.mem_of_getElem? (i := 5) rfl)) (ty := (.array .byte)) (v := (.ref sb2)) (by decide) rfl rfl (g := (mkF m 14 #[.val (.ref a), .val (.ref c0), .val (.int (0 : Int32)), .val (.int (0 : Int32)), .val .null, .unset] [(.ref sb2), (.ref a)])) rfl rfl (hb hby d2_14)
  have Fn4 : Fld Z h4 a "java/lang/String" "value" "[B" (.ref sb2) := F_value_a.same W4
  have hk := Nat.le_trans hk (Keep.of_wr W4).1
  have sfw := SF_a
  have SF_a := Safe.wr W4 sfw hC.1 SF_a
  have hC := hC.trans (CHr.wr W4 sfw hC.1)
  have F_hash_a : Fld Z h4 a "java/lang/String" "hash" "I" (.int (0 : Int32)) := F_hash_a.other W4 (Or.inr (slot_ne (Or.inl (hw _ (List.mem_of_getElem? (i := 57) rfl))) (Or.inr (hw _ (List.mem_of_getElem? (i := 32) rfl))) (by decide) (t := .int) (t' := (.array .byte)) (by decide) (by decide)))
  have F_hashIsZero_a : Fld Z h4 a "java/lang/String" "hashIsZero" "Z" (.int (0 : Int32)) := F_hashIsZero_a.other W4 (Or.inr (slot_ne (Or.inl (hw _ (List.mem_of_getElem? (i := 59) rfl))) (Or.inr (hw _ (List.mem_of_getElem? (i := 32) rfl))) (by decide) (t := .boolean) (t' := (.array .byte)) (by decide) (by decide)))
  have E_a : Exa Z h4 a "java/lang/String" := E_a.wr W4
  have F_coder_a : Fld Z h4 a "java/lang/String" "coder" "B" (.int (0 : Int32)) := F_coder_a.other W4 (Or.inr (slot_ne (Or.inr (hw _ (List.mem_of_getElem? (i := 30) rfl))) (Or.inr (hw _ (List.mem_of_getElem? (i := 32) rfl))) (by decide) (t := .byte) (t' := (.array .byte)) (by decide) (by decide)))
  have E_sa2 : Exa Z h4 sa2 "java/lang/String" := E_sa2.wr W4
  have F_coder_sa2 : Fld Z h4 sa2 "java/lang/String" "coder" "B" (.int (0 : Int32)) := F_coder_sa2.other W4 (Or.inl (Ne.symm ne_a_sa2))
  have F_value_sa2 : Fld Z h4 sa2 "java/lang/String" "value" "[B" (.ref sb2) := F_value_sa2.other W4 (Or.inl (Ne.symm ne_a_sa2))
  have V_sb2 : Arv Z h4 sb2 kb2 .byte (0 : Int32) [] (.int (0 : Int32)) := V_sb2.other W4 (Ne.symm ne_a_sb2)
  have F_value_a := Fn4
  have N4 := Fr.snoc X4 N0 g_a
  have O4 := O2.wr W4 g_a
  have KK4 : Keep h0 h4 [a] := KK2.wr W4 (Or.inl (List.mem_of_getElem? (i := 0) rfl))
  refine goS (n := 17) (Ls' := #[.val (.ref a), .val (.ref c0), .val (.int (0 : Int32)), .val (.int (0 : Int32)), .val .null, .unset]) (st' := []) st4 ?_
  refine goS (n := 18) (Ls' := #[.val (.ref a), .val (.ref c0), .val (.int (0 : Int32)), .val (.int (0 : Int32)), .val .null, .unset]) (st' := [(.ref a)]) (fun _ kz => XS.aloadN X4.here hx rfl (hb hby d2_17) rfl rfl kz) ?_
  obtain ⟨sa5, T5, h5, k15, sb5, kb5, X5, e5, E5, hS, hk5, hZ, hown, E_sa5, F_coder_sa5, F_value_sa5, V_sb5, -, -, hCr5, -, hne5, st5⟩ := ldcCH X4 hx hZ hown (hw _ (List.mem_of_getElem? (i := 78) rfl)) wS e4 hS hk hEL (List.mem_of_getElem? (i := 0) rfl) hC.1 (vs := []) (z := 0) ⟨(fun _ q => nomatch q), rfl⟩ (by decide) rfl (g := (mkF m 18 #[.val (.ref a), .val (.ref c0), .val (.int (0 : Int32)), .val (.int (0 : Int32)), .val .null, .unset] [(.ref a)])) rfl (hb hby d2_18) (n := 0) (by decide +kernel) (by decide) (nle rfl) (nle rfl)
  have SF_a := CHr.safe hCr5 E_a.lt SF_a
  have hC := hC.trans hCr5
  have F_hash_a : Fld Z h5 a "java/lang/String" "hash" "I" (.int (0 : Int32)) := F_hash_a.ext E5
  have F_hashIsZero_a : Fld Z h5 a "java/lang/String" "hashIsZero" "Z" (.int (0 : Int32)) := F_hashIsZero_a.ext E5
  have E_a : Exa Z h5 a "java/lang/String" := E_a.ext E5
  have F_coder_a : Fld Z h5 a "java/lang/String" "coder" "B" (.int (0 : Int32)) := F_coder_a.ext E5
  have E_sa2 : Exa Z h5 sa2 "java/lang/String" := E_sa2.ext E5
  have F_coder_sa2 : Fld Z h5 sa2 "java/lang/String" "coder" "B" (.int (0 : Int32)) := F_coder_sa2.ext E5
  have F_value_sa2 : Fld Z h5 sa2 "java/lang/String" "value" "[B" (.ref sb2) := F_value_sa2.ext E5
  have V_sb2 : Arv Z h5 sb2 kb2 .byte (0 : Int32) [] (.int (0 : Int32)) := V_sb2.ext E5
  have F_value_a : Fld Z h5 a "java/lang/String" "value" "[B" (.ref sb2) := F_value_a.ext E5
  have hk := hk5
  have O5 := O4.ext E5
  have KK5 : Keep h0 h5 [a] := KK4.ext E5
  have ne_a_sa5 : a ≠ sa5 := (hne5 _ SF_a).1
  have ne_a_sb5 : a ≠ sb5 := (hne5 _ SF_a).2
  refine goS (n := 20) (Ls' := #[.val (.ref a), .val (.ref c0), .val (.int (0 : Int32)), .val (.int (0 : Int32)), .val .null, .unset]) (st' := [(.ref sa5), (.ref a)]) st5 ?_
  obtain ⟨T6, X6, e6, st6⟩ := getF X5 hx hZ hown (host := "") (Or.inl (hw _ (List.mem_of_getElem? (i := 29) rfl))) Via.refl e5 F_coder_sa5 (g := (mkF m 20 #[.val (.ref a), .val (.ref c0), .val (.int (0 : Int32)), .val (.int (0 : Int32)), .val .null, .unset] [(.ref sa5), (.ref a)])) rfl rfl (hb hby d2_20)
  refine goS (n := 23) (Ls' := #[.val (.ref a), .val (.ref c0), .val (.int (0 : Int32)), .val (.int (0 : Int32)), .val .null, .unset]) (st' := [(.int (0 : Int32)), (.ref a)]) st6 ?_
  obtain ⟨T7, h7, X7, e7, W7, st7⟩ := putFN X6 hx hZ hown (hw _ (List.mem_of_getElem? (i := 29) rfl)) Via.refl e6 F_coder_a E_a (Or.inr ⟨(hw _ (List.mem_of_getElem? (i := 30) rfl)), rfl, hnm⟩) (hw _ (List.mem_of_getElem? (i := 5) rfl)) (ty := .byte) (v' := (.int (0 : Int32))) (by decide) rfl rfl (g := (mkF m 23 #[.val (.ref a), .val (.ref c0), .val (.int (0 : Int32)), .val (.int (0 : Int32)), .val .null, .unset] [(.int (0 : Int32)), (.ref a)])) rfl rfl (hb hby d2_23)
  have Fn7 : Fld Z h7 a "java/lang/String" "coder" "B" (.int (0 : Int32)) := F_coder_a.same W7
  have hk := Nat.le_trans hk (Keep.of_wr W7).1
  have sfw := SF_a
  have SF_a := Safe.wr W7 sfw hC.1 SF_a
  have hC := hC.trans (CHr.wr W7 sfw hC.1)
  have F_hash_a : Fld Z h7 a "java/lang/String" "hash" "I" (.int (0 : Int32)) := F_hash_a.other W7 (Or.inr (slot_ne (Or.inl (hw _ (List.mem_of_getElem? (i := 57) rfl))) (Or.inr (hw _ (List.mem_of_getElem? (i := 30) rfl))) (by decide) (t := .int) (t' := .byte) (by decide) (by decide)))
  have F_hashIsZero_a : Fld Z h7 a "java/lang/String" "hashIsZero" "Z" (.int (0 : Int32)) := F_hashIsZero_a.other W7 (Or.inr (slot_ne (Or.inl (hw _ (List.mem_of_getElem? (i := 59) rfl))) (Or.inr (hw _ (List.mem_of_getElem? (i := 30) rfl))) (by decide) (t := .boolean) (t' := .byte) (by decide) (by decide)))
  have E_a : Exa Z h7 a "java/lang/String" := E_a.wr W7
  have E_sa2 : Exa Z h7 sa2 "java/lang/String" := E_sa2.wr W7
  have F_coder_sa2 : Fld Z h7 sa2 "java/lang/String" "coder" "B" (.int (0 : Int32)) := F_coder_sa2.other W7 (Or.inl (Ne.symm ne_a_sa2))
  have F_value_sa2 : Fld Z h7 sa2 "java/lang/String" "value" "[B" (.ref sb2) := F_value_sa2.other W7 (Or.inl (Ne.symm ne_a_sa2))
  have V_sb2 : Arv Z h7 sb2 kb2 .byte (0 : Int32) [] (.int (0 : Int32)) := V_sb2.other W7 (Ne.symm ne_a_sb2)
  have F_value_a : Fld Z h7 a "java/lang/String" "value" "[B" (.ref sb2) := F_value_a.other W7 (Or.inr (slot_ne (Or.inr (hw _ (List.mem_of_getElem? (i := 32) rfl))) (Or.inr (hw _ (List.mem_of_getElem? (i := 30) rfl))) (by decide) (t := (.array .byte)) (t' := .byte) (by decide) (by decide)))
  have E_sa5 : Exa Z h7 sa5 "java/lang/String" := E_sa5.wr W7
  have F_coder_sa5 : Fld Z h7 sa5 "java/lang/String" "coder" "B" (.int (0 : Int32)) := F_coder_sa5.other W7 (Or.inl (Ne.symm ne_a_sa5))
  have F_value_sa5 : Fld Z h7 sa5 "java/lang/String" "value" "[B" (.ref sb5) := F_value_sa5.other W7 (Or.inl (Ne.symm ne_a_sa5))
  have V_sb5 : Arv Z h7 sb5 kb5 .byte (0 : Int32) [] (.int (0 : Int32)) := V_sb5.other W7 (Ne.symm ne_a_sb5)
  have F_coder_a := Fn7
  have N7 := Fr.snoc X7 N4 g_a
  have O7 := O5.wr W7 g_a
  have KK7 : Keep h0 h7 [a] := KK5.wr W7 (Or.inl (List.mem_of_getElem? (i := 0) rfl))
  refine goS (n := 26) (Ls' := #[.val (.ref a), .val (.ref c0), .val (.int (0 : Int32)), .val (.int (0 : Int32)), .val .null, .unset]) (st' := []) st7 ?_
  exact goRetVH X7 hx hlk hS (by rw [e7]; exact hk) hZ hEL (by rw [hh, e7]; exact hC) Bd.returns (hb hby d2_26) (nle rfl) (nle rfl) (by rw [e7]; exact ⟨rfl, sb2, _, N7, KK7, F_value_a, F_coder_a, V_sb2, F_hash_a, F_hashIsZero_a⟩)
theorem d1_0 : decode jdk_42_method_3_code 0 = .ok (.aload_n 0, 1) := by decide +kernel
theorem d1_1 : decode jdk_42_method_3_code 1 = .ok (.aload_n 1, 1) := by decide +kernel
theorem d1_2 : decode jdk_42_method_3_code 2 = .ok (.iconst 0, 1) := by decide +kernel
theorem d1_3 : decode jdk_42_method_3_code 3 = .ok (.aload_n 1, 1) := by decide +kernel
theorem d1_4 : decode jdk_42_method_3_code 4 = .ok (.arraylength, 1) := by decide +kernel
theorem d1_5 : decode jdk_42_method_3_code 5 = .ok (.aconst_null, 1) := by decide +kernel
theorem d1_6 : decode jdk_42_method_3_code 6 = .ok (.invokespecial 27, 3) := by decide +kernel
theorem pd_0 : parseMethodDescriptor "([CIILjava/lang/Void;)V" = some ⟨[(.array .char), .int, .int, (.object "java/lang/Void")], none⟩ := by decide +kernel
theorem d1_9 : decode jdk_42_method_3_code 9 = .ok (.return_, 1) := by decide +kernel
theorem ef_strE1 (m : MethodId) (a : Addr) (c0 : Addr) : entryFrame m #[(.ref a), (.ref c0)] 2 = mkF m 0 #[.val (.ref a), .val (.ref c0)] [] := by first | (simp [entryFrame, mkF, argsToLocals, Value.category]; done) | rfl
abbrev R_strE1 : Room := { frames := 2, cells := 4, slots := 8, locals := 29 }
def Q_strE1 (Z : State) (a : Addr) (c0 : Addr) (kc : ClassId) (vs : List Value) (h0 : Heap) (n0 : Nat) (v : Option Value) (h : Heap) (L : List Loc) : Prop := v = none ∧ ∃ (t : Addr) (k : ClassId), Fr n0 L ∧ Keep h0 h [a] ∧ Fld Z h a "java/lang/String" "value" "[B" (.ref t) ∧ Fld Z h a "java/lang/String" "coder" "B" (.int (0 : Int32)) ∧ Arv Z h t k .byte (0 : Int32) [] (.int (0 : Int32)) ∧ Fld Z h a "java/lang/String" "hash" "I" (.int (0 : Int32)) ∧ Fld Z h a "java/lang/String" "hashIsZero" "Z" (.int (0 : Int32))
set_option maxRecDepth 65536 in
set_option maxHeartbeats 40000000 in
theorem rm_strE1 (l : Launch) (Z : State) (a0 : Array Value) (hw : ∀ d ∈ tables_1, d.before a0 Z = true) (ws : List Jvm.Cond) (a : Addr) (c0 : Addr) (kc : ClassId) (vs : List Value) (h0 : Heap) (n0 : Nat) (O0 : Old Z n0 h0) (E_a : Exa Z h0 a "java/lang/String") (F_value_a : Fld Z h0 a "java/lang/String" "value" "[B" .null) (F_coder_a : Fld Z h0 a "java/lang/String" "coder" "B" (.int (0 : Int32))) (g_a : n0 ≤ a) (F_hash_a : Fld Z h0 a "java/lang/String" "hash" "I" (.int (0 : Int32))) (F_hashIsZero_a : Fld Z h0 a "java/lang/String" "hashIsZero" "Z" (.int (0 : Int32))) (V_c0 : Arv Z h0 c0 kc .char (0 : Int32) vs (.int (0 : Int32))) :
    MetFree l (⟨"java/lang/String", "<init>", "([C)V"⟩ : MethodName) (head1 (Jvm.Cond.code (⟨"java/lang/String", "<init>", "([C)V"⟩ : MethodName) jdk_42_method_3_code 2 none :: ws) R_strE1) (fun as_ U => as_ = #[(.ref a), (.ref c0)] ∧ Z.Warmed39 U.vm ∧ U.heap = h0 ∧ CHv Z own_EL U.vm h0) (fun _ _ _ _ _ => True) (fun _ U o U' => ∃ v L, o = .returned v ∧ Q_strE1 Z a c0 kc vs h0 n0 v U'.heap L ∧ CHr Z own_EL U.vm U.heap U'.vm U'.heap ∧ ReturnedEndW U o U' L R_strE1.cells R_strE1.slots) := by
  refine MetFree.of_bodySF (plainFor_of_name pn_0) hisR ?_
  intro p e s m args below meth c s₁ Bd hml0 hP hK
  obtain ⟨rfl, hZ, hh, hC0⟩ := hP
  have hx := Bd.exec
  have hby := Bd.bytes
  have hml : c.maxLocals = 2 := hml0
  have hown : s.vm.findClass "java/lang/String" = some m.cls := findClass_of_methodNamed Bd.named
  have hnm := (name_of_methodNamed Bd.named Bd.method).1
  have hlk : meth.locks = false := BodyLoose.notSynchronized Bd
  have X0 : Stand p l e R_strE1 (s.setVm s.vm) m #[(.ref a), (.ref c0)] below meth c s₁ [] 0 0 := Stand.of_body Bd
  have e0 : s₁.heap = h0 := by rw [← hh, Bd.state]; rfl
  have N0 := Fr.nil n0
  have hS : s.Since s.vm s.heap.size := (State.WarmedH.refl s).since _
  have hk : s.heap.size ≤ h0.size := by rw [← hh]; exact Nat.le_refl _
  have hZ : Z.Warmed39 (s.setVm s.vm).vm := hZ
  have hown : (s.setVm s.vm).vm.findClass "java/lang/String" = some m.cls := hown
  have wS := own_wS hw
  have hC : CHr Z own_EL s.vm h0 s.vm h0 := CHr.refl hC0
  have hEL := own_EW hw
  have SF_a : Safe Z own_EL s.vm h0 a := safeNull hZ.alike E_a F_value_a
  refine enter (P := PQH Z own_EL s R_strE1.cells R_strE1.slots (Q_strE1 Z a c0 kc vs h0 n0)) (ef_strE1 m a c0) ?_
  refine goS (n := 1) (Ls' := #[.val (.ref a), .val (.ref c0)]) (st' := [(.ref a)]) (fun _ kz => XS.aloadN X0.here hx rfl (hb hby d1_0) rfl rfl kz) ?_
  refine goS (n := 2) (Ls' := #[.val (.ref a), .val (.ref c0)]) (st' := [(.ref c0), (.ref a)]) (fun _ kz => XS.aloadN X0.here hx rfl (hb hby d1_1) rfl rfl kz) ?_
  refine goS (n := 3) (Ls' := #[.val (.ref a), .val (.ref c0)]) (st' := [(.int (0 : Int32)), (.ref c0), (.ref a)]) (fun _ kz => XS.iconst X0.here hx rfl (hb hby d1_2) kz) ?_
  refine goS (n := 4) (Ls' := #[.val (.ref a), .val (.ref c0)]) (st' := [(.ref c0), (.int (0 : Int32)), (.ref c0), (.ref a)]) (fun _ kz => XS.aloadN X0.here hx rfl (hb hby d1_3) rfl rfl kz) ?_
  have vv1 := V_c0
  obtain ⟨cl1, Ar1, -, S1, Nn1, -, -⟩ := vv1
  refine goS (n := 5) (Ls' := #[.val (.ref a), .val (.ref c0)]) (st' := [(.int (0 : Int32)), (.int (0 : Int32)), (.ref c0), (.ref a)]) (fun tz kz => X0.arraylength hx (by rw [e0]; exact Ar1.1) (State.isArrayOf_alike hZ.alike Ar1.2.1) (g := (mkF m 4 #[.val (.ref a), .val (.ref c0)] [(.ref c0), (.int (0 : Int32)), (.ref c0), (.ref a)])) rfl rfl (hb hby d1_4) tz (by rw [len_of S1 Nn1]; exact kz)) ?_
  refine goS (n := 6) (Ls' := #[.val (.ref a), .val (.ref c0)]) (st' := [.null, (.int (0 : Int32)), (.int (0 : Int32)), (.ref c0), (.ref a)]) (fun _ kz => XS.aconstNull X0.here hx rfl (hb hby d1_5) kz) ?_
  obtain ⟨vr2, _, ⟨T2, L2, k2, n2⟩, -, X2, hS2, hgr2, ⟨Lc2, hQ2, l2, y2, z2, hCr2⟩, st2⟩ := X0.specialBackS hx (y := (⟨"java/lang/String", "<init>", "([CIILjava/lang/Void;)V"⟩ : MethodName)) rfl hown (mvT hZ (hw _ (List.mem_of_getElem? (i := 10) rfl))) (mvT hZ (hw _ (List.mem_of_getElem? (i := 11) rfl))) (mvT hZ (hw _ (List.mem_of_getElem? (i := 13) rfl))) (by decide) (backOfSH (W := 0) (rm_strE4 l Z a0 hw [] a c0 h0 n0 O0 E_a F_value_a F_coder_a g_a F_hash_a F_hashIsZero_a) hZ (hw _ (List.mem_of_getElem? (i := 13) rfl)) (hw _ (List.mem_of_getElem? (i := 6) rfl)) (by decide) (by decide) hEL hC.1) (g := (mkF m 6 #[.val (.ref a), .val (.ref c0)] [.null, (.int (0 : Int32)), (.int (0 : Int32)), (.ref c0), (.ref a)])) rfl (by rw [hml]; rfl) (Steps.refl _) (a := a) (argsL := [(.ref c0), (.int (0 : Int32)), (.int (0 : Int32)), .null]) (rest := []) (lenOf pd_0 rfl) rfl (by show 2 * 0 + _ ≤ _; exact Nat.le_of_eq rfl) (hb hby d1_6) (fun _ _ => ⟨rfl, e0, (nle rfl), (nle rfl)⟩)
  dsimp only [Pt.U, Pt.locs, Pt.cells, Pt.slots] at X2 l2 y2 z2 st2 hQ2 hS2 hgr2 hCr2
  subst l2 y2 z2
  obtain ⟨X2, hS, hZ, hown⟩ := rebS hS (n1 := s₁.heap.size) (by rw [e0]; exact hk) X2 hS2 hgr2 hZ hown
  have hk : T2.heap.size ≤ T2.heap.size := Nat.le_refl _
  obtain ⟨rfl, t2, kt2, N2q, K2, F_value_a, F_coder_a, V_t2, F_hash_a, F_hashIsZero_a⟩ := hQ2
  have N2 := Fr.app N0 N2q
  have e2 : T2.heap = T2.heap := rfl
  have O2 := O0.keep K2 (allS g_a all0)
  have KK2 : Keep h0 T2.heap [a] := (Keep.refl h0 [a]).trans K2 (allS (Or.inl (List.mem_of_getElem? (i := 0) rfl)) all0)
  have SF_a := CHr.safe hCr2 E_a.lt SF_a
  have hC := hC.trans hCr2
  have E_a : Exa Z T2.heap a "java/lang/String" := E_a.keep K2
  refine goT (n := 9) (Ls' := #[.val (.ref a), .val (.ref c0)]) (st' := []) st2 ?_
  exact goRetVH X2 hx hlk hS (by rw [e2]; exact hk) hZ hEL (by rw [hh, e2]; exact hC) Bd.returns (hb hby d1_9) (nle rfl) (nle rfl) (by rw [e2]; exact ⟨rfl, t2, _, N2, KK2, F_value_a, F_coder_a, V_t2, F_hash_a, F_hashIsZero_a⟩)
theorem d8_0 : decode jdk_30_method_1_code 0 = .ok (.aload_n 0, 1) := by decide +kernel
theorem d8_1 : decode jdk_30_method_1_code 1 = .ok (.invokespecial 1, 3) := by decide +kernel
theorem d8_4 : decode jdk_30_method_1_code 4 = .ok (.return_, 1) := by decide +kernel
theorem pn_1 : plainName "java/lang/Record" = true := by first | (simp [plainName, overriddenIn]; done) | decide +kernel
theorem ef_rec (m : MethodId) (a : Addr) : entryFrame m #[(.ref a)] 1 = mkF m 0 #[.val (.ref a)] [] := by first | (simp [entryFrame, mkF, argsToLocals, Value.category]; done) | rfl
abbrev R_rec : Room := { frames := 1, cells := 0, slots := 0, locals := 12 }
def Q_rec (Z : State) (a : Addr) (h0 : Heap) (n0 : Nat) (v : Option Value) (h : Heap) (L : List Loc) : Prop := v = none ∧ Fr n0 L ∧ h = h0
set_option maxRecDepth 65536 in
set_option maxHeartbeats 40000000 in
theorem rm_rec (l : Launch) (Z : State) (a0 : Array Value) (hw : ∀ d ∈ tables_1, d.before a0 Z = true) (ws : List Jvm.Cond) (a : Addr) (h0 : Heap) (n0 : Nat) (O0 : Old Z n0 h0) :
    MetFree l (⟨"java/lang/Record", "<init>", "()V"⟩ : MethodName) (head1 (Jvm.Cond.code (⟨"java/lang/Record", "<init>", "()V"⟩ : MethodName) jdk_30_method_1_code 1 none :: ws) R_rec) (fun as_ U => as_ = #[(.ref a)] ∧ Z.Warmed39 U.vm ∧ U.heap = h0) (fun _ _ _ _ _ => True) (fun _ U o U' => ∃ v L, o = .returned v ∧ Q_rec Z a h0 n0 v U'.heap L ∧ FrameEnd U o U' L R_rec.cells R_rec.slots) := by
  refine MetFree.of_bodySF (plainFor_of_name pn_1) hisR ?_
  intro p e s m args below meth c s₁ Bd hml0 hP hK
  obtain ⟨rfl, hZ, hh⟩ := hP
  have hx := Bd.exec
  have hby := Bd.bytes
  have hml : c.maxLocals = 1 := hml0
  have hown : s.vm.findClass "java/lang/Record" = some m.cls := findClass_of_methodNamed Bd.named
  have hnm := (name_of_methodNamed Bd.named Bd.method).1
  have hlk : meth.locks = false := BodyLoose.notSynchronized Bd
  have X0 : Stand p l e R_rec s m #[(.ref a)] below meth c s₁ [] 0 0 := Stand.of_body Bd
  have e0 : s₁.heap = h0 := by rw [← hh, Bd.state]; rfl
  have N0 := Fr.nil n0
  refine enter (P := PQ s R_rec.cells R_rec.slots (Q_rec Z a h0 n0)) (ef_rec m a) ?_
  refine goS (n := 1) (Ls' := #[.val (.ref a)]) (st' := [(.ref a)]) (fun _ kz => XS.aloadN X0.here hx rfl (hb hby d8_0) rfl rfl kz) ?_
  obtain ⟨T1, X1, e1, st1⟩ := initO X0 hx hZ hown (hw _ (List.mem_of_getElem? (i := 41) rfl)) (hw _ (List.mem_of_getElem? (i := 15) rfl)) (hw _ (List.mem_of_getElem? (i := 16) rfl)) e0 (g := (mkF m 1 #[.val (.ref a)] [(.ref a)])) rfl (by rw [hml]; rfl) rfl (hb hby d8_1) (by decide) (W := 0) (by show 2 * 0 + _ ≤ _; exact Nat.le_of_eq rfl) (by decide)
  refine goS (n := 4) (Ls' := #[.val (.ref a)]) (st' := []) st1 ?_
  exact goRetV X1 hx hlk Bd.returns (hb hby d8_4) (nle rfl) (nle rfl) (by rw [e1]; exact ⟨rfl, N0, rfl⟩)
theorem d7_0 : decode prog_8_method_1_code 0 = .ok (.aload_n 0, 1) := by decide +kernel
theorem d7_1 : decode prog_8_method_1_code 1 = .ok (.invokespecial 1, 3) := by decide +kernel
theorem pd_1 : parseMethodDescriptor "()V" = some ⟨[], none⟩ := by decide +kernel
theorem d7_4 : decode prog_8_method_1_code 4 = .ok (.aload_n 0, 1) := by decide +kernel
theorem d7_5 : decode prog_8_method_1_code 5 = .ok (.aload_n 1, 1) := by decide +kernel
theorem d7_6 : decode prog_8_method_1_code 6 = .ok (.putfield 7, 3) := by decide +kernel
theorem d7_9 : decode prog_8_method_1_code 9 = .ok (.aload_n 0, 1) := by decide +kernel
theorem d7_10 : decode prog_8_method_1_code 10 = .ok (.iload_n 2, 1) := by decide +kernel
theorem d7_11 : decode prog_8_method_1_code 11 = .ok (.putfield 13, 3) := by decide +kernel
theorem d7_14 : decode prog_8_method_1_code 14 = .ok (.return_, 1) := by decide +kernel
theorem pn_2 : plainName "com/example/thingstead/thingstead/mimir/Treasure" = true := by first | (simp [plainName, overriddenIn]; done) | decide +kernel
theorem ef_init (m : MethodId) (a : Addr) (w : Addr) (x : Int32) : entryFrame m #[(.ref a), (.ref w), (.int x)] 3 = mkF m 0 #[.val (.ref a), .val (.ref w), .val (.int x)] [] := by first | (simp [entryFrame, mkF, argsToLocals, Value.category]; done) | rfl
abbrev R_init : Room := { frames := 2, cells := 0, slots := 0, locals := 24 }
def Q_init (Z : State) (a : Addr) (w : Addr) (x : Int32) (h0 : Heap) (n0 : Nat) (v : Option Value) (h : Heap) (L : List Loc) : Prop := v = none ∧ Fr n0 L ∧ Keep h0 h [a] ∧ Fld Z h a "com/example/thingstead/thingstead/mimir/Treasure" "material" "Ljava/lang/String;" (.ref w) ∧ Fld Z h a "com/example/thingstead/thingstead/mimir/Treasure" "points" "I" (.int x)
set_option maxRecDepth 65536 in
set_option maxHeartbeats 40000000 in
theorem rm_init (l : Launch) (Z : State) (a0 : Array Value) (hw : ∀ d ∈ tables_1, d.before a0 Z = true) (ws : List Jvm.Cond) (a : Addr) (w : Addr) (x : Int32) (h0 : Heap) (n0 : Nat) (O0 : Old Z n0 h0) (E_a : Exa Z h0 a "com/example/thingstead/thingstead/mimir/Treasure") (F_material_a : Fld Z h0 a "com/example/thingstead/thingstead/mimir/Treasure" "material" "Ljava/lang/String;" .null) (F_points_a : Fld Z h0 a "com/example/thingstead/thingstead/mimir/Treasure" "points" "I" (.int (0 : Int32))) (g_a : n0 ≤ a) :
    MetFree l (⟨"com/example/thingstead/thingstead/mimir/Treasure", "<init>", "(Ljava/lang/String;I)V"⟩ : MethodName) (head1 (Jvm.Cond.code (⟨"com/example/thingstead/thingstead/mimir/Treasure", "<init>", "(Ljava/lang/String;I)V"⟩ : MethodName) prog_8_method_1_code 3 none :: ws) R_init) (fun as_ U => as_ = #[(.ref a), (.ref w), (.int x)] ∧ Z.Warmed39 U.vm ∧ U.heap = h0) (fun _ _ _ _ _ => True) (fun _ U o U' => ∃ v L, o = .returned v ∧ Q_init Z a w x h0 n0 v U'.heap L ∧ FrameEnd U o U' L R_init.cells R_init.slots) := by
  refine MetFree.of_bodySF (plainFor_of_name pn_2) hisR ?_
  intro p e s m args below meth c s₁ Bd hml0 hP hK
  obtain ⟨rfl, hZ, hh⟩ := hP
  have hx := Bd.exec
  have hby := Bd.bytes
  have hml : c.maxLocals = 3 := hml0
  have hown : s.vm.findClass "com/example/thingstead/thingstead/mimir/Treasure" = some m.cls := findClass_of_methodNamed Bd.named
  have hnm := (name_of_methodNamed Bd.named Bd.method).1
  have hlk : meth.locks = false := BodyLoose.notSynchronized Bd
  have X0 : Stand p l e R_init s m #[(.ref a), (.ref w), (.int x)] below meth c s₁ [] 0 0 := Stand.of_body Bd
  have e0 : s₁.heap = h0 := by rw [← hh, Bd.state]; rfl
  have N0 := Fr.nil n0
  refine enter (P := PQ s R_init.cells R_init.slots (Q_init Z a w x h0 n0)) (ef_init m a w x) ?_
  refine goS (n := 1) (Ls' := #[.val (.ref a), .val (.ref w), .val (.int x)]) (st' := [(.ref a)]) (fun _ kz => XS.aloadN X0.here hx rfl (hb hby d7_0) rfl rfl kz) ?_
  obtain ⟨vr1, _, ⟨T1, L1, k1, n1⟩, -, X1, ⟨Lc1, hQ1, l1, y1, z1⟩, st1⟩ := X0.specialBack hx (y := (⟨"java/lang/Record", "<init>", "()V"⟩ : MethodName)) rfl hown (mvT hZ (hw _ (List.mem_of_getElem? (i := 36) rfl))) (mvT hZ (hw _ (List.mem_of_getElem? (i := 37) rfl))) (mvT hZ (hw _ (List.mem_of_getElem? (i := 40) rfl))) (by decide) (backOf (W := 0) (rm_rec l Z a0 hw [] a h0 n0 O0) hZ (hw _ (List.mem_of_getElem? (i := 40) rfl)) (hw _ (List.mem_of_getElem? (i := 39) rfl)) (by decide) (by decide)) (g := (mkF m 1 #[.val (.ref a), .val (.ref w), .val (.int x)] [(.ref a)])) rfl (by rw [hml]; rfl) (Steps.refl _) (a := a) (argsL := []) (rest := []) (lenOf pd_1 rfl) rfl (by show 2 * 0 + _ ≤ _; exact Nat.le_of_eq rfl) (hb hby d7_1) (fun _ _ => ⟨rfl, e0, (nle rfl), (nle rfl)⟩)
  dsimp only [Pt.U, Pt.locs, Pt.cells, Pt.slots] at X1 l1 y1 z1 st1 hQ1
  subst l1 y1 z1
  obtain ⟨rfl, N1q, e1⟩ := hQ1
  have N1 := Fr.app N0 N1q
  refine goT (n := 4) (Ls' := #[.val (.ref a), .val (.ref w), .val (.int x)]) (st' := []) st1 ?_
  refine goS (n := 5) (Ls' := #[.val (.ref a), .val (.ref w), .val (.int x)]) (st' := [(.ref a)]) (fun _ kz => XS.aloadN X1.here hx rfl (hb hby d7_4) rfl rfl kz) ?_
  refine goS (n := 6) (Ls' := #[.val (.ref a), .val (.ref w), .val (.int x)]) (st' := [(.ref w), (.ref a)]) (fun _ kz => XS.aloadN X1.here hx rfl (hb hby d7_5) rfl rfl kz) ?_
  obtain ⟨T2, h2, X2, e2, W2, st2⟩ := putF X1 hx hZ hown (host := "") (Or.inl (hw _ (List.mem_of_getElem? (i := 42) rfl))) Via.refl e1 F_material_a E_a (Or.inr ⟨(hw _ (List.mem_of_getElem? (i := 43) rfl)), rfl, hnm⟩) (hw _ (List.mem_of_getElem? (i := 2) rfl)) (ty := (.object "java/lang/String")) (v := (.ref w)) (by decide) rfl rfl (g := (mkF m 6 #[.val (.ref a), .val (.ref w), .val (.int x)] [(.ref w), (.ref a)])) rfl rfl (hb hby d7_6)
  have Fn2 : Fld Z h2 a "com/example/thingstead/thingstead/mimir/Treasure" "material" "Ljava/lang/String;" (.ref w) := F_material_a.same W2
  have E_a : Exa Z h2 a "com/example/thingstead/thingstead/mimir/Treasure" := E_a.wr W2
  have F_points_a : Fld Z h2 a "com/example/thingstead/thingstead/mimir/Treasure" "points" "I" (.int (0 : Int32)) := F_points_a.other W2 (Or.inr (slot_ne (Or.inr (hw _ (List.mem_of_getElem? (i := 45) rfl))) (Or.inr (hw _ (List.mem_of_getElem? (i := 43) rfl))) (by decide) (t := .int) (t' := (.object "java/lang/String")) (by decide) (by decide)))
  have F_material_a := Fn2
  have N2 := Fr.snoc X2 N1 g_a
  have O2 := O0.wr W2 g_a
  have KK2 : Keep h0 h2 [a] := (Keep.refl h0 [a]).wr W2 (Or.inl (List.mem_of_getElem? (i := 0) rfl))
  refine goS (n := 9) (Ls' := #[.val (.ref a), .val (.ref w), .val (.int x)]) (st' := []) st2 ?_
  refine goS (n := 10) (Ls' := #[.val (.ref a), .val (.ref w), .val (.int x)]) (st' := [(.ref a)]) (fun _ kz => XS.aloadN X2.here hx rfl (hb hby d7_9) rfl rfl kz) ?_
  refine goS (n := 11) (Ls' := #[.val (.ref a), .val (.ref w), .val (.int x)]) (st' := [(.int x), (.ref a)]) (fun _ kz => XS.iloadN X2.here hx rfl (hb hby d7_10) rfl kz) ?_
  obtain ⟨T3, h3, X3, e3, W3, st3⟩ := putF X2 hx hZ hown (host := "") (Or.inl (hw _ (List.mem_of_getElem? (i := 44) rfl))) Via.refl e2 F_points_a E_a (Or.inr ⟨(hw _ (List.mem_of_getElem? (i := 45) rfl)), rfl, hnm⟩) (hw _ (List.mem_of_getElem? (i := 2) rfl)) (ty := .int) (v := (.int x)) (by decide) rfl rfl (g := (mkF m 11 #[.val (.ref a), .val (.ref w), .val (.int x)] [(.int x), (.ref a)])) rfl rfl (hb hby d7_11)
  have Fn3 : Fld Z h3 a "com/example/thingstead/thingstead/mimir/Treasure" "points" "I" (.int x) := F_points_a.same W3
  have E_a : Exa Z h3 a "com/example/thingstead/thingstead/mimir/Treasure" := E_a.wr W3
  have F_material_a : Fld Z h3 a "com/example/thingstead/thingstead/mimir/Treasure" "material" "Ljava/lang/String;" (.ref w) := F_material_a.other W3 (Or.inr (slot_ne (Or.inr (hw _ (List.mem_of_getElem? (i := 43) rfl))) (Or.inr (hw _ (List.mem_of_getElem? (i := 45) rfl))) (by decide) (t := (.object "java/lang/String")) (t' := .int) (by decide) (by decide)))
  have F_points_a := Fn3
  have N3 := Fr.snoc X3 N2 g_a
  have O3 := O2.wr W3 g_a
  have KK3 : Keep h0 h3 [a] := KK2.wr W3 (Or.inl (List.mem_of_getElem? (i := 0) rfl))
  refine goS (n := 14) (Ls' := #[.val (.ref a), .val (.ref w), .val (.int x)]) (st' := []) st3 ?_
  exact goRetV X3 hx hlk Bd.returns (hb hby d7_14) (nle rfl) (nle rfl) (by rw [e3]; exact ⟨rfl, N3, KK3, F_material_a, F_points_a⟩)
theorem d11_0 : decode jdk_42_method_154_code 0 = .ok (.getstatic 38, 3) := by decide +kernel
theorem d11_3 : decode jdk_42_method_154_code 3 = .ok (.ifCond .eq 14, 3) := by decide +kernel
theorem d11_6 : decode jdk_42_method_154_code 6 = .ok (.aload_n 0, 1) := by decide +kernel
theorem d11_7 : decode jdk_42_method_154_code 7 = .ok (.getfield 15, 3) := by decide +kernel
theorem d11_10 : decode jdk_42_method_154_code 10 = .ok (.ifCond .ne 7, 3) := by decide +kernel
theorem d11_13 : decode jdk_42_method_154_code 13 = .ok (.iconst 1, 1) := by decide +kernel
theorem d11_14 : decode jdk_42_method_154_code 14 = .ok (.goto 4, 3) := by decide +kernel
theorem d11_18 : decode jdk_42_method_154_code 18 = .ok (.ireturn, 1) := by decide +kernel
theorem ef_isl (m : MethodId) (a : Addr) : entryFrame m #[(.ref a)] 1 = mkF m 0 #[.val (.ref a)] [] := by first | (simp [entryFrame, mkF, argsToLocals, Value.category]; done) | rfl
abbrev R_isl : Room := { frames := 0, cells := 0, slots := 0, locals := 0 }
def Q_isl (Z : State) (a : Addr) (cs : Int32) (h0 : Heap) (n0 : Nat) (v : Option Value) (h : Heap) (L : List Loc) : Prop := v = some (.int 1) ∧ Fr n0 L ∧ h = h0
set_option maxRecDepth 65536 in
set_option maxHeartbeats 40000000 in
theorem rm_isl (l : Launch) (Z : State) (a0 : Array Value) (hw : ∀ d ∈ tables_1, d.before a0 Z = true) (ws : List Jvm.Cond) (a : Addr) (cs : Int32) (h0 : Heap) (n0 : Nat) (O0 : Old Z n0 h0) (S_CS : Sta Z Z.heap "java/lang/String" "COMPACT_STRINGS" "Z" (.int cs)) (hcs : ¬ cs = (0 : Int32)) (F_c : Fld Z h0 a "java/lang/String" "coder" "B" (.int (0 : Int32))) :
    MetFree l (⟨"java/lang/String", "isLatin1", "()Z"⟩ : MethodName) (head1 (Jvm.Cond.code (⟨"java/lang/String", "isLatin1", "()Z"⟩ : MethodName) jdk_42_method_154_code 1 (some .boolean) :: ws) R_isl) (fun as_ U => as_ = #[(.ref a)] ∧ Z.Warmed39 U.vm ∧ U.heap = h0) (fun _ _ _ _ _ => True) (fun _ U o U' => ∃ v L, o = .returned v ∧ Q_isl Z a cs h0 n0 v U'.heap L ∧ FrameEnd U o U' L R_isl.cells R_isl.slots) := by
  refine MetFree.of_bodySF (plainFor_of_name pn_0) hisR ?_
  intro p e s m args below meth c s₁ Bd hml0 hP hK
  obtain ⟨rfl, hZ, hh⟩ := hP
  have hx := Bd.exec
  have hby := Bd.bytes
  have hml : c.maxLocals = 1 := hml0
  have hown : s.vm.findClass "java/lang/String" = some m.cls := findClass_of_methodNamed Bd.named
  have hnm := (name_of_methodNamed Bd.named Bd.method).1
  have hlk : meth.locks = false := BodyLoose.notSynchronized Bd
  have X0 : Stand p l e R_isl s m #[(.ref a)] below meth c s₁ [] 0 0 := Stand.of_body Bd
  have e0 : s₁.heap = h0 := by rw [← hh, Bd.state]; rfl
  have N0 := Fr.nil n0
  refine enter (P := PQ s R_isl.cells R_isl.slots (Q_isl Z a cs h0 n0)) (ef_isl m a) ?_
  obtain ⟨T1, X1, e1, st1⟩ := getS2 X0 hx hZ hown (host := "") (Or.inl (hw _ (List.mem_of_getElem? (i := 17) rfl))) Via.refl e0 (S_CS.ext O0.2) (g := (mkF m 0 #[.val (.ref a)] [])) rfl (hb hby d11_0)
  refine goS (n := 3) (Ls' := #[.val (.ref a)]) (st' := [(.int cs)]) st1 ?_
  refine goS (n := 6) (Ls' := #[.val (.ref a)]) (st' := []) (fun _ kz => XS.ifNo X1.here hx rfl (hb hby d11_3) rfl ((if0 _ _).trans (feq hcs).1) kz) ?_
  refine goS (n := 7) (Ls' := #[.val (.ref a)]) (st' := [(.ref a)]) (fun _ kz => XS.aloadN X1.here hx rfl (hb hby d11_6) rfl rfl kz) ?_
  obtain ⟨T2, X2, e2, st2⟩ := getF X1 hx hZ hown (host := "") (Or.inl (hw _ (List.mem_of_getElem? (i := 29) rfl))) Via.refl e1 F_c (g := (mkF m 7 #[.val (.ref a)] [(.ref a)])) rfl rfl (hb hby d11_7)
  refine goS (n := 10) (Ls' := #[.val (.ref a)]) (st' := [(.int (0 : Int32))]) st2 ?_
  refine goS (n := 13) (Ls' := #[.val (.ref a)]) (st' := []) (fun _ kz => XS.ifNo X2.here hx rfl (hb hby d11_10) rfl (by decide) kz) ?_
  refine goS (n := 14) (Ls' := #[.val (.ref a)]) (st' := [(.int (1 : Int32))]) (fun _ kz => XS.iconst X2.here hx rfl (hb hby d11_13) kz) ?_
  refine goS (n := 18) (Ls' := #[.val (.ref a)]) (st' := [(.int (1 : Int32))]) (fun _ kz => XS.goto X2.here hx rfl (pc0 := 14) (pc' := 18) rfl (hb hby d11_14) (by decide) (by decide) kz) ?_
  exact goRetZ X2 hx hlk Bd.returns (Or.inr rfl) (hb hby d11_18) (nle rfl) (nle rfl) (by rw [e2]; exact ⟨rfl, N0, rfl⟩)
theorem d12_0 : decode jdk_43_method_21_code 0 = .ok (.aload_n 0, 1) := by decide +kernel
theorem d12_1 : decode jdk_43_method_21_code 1 = .ok (.arraylength, 1) := by decide +kernel
theorem d12_2 : decode jdk_43_method_21_code 2 = .ok (.lookupswitch 40 #[(0, 26), (1, 30)], 26) := by decide +kernel
theorem d12_28 : decode jdk_43_method_21_code 28 = .ok (.iconst 0, 1) := by decide +kernel
theorem d12_29 : decode jdk_43_method_21_code 29 = .ok (.goto 22, 3) := by decide +kernel
theorem d12_51 : decode jdk_43_method_21_code 51 = .ok (.ireturn, 1) := by decide +kernel
theorem pn_3 : plainName "java/lang/StringLatin1" = true := by first | (simp [plainName, overriddenIn]; done) | decide +kernel
theorem ef_lh0 (m : MethodId) (t : Addr) : entryFrame m #[(.ref t)] 1 = mkF m 0 #[.val (.ref t)] [] := by first | (simp [entryFrame, mkF, argsToLocals, Value.category]; done) | rfl
abbrev R_lh0 : Room := { frames := 0, cells := 0, slots := 0, locals := 0 }
def Q_lh0 (Z : State) (t : Addr) (k : ClassId) (h0 : Heap) (n0 : Nat) (v : Option Value) (h : Heap) (L : List Loc) : Prop := v = some (.int (0 : Int32)) ∧ Fr n0 L ∧ h = h0
set_option maxRecDepth 65536 in
set_option maxHeartbeats 40000000 in
theorem rm_lh0 (l : Launch) (Z : State) (a0 : Array Value) (hw : ∀ d ∈ tables_1, d.before a0 Z = true) (ws : List Jvm.Cond) (t : Addr) (k : ClassId) (h0 : Heap) (n0 : Nat) (O0 : Old Z n0 h0) (V_t : Arv Z h0 t k .byte (0 : Int32) [] (.int (0 : Int32))) :
    MetFree l (⟨"java/lang/StringLatin1", "hashCode", "([B)I"⟩ : MethodName) (head1 (Jvm.Cond.code (⟨"java/lang/StringLatin1", "hashCode", "([B)I"⟩ : MethodName) jdk_43_method_21_code 1 (some .int) :: ws) R_lh0) (fun as_ U => as_ = #[(.ref t)] ∧ Z.Warmed39 U.vm ∧ U.heap = h0) (fun _ _ _ _ _ => True) (fun _ U o U' => ∃ v L, o = .returned v ∧ Q_lh0 Z t k h0 n0 v U'.heap L ∧ FrameEnd U o U' L R_lh0.cells R_lh0.slots) := by
  refine MetFree.of_bodySF (plainFor_of_name pn_3) hisR ?_
  intro p e s m args below meth c s₁ Bd hml0 hP hK
  obtain ⟨rfl, hZ, hh⟩ := hP
  have hx := Bd.exec
  have hby := Bd.bytes
  have hml : c.maxLocals = 1 := hml0
  have hown : s.vm.findClass "java/lang/StringLatin1" = some m.cls := findClass_of_methodNamed Bd.named
  have hnm := (name_of_methodNamed Bd.named Bd.method).1
  have hlk : meth.locks = false := BodyLoose.notSynchronized Bd
  have X0 : Stand p l e R_lh0 s m #[(.ref t)] below meth c s₁ [] 0 0 := Stand.of_body Bd
  have e0 : s₁.heap = h0 := by rw [← hh, Bd.state]; rfl
  have N0 := Fr.nil n0
  refine enter (P := PQ s R_lh0.cells R_lh0.slots (Q_lh0 Z t k h0 n0)) (ef_lh0 m t) ?_
  refine goS (n := 1) (Ls' := #[.val (.ref t)]) (st' := [(.ref t)]) (fun _ kz => XS.aloadN X0.here hx rfl (hb hby d12_0) rfl rfl kz) ?_
  have vv1 := V_t
  obtain ⟨cl1, Ar1, -, S1, Nn1, -, -⟩ := vv1
  refine goS (n := 2) (Ls' := #[.val (.ref t)]) (st' := [(.int (0 : Int32))]) (fun tz kz => X0.arraylength hx (by rw [e0]; exact Ar1.1) (State.isArrayOf_alike hZ.alike Ar1.2.1) (g := (mkF m 1 #[.val (.ref t)] [(.ref t)])) rfl rfl (hb hby d12_1) tz (by rw [len_of S1 Nn1]; exact kz)) ?_
  refine goS (n := 28) (Ls' := #[.val (.ref t)]) (st' := []) (fun _ kz => lsw (g := (mkF m 2 #[.val (.ref t)] [(.int (0 : Int32))])) X0 hx rfl (pc0 := 2) (pc' := 28) rfl (o := 26) (hb hby d12_2) rfl (by intro a b c d h; revert h; simp; try omega) (Or.inl ⟨0, rfl⟩) (by decide) (by decide) kz) ?_
  refine goS (n := 29) (Ls' := #[.val (.ref t)]) (st' := [(.int (0 : Int32))]) (fun _ kz => XS.iconst X0.here hx rfl (hb hby d12_28) kz) ?_
  refine goS (n := 51) (Ls' := #[.val (.ref t)]) (st' := [(.int (0 : Int32))]) (fun _ kz => XS.goto X0.here hx rfl (pc0 := 29) (pc' := 51) rfl (hb hby d12_29) (by decide) (by decide) kz) ?_
  exact goRetI X0 hx hlk Bd.returns (hb hby d12_51) (nle rfl) (nle rfl) (by rw [e0]; exact ⟨rfl, N0, rfl⟩)
theorem d10_0 : decode jdk_42_method_78_code 0 = .ok (.aload_n 0, 1) := by decide +kernel
theorem d10_1 : decode jdk_42_method_78_code 1 = .ok (.getfield 19, 3) := by decide +kernel
theorem d10_4 : decode jdk_42_method_78_code 4 = .ok (.istore_n 1, 1) := by decide +kernel
theorem d10_5 : decode jdk_42_method_78_code 5 = .ok (.iload_n 1, 1) := by decide +kernel
theorem d10_6 : decode jdk_42_method_78_code 6 = .ok (.ifCond .ne 52, 3) := by decide +kernel
theorem d10_9 : decode jdk_42_method_78_code 9 = .ok (.aload_n 0, 1) := by decide +kernel
theorem d10_10 : decode jdk_42_method_78_code 10 = .ok (.getfield 23, 3) := by decide +kernel
theorem d10_13 : decode jdk_42_method_78_code 13 = .ok (.ifCond .ne 45, 3) := by decide +kernel
theorem d10_16 : decode jdk_42_method_78_code 16 = .ok (.aload_n 0, 1) := by decide +kernel
theorem d10_17 : decode jdk_42_method_78_code 17 = .ok (.invokevirtual 492, 3) := by decide +kernel
theorem pd_2 : parseMethodDescriptor "()Z" = some ⟨[], some .boolean⟩ := by decide +kernel
theorem d10_20 : decode jdk_42_method_78_code 20 = .ok (.ifCond .eq 13, 3) := by decide +kernel
theorem d10_23 : decode jdk_42_method_78_code 23 = .ok (.aload_n 0, 1) := by decide +kernel
theorem d10_24 : decode jdk_42_method_78_code 24 = .ok (.getfield 9, 3) := by decide +kernel
theorem d10_27 : decode jdk_42_method_78_code 27 = .ok (.invokestatic 628, 3) := by decide +kernel
theorem pd_3 : parseMethodDescriptor "([B)I" = some ⟨[(.array .byte)], some .int⟩ := by decide +kernel
theorem d10_30 : decode jdk_42_method_78_code 30 = .ok (.goto 10, 3) := by decide +kernel
theorem d10_40 : decode jdk_42_method_78_code 40 = .ok (.istore_n 1, 1) := by decide +kernel
theorem d10_41 : decode jdk_42_method_78_code 41 = .ok (.iload_n 1, 1) := by decide +kernel
theorem d10_42 : decode jdk_42_method_78_code 42 = .ok (.ifCond .ne 11, 3) := by decide +kernel
theorem d10_45 : decode jdk_42_method_78_code 45 = .ok (.aload_n 0, 1) := by decide +kernel
theorem d10_46 : decode jdk_42_method_78_code 46 = .ok (.iconst 1, 1) := by decide +kernel
theorem d10_47 : decode jdk_42_method_78_code 47 = .ok (.putfield 23, 3) := by decide +kernel
theorem d10_50 : decode jdk_42_method_78_code 50 = .ok (.goto 8, 3) := by decide +kernel
theorem d10_58 : decode jdk_42_method_78_code 58 = .ok (.iload_n 1, 1) := by decide +kernel
theorem d10_59 : decode jdk_42_method_78_code 59 = .ok (.ireturn, 1) := by decide +kernel
theorem ef_hc0 (m : MethodId) (a : Addr) : entryFrame m #[(.ref a)] 2 = mkF m 0 #[.val (.ref a), .unset] [] := by first | (simp [entryFrame, mkF, argsToLocals, Value.category]; done) | rfl
abbrev R_hc0 : Room := { frames := 1, cells := 0, slots := 0, locals := 12 }
def Q_hc0 (Z : State) (a : Addr) (cs : Int32) (t : Addr) (k : ClassId) (h0 : Heap) (n0 : Nat) (v : Option Value) (h : Heap) (L : List Loc) : Prop := v = some (.int (0 : Int32)) ∧ Fr n0 L ∧ Keep h0 h [a]
set_option maxRecDepth 65536 in
set_option maxHeartbeats 40000000 in
theorem rm_hc0 (l : Launch) (Z : State) (a0 : Array Value) (hw : ∀ d ∈ tables_1, d.before a0 Z = true) (ws : List Jvm.Cond) (a : Addr) (cs : Int32) (t : Addr) (k : ClassId) (h0 : Heap) (n0 : Nat) (O0 : Old Z n0 h0) (S_CS : Sta Z Z.heap "java/lang/String" "COMPACT_STRINGS" "Z" (.int cs)) (hcs : ¬ cs = (0 : Int32)) (E_a : Exa Z h0 a "java/lang/String") (F_value_a : Fld Z h0 a "java/lang/String" "value" "[B" (.ref t)) (F_coder_a : Fld Z h0 a "java/lang/String" "coder" "B" (.int (0 : Int32))) (F_hash_a : Fld Z h0 a "java/lang/String" "hash" "I" (.int (0 : Int32))) (F_hashIsZero_a : Fld Z h0 a "java/lang/String" "hashIsZero" "Z" (.int (0 : Int32))) (V_t : Arv Z h0 t k .byte (0 : Int32) [] (.int (0 : Int32))) (g_a : n0 ≤ a) :
    MetFree l (⟨"java/lang/String", "hashCode", "()I"⟩ : MethodName) (head1 (Jvm.Cond.code (⟨"java/lang/String", "hashCode", "()I"⟩ : MethodName) jdk_42_method_78_code 2 (some .int) :: ws) R_hc0) (fun as_ U => as_ = #[(.ref a)] ∧ Z.Warmed39 U.vm ∧ U.heap = h0) (fun _ _ _ _ _ => True) (fun _ U o U' => ∃ v L, o = .returned v ∧ Q_hc0 Z a cs t k h0 n0 v U'.heap L ∧ FrameEnd U o U' L R_hc0.cells R_hc0.slots) := by
  refine MetFree.of_bodySF (plainFor_of_name pn_0) hisR ?_
  intro p e s m args below meth c s₁ Bd hml0 hP hK
  obtain ⟨rfl, hZ, hh⟩ := hP
  have hx := Bd.exec
  have hby := Bd.bytes
  have hml : c.maxLocals = 2 := hml0
  have hown : s.vm.findClass "java/lang/String" = some m.cls := findClass_of_methodNamed Bd.named
  have hnm := (name_of_methodNamed Bd.named Bd.method).1
  have hlk : meth.locks = false := BodyLoose.notSynchronized Bd
  have X0 : Stand p l e R_hc0 s m #[(.ref a)] below meth c s₁ [] 0 0 := Stand.of_body Bd
  have e0 : s₁.heap = h0 := by rw [← hh, Bd.state]; rfl
  have N0 := Fr.nil n0
  refine enter (P := PQ s R_hc0.cells R_hc0.slots (Q_hc0 Z a cs t k h0 n0)) (ef_hc0 m a) ?_
  refine goS (n := 1) (Ls' := #[.val (.ref a), .unset]) (st' := [(.ref a)]) (fun _ kz => XS.aloadN X0.here hx rfl (hb hby d10_0) rfl rfl kz) ?_
  obtain ⟨T1, X1, e1, st1⟩ := getF X0 hx hZ hown (host := "") (Or.inl (hw _ (List.mem_of_getElem? (i := 56) rfl))) Via.refl e0 F_hash_a (g := (mkF m 1 #[.val (.ref a), .unset] [(.ref a)])) rfl rfl (hb hby d10_1)
  refine goS (n := 4) (Ls' := #[.val (.ref a), .unset]) (st' := [(.int (0 : Int32))]) st1 ?_
  refine goS (n := 5) (Ls' := #[.val (.ref a), .val (.int (0 : Int32))]) (st' := []) (fun _ kz => XS.istoreN X1.here hx rfl (hb hby d10_4) rfl (l' := #[.val (.ref a), .val (.int (0 : Int32))]) rfl kz) ?_
  refine goS (n := 6) (Ls' := #[.val (.ref a), .val (.int (0 : Int32))]) (st' := [(.int (0 : Int32))]) (fun _ kz => XS.iloadN X1.here hx rfl (hb hby d10_5) rfl kz) ?_
  refine goS (n := 9) (Ls' := #[.val (.ref a), .val (.int (0 : Int32))]) (st' := []) (fun _ kz => XS.ifNo X1.here hx rfl (hb hby d10_6) rfl (by decide) kz) ?_
  refine goS (n := 10) (Ls' := #[.val (.ref a), .val (.int (0 : Int32))]) (st' := [(.ref a)]) (fun _ kz => XS.aloadN X1.here hx rfl (hb hby d10_9) rfl rfl kz) ?_
  obtain ⟨T2, X2, e2, st2⟩ := getF X1 hx hZ hown (host := "") (Or.inl (hw _ (List.mem_of_getElem? (i := 58) rfl))) Via.refl e1 F_hashIsZero_a (g := (mkF m 10 #[.val (.ref a), .val (.int (0 : Int32))] [(.ref a)])) rfl rfl (hb hby d10_10)
  refine goS (n := 13) (Ls' := #[.val (.ref a), .val (.int (0 : Int32))]) (st' := [(.int (0 : Int32))]) st2 ?_
  refine goS (n := 16) (Ls' := #[.val (.ref a), .val (.int (0 : Int32))]) (st' := []) (fun _ kz => XS.ifNo X2.here hx rfl (hb hby d10_13) rfl (by decide) kz) ?_
  refine goS (n := 17) (Ls' := #[.val (.ref a), .val (.int (0 : Int32))]) (st' := [(.ref a)]) (fun _ kz => XS.aloadN X2.here hx rfl (hb hby d10_16) rfl rfl kz) ?_
  obtain ⟨cq3, kq3, q3a, q3b, q3c⟩ := isOf hZ e2 E_a
  obtain ⟨vr3, _, ⟨T3, L3, k3, n3⟩, -, X3, ⟨Lc3, hQ3, l3, y3, z3⟩, st3⟩ := X2.virtualBack hx (y := (⟨"java/lang/String", "isLatin1", "()Z"⟩ : MethodName)) (z := (⟨"java/lang/String", "isLatin1", "()Z"⟩ : MethodName)) hown (mvT hZ (hw _ (List.mem_of_getElem? (i := 60) rfl))) (mvT hZ (hw _ (List.mem_of_getElem? (i := 61) rfl))) (notFace_of_selects (args := #[]) (mvT hZ (hw _ (List.mem_of_getElem? (i := 63) rfl)))) (mvT hZ (hw _ (List.mem_of_getElem? (i := 63) rfl))) (mvT hZ (hw _ (List.mem_of_getElem? (i := 62) rfl))) (by decide) (backOf (W := 0) (rm_isl l Z a0 hw [] a cs h0 n0 O0 S_CS hcs F_coder_a) hZ (hw _ (List.mem_of_getElem? (i := 64) rfl)) (hw _ (List.mem_of_getElem? (i := 6) rfl)) (by decide) (by decide)) q3a q3c (g := (mkF m 17 #[.val (.ref a), .val (.int (0 : Int32))] [(.ref a)])) rfl (by rw [hml]; rfl) (Steps.refl _) (argsL := []) (rest := []) (lenOf pd_2 rfl) rfl (by show 2 * 0 + _ ≤ _; exact Nat.le_of_eq rfl) (hb hby d10_17) (fun _ _ => ⟨rfl, e2, (nle rfl), (nle rfl)⟩)
  dsimp only [Pt.U, Pt.locs, Pt.cells, Pt.slots] at X3 l3 y3 z3 st3 hQ3
  subst l3 y3 z3
  obtain ⟨rfl, N3q, e3⟩ := hQ3
  have N3 := Fr.app N0 N3q
  refine goT (n := 20) (Ls' := #[.val (.ref a), .val (.int (0 : Int32))]) (st' := [(.int (1 : Int32))]) st3 ?_
  refine goS (n := 23) (Ls' := #[.val (.ref a), .val (.int (0 : Int32))]) (st' := []) (fun _ kz => XS.ifNo X3.here hx rfl (hb hby d10_20) rfl (by decide) kz) ?_
  refine goS (n := 24) (Ls' := #[.val (.ref a), .val (.int (0 : Int32))]) (st' := [(.ref a)]) (fun _ kz => XS.aloadN X3.here hx rfl (hb hby d10_23) rfl rfl kz) ?_
  obtain ⟨T4, X4, e4, st4⟩ := getF X3 hx hZ hown (host := "") (Or.inl (hw _ (List.mem_of_getElem? (i := 31) rfl))) Via.refl e3 F_value_a (g := (mkF m 24 #[.val (.ref a), .val (.int (0 : Int32))] [(.ref a)])) rfl rfl (hb hby d10_24)
  refine goS (n := 27) (Ls' := #[.val (.ref a), .val (.int (0 : Int32))]) (st' := [(.ref t)]) st4 ?_
  obtain ⟨vr5, _, ⟨T5, L5, k5, n5⟩, -, X5, ⟨Lc5, hQ5, l5, y5, z5⟩, st5⟩ := Jvm.LawKit.callS X4 hx (y := (⟨"java/lang/StringLatin1", "hashCode", "([B)I"⟩ : MethodName)) hown (mvT hZ (hw _ (List.mem_of_getElem? (i := 65) rfl))) (mvT hZ (hw _ (List.mem_of_getElem? (i := 66) rfl))) (mvT hZ (hw _ (List.mem_of_getElem? (i := 67) rfl))) (mvT hZ (hw _ (List.mem_of_getElem? (i := 68) rfl))) (by decide) (backOf (W := 0) (rm_lh0 l Z a0 hw [] t k h0 n0 O0 V_t) hZ (hw _ (List.mem_of_getElem? (i := 68) rfl)) (hw _ (List.mem_of_getElem? (i := 67) rfl)) (by decide) (by decide)) (g := (mkF m 27 #[.val (.ref a), .val (.int (0 : Int32))] [(.ref t)])) rfl (by rw [hml]; rfl) (argsL := [(.ref t)]) (rest := []) (lenOf pd_3 rfl) rfl (by show 2 * 0 + _ ≤ _; exact Nat.le_of_eq rfl) (hb hby d10_27) (fun _ _ => ⟨rfl, e4, (nle rfl), (nle rfl)⟩)
  dsimp only [Pt.U, Pt.locs, Pt.cells, Pt.slots] at X5 l5 y5 z5 st5 hQ5
  subst l5 y5 z5
  obtain ⟨rfl, N5q, e5⟩ := hQ5
  have N5 := Fr.app N3 N5q
  refine goS (n := 30) (Ls' := #[.val (.ref a), .val (.int (0 : Int32))]) (st' := [(.int (0 : Int32))]) st5 ?_
  refine goS (n := 40) (Ls' := #[.val (.ref a), .val (.int (0 : Int32))]) (st' := [(.int (0 : Int32))]) (fun _ kz => XS.goto X5.here hx rfl (pc0 := 30) (pc' := 40) rfl (hb hby d10_30) (by decide) (by decide) kz) ?_
  refine goS (n := 41) (Ls' := #[.val (.ref a), .val (.int (0 : Int32))]) (st' := []) (fun _ kz => XS.istoreN X5.here hx rfl (hb hby d10_40) rfl (l' := #[.val (.ref a), .val (.int (0 : Int32))]) rfl kz) ?_
  refine goS (n := 42) (Ls' := #[.val (.ref a), .val (.int (0 : Int32))]) (st' := [(.int (0 : Int32))]) (fun _ kz => XS.iloadN X5.here hx rfl (hb hby d10_41) rfl kz) ?_
  refine goS (n := 45) (Ls' := #[.val (.ref a), .val (.int (0 : Int32))]) (st' := []) (fun _ kz => XS.ifNo X5.here hx rfl (hb hby d10_42) rfl (by decide) kz) ?_
  refine goS (n := 46) (Ls' := #[.val (.ref a), .val (.int (0 : Int32))]) (st' := [(.ref a)]) (fun _ kz => XS.aloadN X5.here hx rfl (hb hby d10_45) rfl rfl kz) ?_
  refine goS (n := 47) (Ls' := #[.val (.ref a), .val (.int (0 : Int32))]) (st' := [(.int (1 : Int32)), (.ref a)]) (fun _ kz => XS.iconst X5.here hx rfl (hb hby d10_46) kz) ?_
  obtain ⟨T6, h6, X6, e6, W6, st6⟩ := putFN X5 hx hZ hown (hw _ (List.mem_of_getElem? (i := 58) rfl)) Via.refl e5 F_hashIsZero_a E_a (Or.inl (hw _ (List.mem_of_getElem? (i := 59) rfl))) (hw _ (List.mem_of_getElem? (i := 5) rfl)) (ty := .boolean) (v' := (.int (1 : Int32))) (by decide) rfl rfl (g := (mkF m 47 #[.val (.ref a), .val (.int (0 : Int32))] [(.int (1 : Int32)), (.ref a)])) rfl rfl (hb hby d10_47)
  have Fn6 : Fld Z h6 a "java/lang/String" "hashIsZero" "Z" (.int (1 : Int32)) := F_hashIsZero_a.same W6
  have ne7 : a ≠ t := neEA E_a (hw _ (List.mem_of_getElem? (i := 5) rfl)) V_t
  have E_a : Exa Z h6 a "java/lang/String" := E_a.wr W6
  have F_value_a : Fld Z h6 a "java/lang/String" "value" "[B" (.ref t) := F_value_a.other W6 (Or.inr (slot_ne (Or.inr (hw _ (List.mem_of_getElem? (i := 32) rfl))) (Or.inl (hw _ (List.mem_of_getElem? (i := 59) rfl))) (by decide) (t := (.array .byte)) (t' := .boolean) (by decide) (by decide)))
  have F_coder_a : Fld Z h6 a "java/lang/String" "coder" "B" (.int (0 : Int32)) := F_coder_a.other W6 (Or.inr (slot_ne (Or.inr (hw _ (List.mem_of_getElem? (i := 30) rfl))) (Or.inl (hw _ (List.mem_of_getElem? (i := 59) rfl))) (by decide) (t := .byte) (t' := .boolean) (by decide) (by decide)))
  have F_hash_a : Fld Z h6 a "java/lang/String" "hash" "I" (.int (0 : Int32)) := F_hash_a.other W6 (Or.inr (slot_ne (Or.inl (hw _ (List.mem_of_getElem? (i := 57) rfl))) (Or.inl (hw _ (List.mem_of_getElem? (i := 59) rfl))) (by decide) (t := .int) (t' := .boolean) (by decide) (by decide)))
  have V_t : Arv Z h6 t k .byte (0 : Int32) [] (.int (0 : Int32)) := V_t.other W6 (Ne.symm ne7)
  have F_hashIsZero_a := Fn6
  have N6 := Fr.snoc X6 N5 g_a
  have O6 := O0.wr W6 g_a
  have KK6 : Keep h0 h6 [a] := (Keep.refl h0 [a]).wr W6 (Or.inl (List.mem_of_getElem? (i := 0) rfl))
  refine goS (n := 50) (Ls' := #[.val (.ref a), .val (.int (0 : Int32))]) (st' := []) st6 ?_
  refine goS (n := 58) (Ls' := #[.val (.ref a), .val (.int (0 : Int32))]) (st' := []) (fun _ kz => XS.goto X6.here hx rfl (pc0 := 50) (pc' := 58) rfl (hb hby d10_50) (by decide) (by decide) kz) ?_
  refine goS (n := 59) (Ls' := #[.val (.ref a), .val (.int (0 : Int32))]) (st' := [(.int (0 : Int32))]) (fun _ kz => XS.iloadN X6.here hx rfl (hb hby d10_58) rfl kz) ?_
  exact goRetI X6 hx hlk Bd.returns (hb hby d10_59) (nle rfl) (nle rfl) (by rw [e6]; exact ⟨rfl, N6, KK6⟩)
theorem d9_0 : decode prog_8_method_3_code 0 = .ok (.bipush 31, 2) := by decide +kernel
theorem d9_2 : decode prog_8_method_3_code 2 = .ok (.aload_n 0, 1) := by decide +kernel
theorem d9_3 : decode prog_8_method_3_code 3 = .ok (.getfield 7, 3) := by decide +kernel
theorem d9_6 : decode prog_8_method_3_code 6 = .ok (.invokevirtual 23, 3) := by decide +kernel
theorem pd_4 : parseMethodDescriptor "()I" = some ⟨[], some .int⟩ := by decide +kernel
theorem d9_9 : decode prog_8_method_3_code 9 = .ok (.imul, 1) := by decide +kernel
theorem d9_10 : decode prog_8_method_3_code 10 = .ok (.aload_n 0, 1) := by decide +kernel
theorem d9_11 : decode prog_8_method_3_code 11 = .ok (.getfield 13, 3) := by decide +kernel
theorem d9_14 : decode prog_8_method_3_code 14 = .ok (.iadd, 1) := by decide +kernel
theorem d9_15 : decode prog_8_method_3_code 15 = .ok (.ireturn, 1) := by decide +kernel
theorem ef_th0 (m : MethodId) (a : Addr) : entryFrame m #[(.ref a)] 1 = mkF m 0 #[.val (.ref a)] [] := by first | (simp [entryFrame, mkF, argsToLocals, Value.category]; done) | rfl
abbrev R_th0 : Room := { frames := 2, cells := 0, slots := 0, locals := 26 }
def Q_th0 (Z : State) (a : Addr) (sa : Addr) (x : Int32) (cs : Int32) (t : Addr) (k : ClassId) (h0 : Heap) (n0 : Nat) (v : Option Value) (h : Heap) (L : List Loc) : Prop := v = some (.int (((31 : Int32) * (0 : Int32)) + x)) ∧ Fr n0 L ∧ Keep h0 h [sa]
set_option maxRecDepth 65536 in
set_option maxHeartbeats 40000000 in
theorem rm_th0 (l : Launch) (Z : State) (a0 : Array Value) (hw : ∀ d ∈ tables_1, d.before a0 Z = true) (ws : List Jvm.Cond) (a : Addr) (sa : Addr) (x : Int32) (cs : Int32) (t : Addr) (k : ClassId) (h0 : Heap) (n0 : Nat) (O0 : Old Z n0 h0) (S_CS : Sta Z Z.heap "java/lang/String" "COMPACT_STRINGS" "Z" (.int cs)) (hcs : ¬ cs = (0 : Int32)) (E_a : Exa Z h0 a "com/example/thingstead/thingstead/mimir/Treasure") (F_material_a : Fld Z h0 a "com/example/thingstead/thingstead/mimir/Treasure" "material" "Ljava/lang/String;" (.ref sa)) (F_points_a : Fld Z h0 a "com/example/thingstead/thingstead/mimir/Treasure" "points" "I" (.int x)) (Es : Exa Z h0 sa "java/lang/String") (Fv : Fld Z h0 sa "java/lang/String" "value" "[B" (.ref t)) (Fc : Fld Z h0 sa "java/lang/String" "coder" "B" (.int (0 : Int32))) (Fh : Fld Z h0 sa "java/lang/String" "hash" "I" (.int (0 : Int32))) (Fz : Fld Z h0 sa "java/lang/String" "hashIsZero" "Z" (.int (0 : Int32))) (V_t : Arv Z h0 t k .byte (0 : Int32) [] (.int (0 : Int32))) (g_s : n0 ≤ sa) (has : a ≠ sa) :
    MetFree l (⟨"com/example/thingstead/thingstead/mimir/Treasure", "hashCode", "()I"⟩ : MethodName) (head1 (Jvm.Cond.code (⟨"com/example/thingstead/thingstead/mimir/Treasure", "hashCode", "()I"⟩ : MethodName) prog_8_method_3_code 1 (some .int) :: ws) R_th0) (fun as_ U => as_ = #[(.ref a)] ∧ Z.Warmed39 U.vm ∧ U.heap = h0) (fun _ _ _ _ _ => True) (fun _ U o U' => ∃ v L, o = .returned v ∧ Q_th0 Z a sa x cs t k h0 n0 v U'.heap L ∧ FrameEnd U o U' L R_th0.cells R_th0.slots) := by
  refine MetFree.of_bodySF (plainFor_of_name pn_2) hisR ?_
  intro p e s m args below meth c s₁ Bd hml0 hP hK
  obtain ⟨rfl, hZ, hh⟩ := hP
  have hx := Bd.exec
  have hby := Bd.bytes
  have hml : c.maxLocals = 1 := hml0
  have hown : s.vm.findClass "com/example/thingstead/thingstead/mimir/Treasure" = some m.cls := findClass_of_methodNamed Bd.named
  have hnm := (name_of_methodNamed Bd.named Bd.method).1
  have hlk : meth.locks = false := BodyLoose.notSynchronized Bd
  have X0 : Stand p l e R_th0 s m #[(.ref a)] below meth c s₁ [] 0 0 := Stand.of_body Bd
  have e0 : s₁.heap = h0 := by rw [← hh, Bd.state]; rfl
  have N0 := Fr.nil n0
  refine enter (P := PQ s R_th0.cells R_th0.slots (Q_th0 Z a sa x cs t k h0 n0)) (ef_th0 m a) ?_
  refine goS (n := 2) (Ls' := #[.val (.ref a)]) (st' := [(.int (31 : Int32))]) (fun _ kz => XS.bipush X0.here hx rfl (hb hby d9_0) kz) ?_
  refine goS (n := 3) (Ls' := #[.val (.ref a)]) (st' := [(.ref a), (.int (31 : Int32))]) (fun _ kz => XS.aloadN X0.here hx rfl (hb hby d9_2) rfl rfl kz) ?_
  obtain ⟨T1, X1, e1, st1⟩ := getF X0 hx hZ hown (host := "") (Or.inl (hw _ (List.mem_of_getElem? (i := 42) rfl))) Via.refl e0 F_material_a (g := (mkF m 3 #[.val (.ref a)] [(.ref a), (.int (31 : Int32))])) rfl rfl (hb hby d9_3)
  refine goS (n := 6) (Ls' := #[.val (.ref a)]) (st' := [(.ref sa), (.int (31 : Int32))]) st1 ?_
  obtain ⟨cq2, kq2, q2a, q2b, q2c⟩ := isOf hZ e1 Es
  obtain ⟨vr2, _, ⟨T2, L2, k2, n2⟩, -, X2, ⟨Lc2, hQ2, l2, y2, z2⟩, st2⟩ := X1.virtualBack hx (y := (⟨"java/lang/String", "hashCode", "()I"⟩ : MethodName)) (z := (⟨"java/lang/String", "hashCode", "()I"⟩ : MethodName)) hown (mvT hZ (hw _ (List.mem_of_getElem? (i := 51) rfl))) (mvT hZ (hw _ (List.mem_of_getElem? (i := 52) rfl))) (notFace_of_selects (args := #[]) (mvT hZ (hw _ (List.mem_of_getElem? (i := 54) rfl)))) (mvT hZ (hw _ (List.mem_of_getElem? (i := 54) rfl))) (mvT hZ (hw _ (List.mem_of_getElem? (i := 53) rfl))) (by decide) (backOf (W := 1) (rm_hc0 l Z a0 hw [] sa cs t k h0 n0 O0 S_CS hcs Es Fv Fc Fh Fz V_t g_s) hZ (hw _ (List.mem_of_getElem? (i := 55) rfl)) (hw _ (List.mem_of_getElem? (i := 6) rfl)) (by decide) (by decide)) q2a q2c (g := (mkF m 6 #[.val (.ref a)] [(.ref sa), (.int (31 : Int32))])) rfl (by rw [hml]; rfl) (Steps.refl _) (argsL := []) (rest := [(.int (31 : Int32))]) (lenOf pd_4 rfl) rfl (by show 2 * 0 + _ ≤ _; exact Nat.le_of_eq rfl) (hb hby d9_6) (fun _ _ => ⟨rfl, e1, (nle rfl), (nle rfl)⟩)
  dsimp only [Pt.U, Pt.locs, Pt.cells, Pt.slots] at X2 l2 y2 z2 st2 hQ2
  subst l2 y2 z2
  obtain ⟨rfl, N2q, K2⟩ := hQ2
  have N2 := Fr.app N0 N2q
  have e2 : T2.heap = T2.heap := rfl
  have O2 := O0.keep K2 (allS g_s all0)
  have KK2 : Keep h0 T2.heap [sa] := (Keep.refl h0 [sa]).trans K2 (allS (Or.inl (List.mem_of_getElem? (i := 0) rfl)) all0)
  have E_a : Exa Z T2.heap a "com/example/thingstead/thingstead/mimir/Treasure" := E_a.keep K2
  have F_material_a : Fld Z T2.heap a "com/example/thingstead/thingstead/mimir/Treasure" "material" "Ljava/lang/String;" (.ref sa) := F_material_a.keep K2 (ninS has nin0)
  have F_points_a : Fld Z T2.heap a "com/example/thingstead/thingstead/mimir/Treasure" "points" "I" (.int x) := F_points_a.keep K2 (ninS has nin0)
  refine goT (n := 9) (Ls' := #[.val (.ref a)]) (st' := [(.int (0 : Int32)), (.int (31 : Int32))]) st2 ?_
  refine goS (n := 10) (Ls' := #[.val (.ref a)]) (st' := [(.int ((31 : Int32) * (0 : Int32)))]) (fun _ kz => XS.imul X2.here hx rfl (hb hby d9_9) rfl kz) ?_
  refine goS (n := 11) (Ls' := #[.val (.ref a)]) (st' := [(.ref a), (.int ((31 : Int32) * (0 : Int32)))]) (fun _ kz => XS.aloadN X2.here hx rfl (hb hby d9_10) rfl rfl kz) ?_
  obtain ⟨T3, X3, e3, st3⟩ := getF X2 hx hZ hown (host := "") (Or.inl (hw _ (List.mem_of_getElem? (i := 44) rfl))) Via.refl e2 F_points_a (g := (mkF m 11 #[.val (.ref a)] [(.ref a), (.int ((31 : Int32) * (0 : Int32)))])) rfl rfl (hb hby d9_11)
  refine goS (n := 14) (Ls' := #[.val (.ref a)]) (st' := [(.int x), (.int ((31 : Int32) * (0 : Int32)))]) st3 ?_
  refine goS (n := 15) (Ls' := #[.val (.ref a)]) (st' := [(.int (((31 : Int32) * (0 : Int32)) + x))]) (fun _ kz => XS.iadd X3.here hx rfl (hb hby d9_14) rfl kz) ?_
  exact goRetI X3 hx hlk Bd.returns (hb hby d9_15) (nle rfl) (nle rfl) (by rw [e3]; exact ⟨rfl, N2, KK2⟩)
theorem d12_32 : decode jdk_43_method_21_code 32 = .ok (.aload_n 0, 1) := by decide +kernel
theorem d12_33 : decode jdk_43_method_21_code 33 = .ok (.iconst 0, 1) := by decide +kernel
theorem d12_34 : decode jdk_43_method_21_code 34 = .ok (.baload, 1) := by decide +kernel
theorem d12_35 : decode jdk_43_method_21_code 35 = .ok (.sipush 255, 3) := by decide +kernel
theorem d12_38 : decode jdk_43_method_21_code 38 = .ok (.iand, 1) := by decide +kernel
theorem d12_39 : decode jdk_43_method_21_code 39 = .ok (.goto 12, 3) := by decide +kernel
theorem ef_lh1 (m : MethodId) (t : Addr) : entryFrame m #[(.ref t)] 1 = mkF m 0 #[.val (.ref t)] [] := by first | (simp [entryFrame, mkF, argsToLocals, Value.category]; done) | rfl
abbrev R_lh1 : Room := { frames := 0, cells := 0, slots := 0, locals := 0 }
def Q_lh1 (Z : State) (t : Addr) (k : ClassId) (b0 : Int32) (h0 : Heap) (n0 : Nat) (v : Option Value) (h : Heap) (L : List Loc) : Prop := v = some (.int (b0 &&& (255 : Int32))) ∧ Fr n0 L ∧ h = h0
set_option maxRecDepth 65536 in
set_option maxHeartbeats 40000000 in
theorem rm_lh1 (l : Launch) (Z : State) (a0 : Array Value) (hw : ∀ d ∈ tables_1, d.before a0 Z = true) (ws : List Jvm.Cond) (t : Addr) (k : ClassId) (b0 : Int32) (h0 : Heap) (n0 : Nat) (O0 : Old Z n0 h0) (V_t : Arv Z h0 t k .byte (1 : Int32) [(.int b0)] (.int (0 : Int32))) :
    MetFree l (⟨"java/lang/StringLatin1", "hashCode", "([B)I"⟩ : MethodName) (head1 (Jvm.Cond.code (⟨"java/lang/StringLatin1", "hashCode", "([B)I"⟩ : MethodName) jdk_43_method_21_code 1 (some .int) :: ws) R_lh1) (fun as_ U => as_ = #[(.ref t)] ∧ Z.Warmed39 U.vm ∧ U.heap = h0) (fun _ _ _ _ _ => True) (fun _ U o U' => ∃ v L, o = .returned v ∧ Q_lh1 Z t k b0 h0 n0 v U'.heap L ∧ FrameEnd U o U' L R_lh1.cells R_lh1.slots) := by
  refine MetFree.of_bodySF (plainFor_of_name pn_3) hisR ?_
  intro p e s m args below meth c s₁ Bd hml0 hP hK
  obtain ⟨rfl, hZ, hh⟩ := hP
  have hx := Bd.exec
  have hby := Bd.bytes
  have hml : c.maxLocals = 1 := hml0
  have hown : s.vm.findClass "java/lang/StringLatin1" = some m.cls := findClass_of_methodNamed Bd.named
  have hnm := (name_of_methodNamed Bd.named Bd.method).1
  have hlk : meth.locks = false := BodyLoose.notSynchronized Bd
  have X0 : Stand p l e R_lh1 s m #[(.ref t)] below meth c s₁ [] 0 0 := Stand.of_body Bd
  have e0 : s₁.heap = h0 := by rw [← hh, Bd.state]; rfl
  have N0 := Fr.nil n0
  refine enter (P := PQ s R_lh1.cells R_lh1.slots (Q_lh1 Z t k b0 h0 n0)) (ef_lh1 m t) ?_
  refine goS (n := 1) (Ls' := #[.val (.ref t)]) (st' := [(.ref t)]) (fun _ kz => XS.aloadN X0.here hx rfl (hb hby d12_0) rfl rfl kz) ?_
  have vv1 := V_t
  obtain ⟨cl1, Ar1, -, S1, Nn1, -, -⟩ := vv1
  refine goS (n := 2) (Ls' := #[.val (.ref t)]) (st' := [(.int (1 : Int32))]) (fun tz kz => X0.arraylength hx (by rw [e0]; exact Ar1.1) (State.isArrayOf_alike hZ.alike Ar1.2.1) (g := (mkF m 1 #[.val (.ref t)] [(.ref t)])) rfl rfl (hb hby d12_1) tz (by rw [len_of S1 Nn1]; exact kz)) ?_
  refine goS (n := 32) (Ls' := #[.val (.ref t)]) (st' := []) (fun _ kz => lsw (g := (mkF m 2 #[.val (.ref t)] [(.int (1 : Int32))])) X0 hx rfl (pc0 := 2) (pc' := 32) rfl (o := 30) (hb hby d12_2) rfl (by intro a b c d h; revert h; simp; try omega) (Or.inl ⟨1, rfl⟩) (by decide) (by decide) kz) ?_
  refine goS (n := 33) (Ls' := #[.val (.ref t)]) (st' := [(.ref t)]) (fun _ kz => XS.aloadN X0.here hx rfl (hb hby d12_32) rfl rfl kz) ?_
  refine goS (n := 34) (Ls' := #[.val (.ref t)]) (st' := [(.int (0 : Int32)), (.ref t)]) (fun _ kz => XS.iconst X0.here hx rfl (hb hby d12_33) kz) ?_
  have vv2 := V_t
  obtain ⟨cl2, Ar2, q2, S2, Nn2, H2, G2⟩ := vv2
  have hin2 : ¬ ((0 : Int32) < 0 ∨ cl2.slots.size ≤ ((0 : Int32)).toNatClampNeg) := inb_of S2 ⟨by decide, by decide⟩
  have hat2 : cl2.slots[((0 : Int32)).toNatClampNeg]? = some (.int b0) := Has.at H2 hin2 rfl
  refine goS (n := 35) (Ls' := #[.val (.ref t)]) (st' := [(.int b0)]) (fun tz kz => X0.baloadBytes hx (j := (0 : Int32)) (v := (.int b0)) (by rw [e0]; exact Ar2.1) (State.isArrayOf_alike hZ.alike Ar2.2.1) Ar2.2.2 hin2 hat2 (g := (mkF m 34 #[.val (.ref t)] [(.int (0 : Int32)), (.ref t)])) rfl rfl (hb hby d12_34) tz kz) ?_
  refine goS (n := 38) (Ls' := #[.val (.ref t)]) (st' := [(.int (255 : Int32)), (.int b0)]) (fun _ kz => XS.sipush X0.here hx rfl (hb hby d12_35) kz) ?_
  refine goS (n := 39) (Ls' := #[.val (.ref t)]) (st' := [(.int (b0 &&& (255 : Int32)))]) (fun _ kz => XS.iand X0.here hx rfl (hb hby d12_38) rfl kz) ?_
  refine goS (n := 51) (Ls' := #[.val (.ref t)]) (st' := [(.int (b0 &&& (255 : Int32)))]) (fun _ kz => XS.goto X0.here hx rfl (pc0 := 39) (pc' := 51) rfl (hb hby d12_39) (by decide) (by decide) kz) ?_
  exact goRetI X0 hx hlk Bd.returns (hb hby d12_51) (nle rfl) (nle rfl) (by rw [e0]; exact ⟨rfl, N0, rfl⟩)
theorem d10_53 : decode jdk_42_method_78_code 53 = .ok (.aload_n 0, 1) := by decide +kernel
theorem d10_54 : decode jdk_42_method_78_code 54 = .ok (.iload_n 1, 1) := by decide +kernel
theorem d10_55 : decode jdk_42_method_78_code 55 = .ok (.putfield 19, 3) := by decide +kernel
theorem ef_hc1 (m : MethodId) (a : Addr) : entryFrame m #[(.ref a)] 2 = mkF m 0 #[.val (.ref a), .unset] [] := by first | (simp [entryFrame, mkF, argsToLocals, Value.category]; done) | rfl
abbrev R_hc1 : Room := { frames := 1, cells := 0, slots := 0, locals := 12 }
def Q_hc1 (Z : State) (a : Addr) (cs : Int32) (t : Addr) (k : ClassId) (b0 : Int32) (h0 : Heap) (n0 : Nat) (v : Option Value) (h : Heap) (L : List Loc) : Prop := v = some (.int (b0 &&& (255 : Int32))) ∧ Fr n0 L ∧ Keep h0 h [a]
set_option maxRecDepth 65536 in
set_option maxHeartbeats 40000000 in
theorem rm_hc1 (l : Launch) (Z : State) (a0 : Array Value) (hw : ∀ d ∈ tables_1, d.before a0 Z = true) (ws : List Jvm.Cond) (a : Addr) (cs : Int32) (t : Addr) (k : ClassId) (b0 : Int32) (h0 : Heap) (n0 : Nat) (O0 : Old Z n0 h0) (S_CS : Sta Z Z.heap "java/lang/String" "COMPACT_STRINGS" "Z" (.int cs)) (hcs : ¬ cs = (0 : Int32)) (E_a : Exa Z h0 a "java/lang/String") (F_value_a : Fld Z h0 a "java/lang/String" "value" "[B" (.ref t)) (F_coder_a : Fld Z h0 a "java/lang/String" "coder" "B" (.int (0 : Int32))) (F_hash_a : Fld Z h0 a "java/lang/String" "hash" "I" (.int (0 : Int32))) (F_hashIsZero_a : Fld Z h0 a "java/lang/String" "hashIsZero" "Z" (.int (0 : Int32))) (V_t : Arv Z h0 t k .byte (1 : Int32) [(.int b0)] (.int (0 : Int32))) (g_a : n0 ≤ a) :
    MetFree l (⟨"java/lang/String", "hashCode", "()I"⟩ : MethodName) (head1 (Jvm.Cond.code (⟨"java/lang/String", "hashCode", "()I"⟩ : MethodName) jdk_42_method_78_code 2 (some .int) :: ws) R_hc1) (fun as_ U => as_ = #[(.ref a)] ∧ Z.Warmed39 U.vm ∧ U.heap = h0) (fun _ _ _ _ _ => True) (fun _ U o U' => ∃ v L, o = .returned v ∧ Q_hc1 Z a cs t k b0 h0 n0 v U'.heap L ∧ FrameEnd U o U' L R_hc1.cells R_hc1.slots) := by
  refine MetFree.of_bodySF (plainFor_of_name pn_0) hisR ?_
  intro p e s m args below meth c s₁ Bd hml0 hP hK
  obtain ⟨rfl, hZ, hh⟩ := hP
  have hx := Bd.exec
  have hby := Bd.bytes
  have hml : c.maxLocals = 2 := hml0
  have hown : s.vm.findClass "java/lang/String" = some m.cls := findClass_of_methodNamed Bd.named
  have hnm := (name_of_methodNamed Bd.named Bd.method).1
  have hlk : meth.locks = false := BodyLoose.notSynchronized Bd
  have X0 : Stand p l e R_hc1 s m #[(.ref a)] below meth c s₁ [] 0 0 := Stand.of_body Bd
  have e0 : s₁.heap = h0 := by rw [← hh, Bd.state]; rfl
  have N0 := Fr.nil n0
  refine enter (P := PQ s R_hc1.cells R_hc1.slots (Q_hc1 Z a cs t k b0 h0 n0)) (ef_hc1 m a) ?_
  refine goS (n := 1) (Ls' := #[.val (.ref a), .unset]) (st' := [(.ref a)]) (fun _ kz => XS.aloadN X0.here hx rfl (hb hby d10_0) rfl rfl kz) ?_
  obtain ⟨T1, X1, e1, st1⟩ := getF X0 hx hZ hown (host := "") (Or.inl (hw _ (List.mem_of_getElem? (i := 56) rfl))) Via.refl e0 F_hash_a (g := (mkF m 1 #[.val (.ref a), .unset] [(.ref a)])) rfl rfl (hb hby d10_1)
  refine goS (n := 4) (Ls' := #[.val (.ref a), .unset]) (st' := [(.int (0 : Int32))]) st1 ?_
  refine goS (n := 5) (Ls' := #[.val (.ref a), .val (.int (0 : Int32))]) (st' := []) (fun _ kz => XS.istoreN X1.here hx rfl (hb hby d10_4) rfl (l' := #[.val (.ref a), .val (.int (0 : Int32))]) rfl kz) ?_
  refine goS (n := 6) (Ls' := #[.val (.ref a), .val (.int (0 : Int32))]) (st' := [(.int (0 : Int32))]) (fun _ kz => XS.iloadN X1.here hx rfl (hb hby d10_5) rfl kz) ?_
  refine goS (n := 9) (Ls' := #[.val (.ref a), .val (.int (0 : Int32))]) (st' := []) (fun _ kz => XS.ifNo X1.here hx rfl (hb hby d10_6) rfl (by decide) kz) ?_
  refine goS (n := 10) (Ls' := #[.val (.ref a), .val (.int (0 : Int32))]) (st' := [(.ref a)]) (fun _ kz => XS.aloadN X1.here hx rfl (hb hby d10_9) rfl rfl kz) ?_
  obtain ⟨T2, X2, e2, st2⟩ := getF X1 hx hZ hown (host := "") (Or.inl (hw _ (List.mem_of_getElem? (i := 58) rfl))) Via.refl e1 F_hashIsZero_a (g := (mkF m 10 #[.val (.ref a), .val (.int (0 : Int32))] [(.ref a)])) rfl rfl (hb hby d10_10)
  refine goS (n := 13) (Ls' := #[.val (.ref a), .val (.int (0 : Int32))]) (st' := [(.int (0 : Int32))]) st2 ?_
  refine goS (n := 16) (Ls' := #[.val (.ref a), .val (.int (0 : Int32))]) (st' := []) (fun _ kz => XS.ifNo X2.here hx rfl (hb hby d10_13) rfl (by decide) kz) ?_
  refine goS (n := 17) (Ls' := #[.val (.ref a), .val (.int (0 : Int32))]) (st' := [(.ref a)]) (fun _ kz => XS.aloadN X2.here hx rfl (hb hby d10_16) rfl rfl kz) ?_
  obtain ⟨cq3, kq3, q3a, q3b, q3c⟩ := isOf hZ e2 E_a
  obtain ⟨vr3, _, ⟨T3, L3, k3, n3⟩, -, X3, ⟨Lc3, hQ3, l3, y3, z3⟩, st3⟩ := X2.virtualBack hx (y := (⟨"java/lang/String", "isLatin1", "()Z"⟩ : MethodName)) (z := (⟨"java/lang/String", "isLatin1", "()Z"⟩ : MethodName)) hown (mvT hZ (hw _ (List.mem_of_getElem? (i := 60) rfl))) (mvT hZ (hw _ (List.mem_of_getElem? (i := 61) rfl))) (notFace_of_selects (args := #[]) (mvT hZ (hw _ (List.mem_of_getElem? (i := 63) rfl)))) (mvT hZ (hw _ (List.mem_of_getElem? (i := 63) rfl))) (mvT hZ (hw _ (List.mem_of_getElem? (i := 62) rfl))) (by decide) (backOf (W := 0) (rm_isl l Z a0 hw [] a cs h0 n0 O0 S_CS hcs F_coder_a) hZ (hw _ (List.mem_of_getElem? (i := 64) rfl)) (hw _ (List.mem_of_getElem? (i := 6) rfl)) (by decide) (by decide)) q3a q3c (g := (mkF m 17 #[.val (.ref a), .val (.int (0 : Int32))] [(.ref a)])) rfl (by rw [hml]; rfl) (Steps.refl _) (argsL := []) (rest := []) (lenOf pd_2 rfl) rfl (by show 2 * 0 + _ ≤ _; exact Nat.le_of_eq rfl) (hb hby d10_17) (fun _ _ => ⟨rfl, e2, (nle rfl), (nle rfl)⟩)
  dsimp only [Pt.U, Pt.locs, Pt.cells, Pt.slots] at X3 l3 y3 z3 st3 hQ3
  subst l3 y3 z3
  obtain ⟨rfl, N3q, e3⟩ := hQ3
  have N3 := Fr.app N0 N3q
  refine goT (n := 20) (Ls' := #[.val (.ref a), .val (.int (0 : Int32))]) (st' := [(.int (1 : Int32))]) st3 ?_
  refine goS (n := 23) (Ls' := #[.val (.ref a), .val (.int (0 : Int32))]) (st' := []) (fun _ kz => XS.ifNo X3.here hx rfl (hb hby d10_20) rfl (by decide) kz) ?_
  refine goS (n := 24) (Ls' := #[.val (.ref a), .val (.int (0 : Int32))]) (st' := [(.ref a)]) (fun _ kz => XS.aloadN X3.here hx rfl (hb hby d10_23) rfl rfl kz) ?_
  obtain ⟨T4, X4, e4, st4⟩ := getF X3 hx hZ hown (host := "") (Or.inl (hw _ (List.mem_of_getElem? (i := 31) rfl))) Via.refl e3 F_value_a (g := (mkF m 24 #[.val (.ref a), .val (.int (0 : Int32))] [(.ref a)])) rfl rfl (hb hby d10_24)
  refine goS (n := 27) (Ls' := #[.val (.ref a), .val (.int (0 : Int32))]) (st' := [(.ref t)]) st4 ?_
  obtain ⟨vr5, _, ⟨T5, L5, k5, n5⟩, -, X5, ⟨Lc5, hQ5, l5, y5, z5⟩, st5⟩ := Jvm.LawKit.callS X4 hx (y := (⟨"java/lang/StringLatin1", "hashCode", "([B)I"⟩ : MethodName)) hown (mvT hZ (hw _ (List.mem_of_getElem? (i := 65) rfl))) (mvT hZ (hw _ (List.mem_of_getElem? (i := 66) rfl))) (mvT hZ (hw _ (List.mem_of_getElem? (i := 67) rfl))) (mvT hZ (hw _ (List.mem_of_getElem? (i := 68) rfl))) (by decide) (backOf (W := 0) (rm_lh1 l Z a0 hw [] t k b0 h0 n0 O0 V_t) hZ (hw _ (List.mem_of_getElem? (i := 68) rfl)) (hw _ (List.mem_of_getElem? (i := 67) rfl)) (by decide) (by decide)) (g := (mkF m 27 #[.val (.ref a), .val (.int (0 : Int32))] [(.ref t)])) rfl (by rw [hml]; rfl) (argsL := [(.ref t)]) (rest := []) (lenOf pd_3 rfl) rfl (by show 2 * 0 + _ ≤ _; exact Nat.le_of_eq rfl) (hb hby d10_27) (fun _ _ => ⟨rfl, e4, (nle rfl), (nle rfl)⟩)
  dsimp only [Pt.U, Pt.locs, Pt.cells, Pt.slots] at X5 l5 y5 z5 st5 hQ5
  subst l5 y5 z5
  obtain ⟨rfl, N5q, e5⟩ := hQ5
  have N5 := Fr.app N3 N5q
  refine goS (n := 30) (Ls' := #[.val (.ref a), .val (.int (0 : Int32))]) (st' := [(.int (b0 &&& (255 : Int32)))]) st5 ?_
  refine goS (n := 40) (Ls' := #[.val (.ref a), .val (.int (0 : Int32))]) (st' := [(.int (b0 &&& (255 : Int32)))]) (fun _ kz => XS.goto X5.here hx rfl (pc0 := 30) (pc' := 40) rfl (hb hby d10_30) (by decide) (by decide) kz) ?_
  refine goS (n := 41) (Ls' := #[.val (.ref a), .val (.int (b0 &&& (255 : Int32)))]) (st' := []) (fun _ kz => XS.istoreN X5.here hx rfl (hb hby d10_40) rfl (l' := #[.val (.ref a), .val (.int (b0 &&& (255 : Int32)))]) rfl kz) ?_
  refine goS (n := 42) (Ls' := #[.val (.ref a), .val (.int (b0 &&& (255 : Int32)))]) (st' := [(.int (b0 &&& (255 : Int32)))]) (fun _ kz => XS.iloadN X5.here hx rfl (hb hby d10_41) rfl kz) ?_
  by_cases hc6 : (b0 &&& (255 : Int32)) = (0 : Int32)
  · refine goS (n := 45) (Ls' := #[.val (.ref a), .val (.int (b0 &&& (255 : Int32)))]) (st' := []) (fun _ kz => XS.ifNo X5.here hx rfl (hb hby d10_42) rfl ((if0 _ _).trans (teq hc6).2) kz) ?_
    refine goS (n := 46) (Ls' := #[.val (.ref a), .val (.int (b0 &&& (255 : Int32)))]) (st' := [(.ref a)]) (fun _ kz => XS.aloadN X5.here hx rfl (hb hby d10_45) rfl rfl kz) ?_
    refine goS (n := 47) (Ls' := #[.val (.ref a), .val (.int (b0 &&& (255 : Int32)))]) (st' := [(.int (1 : Int32)), (.ref a)]) (fun _ kz => XS.iconst X5.here hx rfl (hb hby d10_46) kz) ?_
    obtain ⟨T7, h7, X7, e7, W7, st7⟩ := putFN X5 hx hZ hown (hw _ (List.mem_of_getElem? (i := 58) rfl)) Via.refl e5 F_hashIsZero_a E_a (Or.inl (hw _ (List.mem_of_getElem? (i := 59) rfl))) (hw _ (List.mem_of_getElem? (i := 5) rfl)) (ty := .boolean) (v' := (.int (1 : Int32))) (by decide) rfl rfl (g := (mkF m 47 #[.val (.ref a), .val (.int (b0 &&& (255 : Int32)))] [(.int (1 : Int32)), (.ref a)])) rfl rfl (hb hby d10_47)
    have Fn7 : Fld Z h7 a "java/lang/String" "hashIsZero" "Z" (.int (1 : Int32)) := F_hashIsZero_a.same W7
    have ne8 : a ≠ t := neEA E_a (hw _ (List.mem_of_getElem? (i := 5) rfl)) V_t
    have E_a : Exa Z h7 a "java/lang/String" := E_a.wr W7
    have F_value_a : Fld Z h7 a "java/lang/String" "value" "[B" (.ref t) := F_value_a.other W7 (Or.inr (slot_ne (Or.inr (hw _ (List.mem_of_getElem? (i := 32) rfl))) (Or.inl (hw _ (List.mem_of_getElem? (i := 59) rfl))) (by decide) (t := (.array .byte)) (t' := .boolean) (by decide) (by decide)))
    have F_coder_a : Fld Z h7 a "java/lang/String" "coder" "B" (.int (0 : Int32)) := F_coder_a.other W7 (Or.inr (slot_ne (Or.inr (hw _ (List.mem_of_getElem? (i := 30) rfl))) (Or.inl (hw _ (List.mem_of_getElem? (i := 59) rfl))) (by decide) (t := .byte) (t' := .boolean) (by decide) (by decide)))
    have F_hash_a : Fld Z h7 a "java/lang/String" "hash" "I" (.int (0 : Int32)) := F_hash_a.other W7 (Or.inr (slot_ne (Or.inl (hw _ (List.mem_of_getElem? (i := 57) rfl))) (Or.inl (hw _ (List.mem_of_getElem? (i := 59) rfl))) (by decide) (t := .int) (t' := .boolean) (by decide) (by decide)))
    have V_t : Arv Z h7 t k .byte (1 : Int32) [(.int b0)] (.int (0 : Int32)) := V_t.other W7 (Ne.symm ne8)
    have F_hashIsZero_a := Fn7
    have N7 := Fr.snoc X7 N5 g_a
    have O7 := O0.wr W7 g_a
    have KK7 : Keep h0 h7 [a] := (Keep.refl h0 [a]).wr W7 (Or.inl (List.mem_of_getElem? (i := 0) rfl))
    refine goS (n := 50) (Ls' := #[.val (.ref a), .val (.int (b0 &&& (255 : Int32)))]) (st' := []) st7 ?_
    refine goS (n := 58) (Ls' := #[.val (.ref a), .val (.int (b0 &&& (255 : Int32)))]) (st' := []) (fun _ kz => XS.goto X7.here hx rfl (pc0 := 50) (pc' := 58) rfl (hb hby d10_50) (by decide) (by decide) kz) ?_
    refine goS (n := 59) (Ls' := #[.val (.ref a), .val (.int (b0 &&& (255 : Int32)))]) (st' := [(.int (b0 &&& (255 : Int32)))]) (fun _ kz => XS.iloadN X7.here hx rfl (hb hby d10_58) rfl kz) ?_
    exact goRetI X7 hx hlk Bd.returns (hb hby d10_59) (nle rfl) (nle rfl) (by rw [e7]; exact ⟨rfl, N7, KK7⟩)
  · refine goS (n := 53) (Ls' := #[.val (.ref a), .val (.int (b0 &&& (255 : Int32)))]) (st' := []) (fun _ kz => XS.ifYes X5.here hx rfl (pc0 := 42) (pc' := 53) rfl (hb hby d10_42) rfl ((if0 _ _).trans (feq hc6).2) (by decide) (by decide) kz) ?_
    refine goS (n := 54) (Ls' := #[.val (.ref a), .val (.int (b0 &&& (255 : Int32)))]) (st' := [(.ref a)]) (fun _ kz => XS.aloadN X5.here hx rfl (hb hby d10_53) rfl rfl kz) ?_
    refine goS (n := 55) (Ls' := #[.val (.ref a), .val (.int (b0 &&& (255 : Int32)))]) (st' := [(.int (b0 &&& (255 : Int32))), (.ref a)]) (fun _ kz => XS.iloadN X5.here hx rfl (hb hby d10_54) rfl kz) ?_
    obtain ⟨T9, h9, X9, e9, W9, st9⟩ := putF X5 hx hZ hown (host := "") (Or.inl (hw _ (List.mem_of_getElem? (i := 56) rfl))) Via.refl e5 F_hash_a E_a (Or.inl (hw _ (List.mem_of_getElem? (i := 57) rfl))) (hw _ (List.mem_of_getElem? (i := 5) rfl)) (ty := .int) (v := (.int (b0 &&& (255 : Int32)))) (by decide) rfl rfl (g := (mkF m 55 #[.val (.ref a), .val (.int (b0 &&& (255 : Int32)))] [(.int (b0 &&& (255 : Int32))), (.ref a)])) rfl rfl (hb hby d10_55)
    have Fn9 : Fld Z h9 a "java/lang/String" "hash" "I" (.int (b0 &&& (255 : Int32))) := F_hash_a.same W9
    have ne10 : a ≠ t := neEA E_a (hw _ (List.mem_of_getElem? (i := 5) rfl)) V_t
    have E_a : Exa Z h9 a "java/lang/String" := E_a.wr W9
    have F_value_a : Fld Z h9 a "java/lang/String" "value" "[B" (.ref t) := F_value_a.other W9 (Or.inr (slot_ne (Or.inr (hw _ (List.mem_of_getElem? (i := 32) rfl))) (Or.inl (hw _ (List.mem_of_getElem? (i := 57) rfl))) (by decide) (t := (.array .byte)) (t' := .int) (by decide) (by decide)))
    have F_coder_a : Fld Z h9 a "java/lang/String" "coder" "B" (.int (0 : Int32)) := F_coder_a.other W9 (Or.inr (slot_ne (Or.inr (hw _ (List.mem_of_getElem? (i := 30) rfl))) (Or.inl (hw _ (List.mem_of_getElem? (i := 57) rfl))) (by decide) (t := .byte) (t' := .int) (by decide) (by decide)))
    have F_hashIsZero_a : Fld Z h9 a "java/lang/String" "hashIsZero" "Z" (.int (0 : Int32)) := F_hashIsZero_a.other W9 (Or.inr (slot_ne (Or.inl (hw _ (List.mem_of_getElem? (i := 59) rfl))) (Or.inl (hw _ (List.mem_of_getElem? (i := 57) rfl))) (by decide) (t := .boolean) (t' := .int) (by decide) (by decide)))
    have V_t : Arv Z h9 t k .byte (1 : Int32) [(.int b0)] (.int (0 : Int32)) := V_t.other W9 (Ne.symm ne10)
    have F_hash_a := Fn9
    have N9 := Fr.snoc X9 N5 g_a
    have O9 := O0.wr W9 g_a
    have KK9 : Keep h0 h9 [a] := (Keep.refl h0 [a]).wr W9 (Or.inl (List.mem_of_getElem? (i := 0) rfl))
    refine goS (n := 58) (Ls' := #[.val (.ref a), .val (.int (b0 &&& (255 : Int32)))]) (st' := []) st9 ?_
    refine goS (n := 59) (Ls' := #[.val (.ref a), .val (.int (b0 &&& (255 : Int32)))]) (st' := [(.int (b0 &&& (255 : Int32)))]) (fun _ kz => XS.iloadN X9.here hx rfl (hb hby d10_58) rfl kz) ?_
    exact goRetI X9 hx hlk Bd.returns (hb hby d10_59) (nle rfl) (nle rfl) (by rw [e9]; exact ⟨rfl, N9, KK9⟩)
theorem ef_th1 (m : MethodId) (a : Addr) : entryFrame m #[(.ref a)] 1 = mkF m 0 #[.val (.ref a)] [] := by first | (simp [entryFrame, mkF, argsToLocals, Value.category]; done) | rfl
abbrev R_th1 : Room := { frames := 2, cells := 0, slots := 0, locals := 26 }
def Q_th1 (Z : State) (a : Addr) (sa : Addr) (x : Int32) (cs : Int32) (t : Addr) (k : ClassId) (b0 : Int32) (h0 : Heap) (n0 : Nat) (v : Option Value) (h : Heap) (L : List Loc) : Prop := v = some (.int (((31 : Int32) * (b0 &&& (255 : Int32))) + x)) ∧ Fr n0 L ∧ Keep h0 h [sa]
set_option maxRecDepth 65536 in
set_option maxHeartbeats 40000000 in
theorem rm_th1 (l : Launch) (Z : State) (a0 : Array Value) (hw : ∀ d ∈ tables_1, d.before a0 Z = true) (ws : List Jvm.Cond) (a : Addr) (sa : Addr) (x : Int32) (cs : Int32) (t : Addr) (k : ClassId) (b0 : Int32) (h0 : Heap) (n0 : Nat) (O0 : Old Z n0 h0) (S_CS : Sta Z Z.heap "java/lang/String" "COMPACT_STRINGS" "Z" (.int cs)) (hcs : ¬ cs = (0 : Int32)) (E_a : Exa Z h0 a "com/example/thingstead/thingstead/mimir/Treasure") (F_material_a : Fld Z h0 a "com/example/thingstead/thingstead/mimir/Treasure" "material" "Ljava/lang/String;" (.ref sa)) (F_points_a : Fld Z h0 a "com/example/thingstead/thingstead/mimir/Treasure" "points" "I" (.int x)) (Es : Exa Z h0 sa "java/lang/String") (Fv : Fld Z h0 sa "java/lang/String" "value" "[B" (.ref t)) (Fc : Fld Z h0 sa "java/lang/String" "coder" "B" (.int (0 : Int32))) (Fh : Fld Z h0 sa "java/lang/String" "hash" "I" (.int (0 : Int32))) (Fz : Fld Z h0 sa "java/lang/String" "hashIsZero" "Z" (.int (0 : Int32))) (V_t : Arv Z h0 t k .byte (1 : Int32) [(.int b0)] (.int (0 : Int32))) (g_s : n0 ≤ sa) (has : a ≠ sa) :
    MetFree l (⟨"com/example/thingstead/thingstead/mimir/Treasure", "hashCode", "()I"⟩ : MethodName) (head1 (Jvm.Cond.code (⟨"com/example/thingstead/thingstead/mimir/Treasure", "hashCode", "()I"⟩ : MethodName) prog_8_method_3_code 1 (some .int) :: ws) R_th1) (fun as_ U => as_ = #[(.ref a)] ∧ Z.Warmed39 U.vm ∧ U.heap = h0) (fun _ _ _ _ _ => True) (fun _ U o U' => ∃ v L, o = .returned v ∧ Q_th1 Z a sa x cs t k b0 h0 n0 v U'.heap L ∧ FrameEnd U o U' L R_th1.cells R_th1.slots) := by
  refine MetFree.of_bodySF (plainFor_of_name pn_2) hisR ?_
  intro p e s m args below meth c s₁ Bd hml0 hP hK
  obtain ⟨rfl, hZ, hh⟩ := hP
  have hx := Bd.exec
  have hby := Bd.bytes
  have hml : c.maxLocals = 1 := hml0
  have hown : s.vm.findClass "com/example/thingstead/thingstead/mimir/Treasure" = some m.cls := findClass_of_methodNamed Bd.named
  have hnm := (name_of_methodNamed Bd.named Bd.method).1
  have hlk : meth.locks = false := BodyLoose.notSynchronized Bd
  have X0 : Stand p l e R_th1 s m #[(.ref a)] below meth c s₁ [] 0 0 := Stand.of_body Bd
  have e0 : s₁.heap = h0 := by rw [← hh, Bd.state]; rfl
  have N0 := Fr.nil n0
  refine enter (P := PQ s R_th1.cells R_th1.slots (Q_th1 Z a sa x cs t k b0 h0 n0)) (ef_th1 m a) ?_
  refine goS (n := 2) (Ls' := #[.val (.ref a)]) (st' := [(.int (31 : Int32))]) (fun _ kz => XS.bipush X0.here hx rfl (hb hby d9_0) kz) ?_
  refine goS (n := 3) (Ls' := #[.val (.ref a)]) (st' := [(.ref a), (.int (31 : Int32))]) (fun _ kz => XS.aloadN X0.here hx rfl (hb hby d9_2) rfl rfl kz) ?_
  obtain ⟨T1, X1, e1, st1⟩ := getF X0 hx hZ hown (host := "") (Or.inl (hw _ (List.mem_of_getElem? (i := 42) rfl))) Via.refl e0 F_material_a (g := (mkF m 3 #[.val (.ref a)] [(.ref a), (.int (31 : Int32))])) rfl rfl (hb hby d9_3)
  refine goS (n := 6) (Ls' := #[.val (.ref a)]) (st' := [(.ref sa), (.int (31 : Int32))]) st1 ?_
  obtain ⟨cq2, kq2, q2a, q2b, q2c⟩ := isOf hZ e1 Es
  obtain ⟨vr2, _, ⟨T2, L2, k2, n2⟩, -, X2, ⟨Lc2, hQ2, l2, y2, z2⟩, st2⟩ := X1.virtualBack hx (y := (⟨"java/lang/String", "hashCode", "()I"⟩ : MethodName)) (z := (⟨"java/lang/String", "hashCode", "()I"⟩ : MethodName)) hown (mvT hZ (hw _ (List.mem_of_getElem? (i := 51) rfl))) (mvT hZ (hw _ (List.mem_of_getElem? (i := 52) rfl))) (notFace_of_selects (args := #[]) (mvT hZ (hw _ (List.mem_of_getElem? (i := 54) rfl)))) (mvT hZ (hw _ (List.mem_of_getElem? (i := 54) rfl))) (mvT hZ (hw _ (List.mem_of_getElem? (i := 53) rfl))) (by decide) (backOf (W := 1) (rm_hc1 l Z a0 hw [] sa cs t k b0 h0 n0 O0 S_CS hcs Es Fv Fc Fh Fz V_t g_s) hZ (hw _ (List.mem_of_getElem? (i := 55) rfl)) (hw _ (List.mem_of_getElem? (i := 6) rfl)) (by decide) (by decide)) q2a q2c (g := (mkF m 6 #[.val (.ref a)] [(.ref sa), (.int (31 : Int32))])) rfl (by rw [hml]; rfl) (Steps.refl _) (argsL := []) (rest := [(.int (31 : Int32))]) (lenOf pd_4 rfl) rfl (by show 2 * 0 + _ ≤ _; exact Nat.le_of_eq rfl) (hb hby d9_6) (fun _ _ => ⟨rfl, e1, (nle rfl), (nle rfl)⟩)
  dsimp only [Pt.U, Pt.locs, Pt.cells, Pt.slots] at X2 l2 y2 z2 st2 hQ2
  subst l2 y2 z2
  obtain ⟨rfl, N2q, K2⟩ := hQ2
  have N2 := Fr.app N0 N2q
  have e2 : T2.heap = T2.heap := rfl
  have O2 := O0.keep K2 (allS g_s all0)
  have KK2 : Keep h0 T2.heap [sa] := (Keep.refl h0 [sa]).trans K2 (allS (Or.inl (List.mem_of_getElem? (i := 0) rfl)) all0)
  have E_a : Exa Z T2.heap a "com/example/thingstead/thingstead/mimir/Treasure" := E_a.keep K2
  have F_material_a : Fld Z T2.heap a "com/example/thingstead/thingstead/mimir/Treasure" "material" "Ljava/lang/String;" (.ref sa) := F_material_a.keep K2 (ninS has nin0)
  have F_points_a : Fld Z T2.heap a "com/example/thingstead/thingstead/mimir/Treasure" "points" "I" (.int x) := F_points_a.keep K2 (ninS has nin0)
  refine goT (n := 9) (Ls' := #[.val (.ref a)]) (st' := [(.int (b0 &&& (255 : Int32))), (.int (31 : Int32))]) st2 ?_
  refine goS (n := 10) (Ls' := #[.val (.ref a)]) (st' := [(.int ((31 : Int32) * (b0 &&& (255 : Int32))))]) (fun _ kz => XS.imul X2.here hx rfl (hb hby d9_9) rfl kz) ?_
  refine goS (n := 11) (Ls' := #[.val (.ref a)]) (st' := [(.ref a), (.int ((31 : Int32) * (b0 &&& (255 : Int32))))]) (fun _ kz => XS.aloadN X2.here hx rfl (hb hby d9_10) rfl rfl kz) ?_
  obtain ⟨T3, X3, e3, st3⟩ := getF X2 hx hZ hown (host := "") (Or.inl (hw _ (List.mem_of_getElem? (i := 44) rfl))) Via.refl e2 F_points_a (g := (mkF m 11 #[.val (.ref a)] [(.ref a), (.int ((31 : Int32) * (b0 &&& (255 : Int32))))])) rfl rfl (hb hby d9_11)
  refine goS (n := 14) (Ls' := #[.val (.ref a)]) (st' := [(.int x), (.int ((31 : Int32) * (b0 &&& (255 : Int32))))]) st3 ?_
  refine goS (n := 15) (Ls' := #[.val (.ref a)]) (st' := [(.int (((31 : Int32) * (b0 &&& (255 : Int32))) + x))]) (fun _ kz => XS.iadd X3.here hx rfl (hb hby d9_14) rfl kz) ?_
  exact goRetI X3 hx hlk Bd.returns (hb hby d9_15) (nle rfl) (nle rfl) (by rw [e3]; exact ⟨rfl, N2, KK2⟩)
theorem d14_0 : decode jdk_48_method_5_code 0 = .ok (.iload_n 2, 1) := by decide +kernel
theorem d14_1 : decode jdk_48_method_5_code 1 = .ok (.iload_n 3, 1) := by decide +kernel
theorem d14_2 : decode jdk_48_method_5_code 2 = .ok (.iadd, 1) := by decide +kernel
theorem d14_3 : decode jdk_48_method_5_code 3 = .ok (.istore 4, 2) := by decide +kernel
theorem d14_5 : decode jdk_48_method_5_code 5 = .ok (.iload_n 2, 1) := by decide +kernel
theorem d14_6 : decode jdk_48_method_5_code 6 = .ok (.istore 5, 2) := by decide +kernel
theorem d14_8 : decode jdk_48_method_5_code 8 = .ok (.iload 5, 2) := by decide +kernel
theorem d14_10 : decode jdk_48_method_5_code 10 = .ok (.iload 4, 2) := by decide +kernel
theorem d14_12 : decode jdk_48_method_5_code 12 = .ok (.if_icmp .ge 23, 3) := by decide +kernel
theorem d14_15 : decode jdk_48_method_5_code 15 = .ok (.bipush 31, 2) := by decide +kernel
theorem d14_17 : decode jdk_48_method_5_code 17 = .ok (.iload_n 0, 1) := by decide +kernel
theorem d14_18 : decode jdk_48_method_5_code 18 = .ok (.imul, 1) := by decide +kernel
theorem d14_19 : decode jdk_48_method_5_code 19 = .ok (.aload_n 1, 1) := by decide +kernel
theorem d14_20 : decode jdk_48_method_5_code 20 = .ok (.iload 5, 2) := by decide +kernel
theorem d14_22 : decode jdk_48_method_5_code 22 = .ok (.baload, 1) := by decide +kernel
theorem d14_23 : decode jdk_48_method_5_code 23 = .ok (.sipush 255, 3) := by decide +kernel
theorem d14_26 : decode jdk_48_method_5_code 26 = .ok (.iand, 1) := by decide +kernel
theorem d14_27 : decode jdk_48_method_5_code 27 = .ok (.iadd, 1) := by decide +kernel
theorem d14_28 : decode jdk_48_method_5_code 28 = .ok (.istore_n 0, 1) := by decide +kernel
theorem d14_29 : decode jdk_48_method_5_code 29 = .ok (.iinc 5 1, 3) := by decide +kernel
theorem d14_32 : decode jdk_48_method_5_code 32 = .ok (.goto (-24), 3) := by decide +kernel
theorem d14_35 : decode jdk_48_method_5_code 35 = .ok (.iload_n 0, 1) := by decide +kernel
theorem d14_36 : decode jdk_48_method_5_code 36 = .ok (.ireturn, 1) := by decide +kernel
theorem pn_4 : plainName "jdk/internal/util/ArraysSupport" = true := by first | (simp [plainName, overriddenIn]; done) | decide +kernel
theorem ef_sg2 (m : MethodId) (t : Addr) : entryFrame m #[(.int (0 : Int32)), (.ref t), (.int (0 : Int32)), (.int (2 : Int32))] 6 = mkF m 0 #[.val (.int (0 : Int32)), .val (.ref t), .val (.int (0 : Int32)), .val (.int (2 : Int32)), .unset, .unset] [] := by first | (simp [entryFrame, mkF, argsToLocals, Value.category]; done) | rfl
abbrev R_sg2 : Room := { frames := 0, cells := 0, slots := 0, locals := 0 }
def Q_sg2 (Z : State) (t : Addr) (k : ClassId) (b0 : Int32) (b1 : Int32) (h0 : Heap) (n0 : Nat) (v : Option Value) (h : Heap) (L : List Loc) : Prop := v = some (.int (((31 : Int32) * (((31 : Int32) * (0 : Int32)) + (b0 &&& (255 : Int32)))) + (b1 &&& (255 : Int32)))) ∧ Fr n0 L ∧ h = h0
set_option maxRecDepth 65536 in
set_option maxHeartbeats 40000000 in
theorem rm_sg2 (l : Launch) (Z : State) (a0 : Array Value) (hw : ∀ d ∈ tables_1, d.before a0 Z = true) (ws : List Jvm.Cond) (t : Addr) (k : ClassId) (b0 : Int32) (b1 : Int32) (h0 : Heap) (n0 : Nat) (O0 : Old Z n0 h0) (V_t : Arv Z h0 t k .byte (2 : Int32) [(.int b0), (.int b1)] (.int (0 : Int32))) :
    MetFree l (⟨"jdk/internal/util/ArraysSupport", "signedHashCode", "(I[BII)I"⟩ : MethodName) (head1 (Jvm.Cond.code (⟨"jdk/internal/util/ArraysSupport", "signedHashCode", "(I[BII)I"⟩ : MethodName) jdk_48_method_5_code 6 (some .int) :: ws) R_sg2) (fun as_ U => as_ = #[(.int (0 : Int32)), (.ref t), (.int (0 : Int32)), (.int (2 : Int32))] ∧ Z.Warmed39 U.vm ∧ U.heap = h0) (fun _ _ _ _ _ => True) (fun _ U o U' => ∃ v L, o = .returned v ∧ Q_sg2 Z t k b0 b1 h0 n0 v U'.heap L ∧ FrameEnd U o U' L R_sg2.cells R_sg2.slots) := by
  refine MetFree.of_bodySF (plainFor_of_name pn_4) hisR ?_
  intro p e s m args below meth c s₁ Bd hml0 hP hK
  obtain ⟨rfl, hZ, hh⟩ := hP
  have hx := Bd.exec
  have hby := Bd.bytes
  have hml : c.maxLocals = 6 := hml0
  have hown : s.vm.findClass "jdk/internal/util/ArraysSupport" = some m.cls := findClass_of_methodNamed Bd.named
  have hnm := (name_of_methodNamed Bd.named Bd.method).1
  have hlk : meth.locks = false := BodyLoose.notSynchronized Bd
  have X0 : Stand p l e R_sg2 s m #[(.int (0 : Int32)), (.ref t), (.int (0 : Int32)), (.int (2 : Int32))] below meth c s₁ [] 0 0 := Stand.of_body Bd
  have e0 : s₁.heap = h0 := by rw [← hh, Bd.state]; rfl
  have N0 := Fr.nil n0
  refine enter (P := PQ s R_sg2.cells R_sg2.slots (Q_sg2 Z t k b0 b1 h0 n0)) (ef_sg2 m t) ?_
  refine goS (n := 1) (Ls' := #[.val (.int (0 : Int32)), .val (.ref t), .val (.int (0 : Int32)), .val (.int (2 : Int32)), .unset, .unset]) (st' := [(.int (0 : Int32))]) (fun _ kz => XS.iloadN X0.here hx rfl (hb hby d14_0) rfl kz) ?_
  refine goS (n := 2) (Ls' := #[.val (.int (0 : Int32)), .val (.ref t), .val (.int (0 : Int32)), .val (.int (2 : Int32)), .unset, .unset]) (st' := [(.int (2 : Int32)), (.int (0 : Int32))]) (fun _ kz => XS.iloadN X0.here hx rfl (hb hby d14_1) rfl kz) ?_
  refine goS (n := 3) (Ls' := #[.val (.int (0 : Int32)), .val (.ref t), .val (.int (0 : Int32)), .val (.int (2 : Int32)), .unset, .unset]) (st' := [(.int (2 : Int32))]) (fun _ kz => XS.iadd X0.here hx rfl (hb hby d14_2) rfl kz) ?_
  refine goS (n := 5) (Ls' := #[.val (.int (0 : Int32)), .val (.ref t), .val (.int (0 : Int32)), .val (.int (2 : Int32)), .val (.int (2 : Int32)), .unset]) (st' := []) (fun _ kz => XS.istore X0.here hx rfl (hb hby d14_3) rfl (l' := #[.val (.int (0 : Int32)), .val (.ref t), .val (.int (0 : Int32)), .val (.int (2 : Int32)), .val (.int (2 : Int32)), .unset]) rfl kz) ?_
  refine goS (n := 6) (Ls' := #[.val (.int (0 : Int32)), .val (.ref t), .val (.int (0 : Int32)), .val (.int (2 : Int32)), .val (.int (2 : Int32)), .unset]) (st' := [(.int (0 : Int32))]) (fun _ kz => XS.iloadN X0.here hx rfl (hb hby d14_5) rfl kz) ?_
  refine goS (n := 8) (Ls' := #[.val (.int (0 : Int32)), .val (.ref t), .val (.int (0 : Int32)), .val (.int (2 : Int32)), .val (.int (2 : Int32)), .val (.int (0 : Int32))]) (st' := []) (fun _ kz => XS.istore X0.here hx rfl (hb hby d14_6) rfl (l' := #[.val (.int (0 : Int32)), .val (.ref t), .val (.int (0 : Int32)), .val (.int (2 : Int32)), .val (.int (2 : Int32)), .val (.int (0 : Int32))]) rfl kz) ?_
  refine goS (n := 10) (Ls' := #[.val (.int (0 : Int32)), .val (.ref t), .val (.int (0 : Int32)), .val (.int (2 : Int32)), .val (.int (2 : Int32)), .val (.int (0 : Int32))]) (st' := [(.int (0 : Int32))]) (fun _ kz => XS.iload X0.here hx rfl (hb hby d14_8) rfl kz) ?_
  refine goS (n := 12) (Ls' := #[.val (.int (0 : Int32)), .val (.ref t), .val (.int (0 : Int32)), .val (.int (2 : Int32)), .val (.int (2 : Int32)), .val (.int (0 : Int32))]) (st' := [(.int (2 : Int32)), (.int (0 : Int32))]) (fun _ kz => XS.iload X0.here hx rfl (hb hby d14_10) rfl kz) ?_
  refine goS (n := 15) (Ls' := #[.val (.int (0 : Int32)), .val (.ref t), .val (.int (0 : Int32)), .val (.int (2 : Int32)), .val (.int (2 : Int32)), .val (.int (0 : Int32))]) (st' := []) (fun _ kz => XS.icmpNo X0.here hx rfl (hb hby d14_12) rfl (by decide) kz) ?_
  refine goS (n := 17) (Ls' := #[.val (.int (0 : Int32)), .val (.ref t), .val (.int (0 : Int32)), .val (.int (2 : Int32)), .val (.int (2 : Int32)), .val (.int (0 : Int32))]) (st' := [(.int (31 : Int32))]) (fun _ kz => XS.bipush X0.here hx rfl (hb hby d14_15) kz) ?_
  refine goS (n := 18) (Ls' := #[.val (.int (0 : Int32)), .val (.ref t), .val (.int (0 : Int32)), .val (.int (2 : Int32)), .val (.int (2 : Int32)), .val (.int (0 : Int32))]) (st' := [(.int (0 : Int32)), (.int (31 : Int32))]) (fun _ kz => XS.iloadN X0.here hx rfl (hb hby d14_17) rfl kz) ?_
  refine goS (n := 19) (Ls' := #[.val (.int (0 : Int32)), .val (.ref t), .val (.int (0 : Int32)), .val (.int (2 : Int32)), .val (.int (2 : Int32)), .val (.int (0 : Int32))]) (st' := [(.int ((31 : Int32) * (0 : Int32)))]) (fun _ kz => XS.imul X0.here hx rfl (hb hby d14_18) rfl kz) ?_
  refine goS (n := 20) (Ls' := #[.val (.int (0 : Int32)), .val (.ref t), .val (.int (0 : Int32)), .val (.int (2 : Int32)), .val (.int (2 : Int32)), .val (.int (0 : Int32))]) (st' := [(.ref t), (.int ((31 : Int32) * (0 : Int32)))]) (fun _ kz => XS.aloadN X0.here hx rfl (hb hby d14_19) rfl rfl kz) ?_
  refine goS (n := 22) (Ls' := #[.val (.int (0 : Int32)), .val (.ref t), .val (.int (0 : Int32)), .val (.int (2 : Int32)), .val (.int (2 : Int32)), .val (.int (0 : Int32))]) (st' := [(.int (0 : Int32)), (.ref t), (.int ((31 : Int32) * (0 : Int32)))]) (fun _ kz => XS.iload X0.here hx rfl (hb hby d14_20) rfl kz) ?_
  have vv1 := V_t
  obtain ⟨cl1, Ar1, q1, S1, Nn1, H1, G1⟩ := vv1
  have hin1 : ¬ ((0 : Int32) < 0 ∨ cl1.slots.size ≤ ((0 : Int32)).toNatClampNeg) := inb_of S1 ⟨by decide, by decide⟩
  have hat1 : cl1.slots[((0 : Int32)).toNatClampNeg]? = some (.int b0) := Has.at H1 hin1 rfl
  refine goS (n := 23) (Ls' := #[.val (.int (0 : Int32)), .val (.ref t), .val (.int (0 : Int32)), .val (.int (2 : Int32)), .val (.int (2 : Int32)), .val (.int (0 : Int32))]) (st' := [(.int b0), (.int ((31 : Int32) * (0 : Int32)))]) (fun tz kz => X0.baloadBytes hx (j := (0 : Int32)) (v := (.int b0)) (by rw [e0]; exact Ar1.1) (State.isArrayOf_alike hZ.alike Ar1.2.1) Ar1.2.2 hin1 hat1 (g := (mkF m 22 #[.val (.int (0 : Int32)), .val (.ref t), .val (.int (0 : Int32)), .val (.int (2 : Int32)), .val (.int (2 : Int32)), .val (.int (0 : Int32))] [(.int (0 : Int32)), (.ref t), (.int ((31 : Int32) * (0 : Int32)))])) rfl rfl (hb hby d14_22) tz kz) ?_
  refine goS (n := 26) (Ls' := #[.val (.int (0 : Int32)), .val (.ref t), .val (.int (0 : Int32)), .val (.int (2 : Int32)), .val (.int (2 : Int32)), .val (.int (0 : Int32))]) (st' := [(.int (255 : Int32)), (.int b0), (.int ((31 : Int32) * (0 : Int32)))]) (fun _ kz => XS.sipush X0.here hx rfl (hb hby d14_23) kz) ?_
  refine goS (n := 27) (Ls' := #[.val (.int (0 : Int32)), .val (.ref t), .val (.int (0 : Int32)), .val (.int (2 : Int32)), .val (.int (2 : Int32)), .val (.int (0 : Int32))]) (st' := [(.int (b0 &&& (255 : Int32))), (.int ((31 : Int32) * (0 : Int32)))]) (fun _ kz => XS.iand X0.here hx rfl (hb hby d14_26) rfl kz) ?_
  refine goS (n := 28) (Ls' := #[.val (.int (0 : Int32)), .val (.ref t), .val (.int (0 : Int32)), .val (.int (2 : Int32)), .val (.int (2 : Int32)), .val (.int (0 : Int32))]) (st' := [(.int (((31 : Int32) * (0 : Int32)) + (b0 &&& (255 : Int32))))]) (fun _ kz => XS.iadd X0.here hx rfl (hb hby d14_27) rfl kz) ?_
  refine goS (n := 29) (Ls' := #[.val (.int (((31 : Int32) * (0 : Int32)) + (b0 &&& (255 : Int32)))), .val (.ref t), .val (.int (0 : Int32)), .val (.int (2 : Int32)), .val (.int (2 : Int32)), .val (.int (0 : Int32))]) (st' := []) (fun _ kz => XS.istoreN X0.here hx rfl (hb hby d14_28) rfl (l' := #[.val (.int (((31 : Int32) * (0 : Int32)) + (b0 &&& (255 : Int32)))), .val (.ref t), .val (.int (0 : Int32)), .val (.int (2 : Int32)), .val (.int (2 : Int32)), .val (.int (0 : Int32))]) rfl kz) ?_
  refine goS (n := 32) (Ls' := #[.val (.int (((31 : Int32) * (0 : Int32)) + (b0 &&& (255 : Int32)))), .val (.ref t), .val (.int (0 : Int32)), .val (.int (2 : Int32)), .val (.int (2 : Int32)), .val (.int (1 : Int32))]) (st' := []) (fun _ kz => XS.iinc X0.here hx rfl (hb hby d14_29) rfl (l' := #[.val (.int (((31 : Int32) * (0 : Int32)) + (b0 &&& (255 : Int32)))), .val (.ref t), .val (.int (0 : Int32)), .val (.int (2 : Int32)), .val (.int (2 : Int32)), .val (.int (1 : Int32))]) rfl kz) ?_
  refine goS (n := 8) (Ls' := #[.val (.int (((31 : Int32) * (0 : Int32)) + (b0 &&& (255 : Int32)))), .val (.ref t), .val (.int (0 : Int32)), .val (.int (2 : Int32)), .val (.int (2 : Int32)), .val (.int (1 : Int32))]) (st' := []) (fun _ kz => XS.goto X0.here hx rfl (pc0 := 32) (pc' := 8) rfl (hb hby d14_32) (by decide) (by decide) kz) ?_
  refine goS (n := 10) (Ls' := #[.val (.int (((31 : Int32) * (0 : Int32)) + (b0 &&& (255 : Int32)))), .val (.ref t), .val (.int (0 : Int32)), .val (.int (2 : Int32)), .val (.int (2 : Int32)), .val (.int (1 : Int32))]) (st' := [(.int (1 : Int32))]) (fun _ kz => XS.iload X0.here hx rfl (hb hby d14_8) rfl kz) ?_
  refine goS (n := 12) (Ls' := #[.val (.int (((31 : Int32) * (0 : Int32)) + (b0 &&& (255 : Int32)))), .val (.ref t), .val (.int (0 : Int32)), .val (.int (2 : Int32)), .val (.int (2 : Int32)), .val (.int (1 : Int32))]) (st' := [(.int (2 : Int32)), (.int (1 : Int32))]) (fun _ kz => XS.iload X0.here hx rfl (hb hby d14_10) rfl kz) ?_
  refine goS (n := 15) (Ls' := #[.val (.int (((31 : Int32) * (0 : Int32)) + (b0 &&& (255 : Int32)))), .val (.ref t), .val (.int (0 : Int32)), .val (.int (2 : Int32)), .val (.int (2 : Int32)), .val (.int (1 : Int32))]) (st' := []) (fun _ kz => XS.icmpNo X0.here hx rfl (hb hby d14_12) rfl (by decide) kz) ?_
  refine goS (n := 17) (Ls' := #[.val (.int (((31 : Int32) * (0 : Int32)) + (b0 &&& (255 : Int32)))), .val (.ref t), .val (.int (0 : Int32)), .val (.int (2 : Int32)), .val (.int (2 : Int32)), .val (.int (1 : Int32))]) (st' := [(.int (31 : Int32))]) (fun _ kz => XS.bipush X0.here hx rfl (hb hby d14_15) kz) ?_
  refine goS (n := 18) (Ls' := #[.val (.int (((31 : Int32) * (0 : Int32)) + (b0 &&& (255 : Int32)))), .val (.ref t), .val (.int (0 : Int32)), .val (.int (2 : Int32)), .val (.int (2 : Int32)), .val (.int (1 : Int32))]) (st' := [(.int (((31 : Int32) * (0 : Int32)) + (b0 &&& (255 : Int32)))), (.int (31 : Int32))]) (fun _ kz => XS.iloadN X0.here hx rfl (hb hby d14_17) rfl kz) ?_
  refine goS (n := 19) (Ls' := #[.val (.int (((31 : Int32) * (0 : Int32)) + (b0 &&& (255 : Int32)))), .val (.ref t), .val (.int (0 : Int32)), .val (.int (2 : Int32)), .val (.int (2 : Int32)), .val (.int (1 : Int32))]) (st' := [(.int ((31 : Int32) * (((31 : Int32) * (0 : Int32)) + (b0 &&& (255 : Int32)))))]) (fun _ kz => XS.imul X0.here hx rfl (hb hby d14_18) rfl kz) ?_
  refine goS (n := 20) (Ls' := #[.val (.int (((31 : Int32) * (0 : Int32)) + (b0 &&& (255 : Int32)))), .val (.ref t), .val (.int (0 : Int32)), .val (.int (2 : Int32)), .val (.int (2 : Int32)), .val (.int (1 : Int32))]) (st' := [(.ref t), (.int ((31 : Int32) * (((31 : Int32) * (0 : Int32)) + (b0 &&& (255 : Int32)))))]) (fun _ kz => XS.aloadN X0.here hx rfl (hb hby d14_19) rfl rfl kz) ?_
  refine goS (n := 22) (Ls' := #[.val (.int (((31 : Int32) * (0 : Int32)) + (b0 &&& (255 : Int32)))), .val (.ref t), .val (.int (0 : Int32)), .val (.int (2 : Int32)), .val (.int (2 : Int32)), .val (.int (1 : Int32))]) (st' := [(.int (1 : Int32)), (.ref t), (.int ((31 : Int32) * (((31 : Int32) * (0 : Int32)) + (b0 &&& (255 : Int32)))))]) (fun _ kz => XS.iload X0.here hx rfl (hb hby d14_20) rfl kz) ?_
  have vv2 := V_t
  obtain ⟨cl2, Ar2, q2, S2, Nn2, H2, G2⟩ := vv2
  have hin2 : ¬ ((1 : Int32) < 0 ∨ cl2.slots.size ≤ ((1 : Int32)).toNatClampNeg) := inb_of S2 ⟨by decide, by decide⟩
  have hat2 : cl2.slots[((1 : Int32)).toNatClampNeg]? = some (.int b1) := Has.at H2 hin2 rfl
  refine goS (n := 23) (Ls' := #[.val (.int (((31 : Int32) * (0 : Int32)) + (b0 &&& (255 : Int32)))), .val (.ref t), .val (.int (0 : Int32)), .val (.int (2 : Int32)), .val (.int (2 : Int32)), .val (.int (1 : Int32))]) (st' := [(.int b1), (.int ((31 : Int32) * (((31 : Int32) * (0 : Int32)) + (b0 &&& (255 : Int32)))))]) (fun tz kz => X0.baloadBytes hx (j := (1 : Int32)) (v := (.int b1)) (by rw [e0]; exact Ar2.1) (State.isArrayOf_alike hZ.alike Ar2.2.1) Ar2.2.2 hin2 hat2 (g := (mkF m 22 #[.val (.int (((31 : Int32) * (0 : Int32)) + (b0 &&& (255 : Int32)))), .val (.ref t), .val (.int (0 : Int32)), .val (.int (2 : Int32)), .val (.int (2 : Int32)), .val (.int (1 : Int32))] [(.int (1 : Int32)), (.ref t), (.int ((31 : Int32) * (((31 : Int32) * (0 : Int32)) + (b0 &&& (255 : Int32)))))])) rfl rfl (hb hby d14_22) tz kz) ?_
  refine goS (n := 26) (Ls' := #[.val (.int (((31 : Int32) * (0 : Int32)) + (b0 &&& (255 : Int32)))), .val (.ref t), .val (.int (0 : Int32)), .val (.int (2 : Int32)), .val (.int (2 : Int32)), .val (.int (1 : Int32))]) (st' := [(.int (255 : Int32)), (.int b1), (.int ((31 : Int32) * (((31 : Int32) * (0 : Int32)) + (b0 &&& (255 : Int32)))))]) (fun _ kz => XS.sipush X0.here hx rfl (hb hby d14_23) kz) ?_
  refine goS (n := 27) (Ls' := #[.val (.int (((31 : Int32) * (0 : Int32)) + (b0 &&& (255 : Int32)))), .val (.ref t), .val (.int (0 : Int32)), .val (.int (2 : Int32)), .val (.int (2 : Int32)), .val (.int (1 : Int32))]) (st' := [(.int (b1 &&& (255 : Int32))), (.int ((31 : Int32) * (((31 : Int32) * (0 : Int32)) + (b0 &&& (255 : Int32)))))]) (fun _ kz => XS.iand X0.here hx rfl (hb hby d14_26) rfl kz) ?_
  refine goS (n := 28) (Ls' := #[.val (.int (((31 : Int32) * (0 : Int32)) + (b0 &&& (255 : Int32)))), .val (.ref t), .val (.int (0 : Int32)), .val (.int (2 : Int32)), .val (.int (2 : Int32)), .val (.int (1 : Int32))]) (st' := [(.int (((31 : Int32) * (((31 : Int32) * (0 : Int32)) + (b0 &&& (255 : Int32)))) + (b1 &&& (255 : Int32))))]) (fun _ kz => XS.iadd X0.here hx rfl (hb hby d14_27) rfl kz) ?_
  refine goS (n := 29) (Ls' := #[.val (.int (((31 : Int32) * (((31 : Int32) * (0 : Int32)) + (b0 &&& (255 : Int32)))) + (b1 &&& (255 : Int32)))), .val (.ref t), .val (.int (0 : Int32)), .val (.int (2 : Int32)), .val (.int (2 : Int32)), .val (.int (1 : Int32))]) (st' := []) (fun _ kz => XS.istoreN X0.here hx rfl (hb hby d14_28) rfl (l' := #[.val (.int (((31 : Int32) * (((31 : Int32) * (0 : Int32)) + (b0 &&& (255 : Int32)))) + (b1 &&& (255 : Int32)))), .val (.ref t), .val (.int (0 : Int32)), .val (.int (2 : Int32)), .val (.int (2 : Int32)), .val (.int (1 : Int32))]) rfl kz) ?_
  refine goS (n := 32) (Ls' := #[.val (.int (((31 : Int32) * (((31 : Int32) * (0 : Int32)) + (b0 &&& (255 : Int32)))) + (b1 &&& (255 : Int32)))), .val (.ref t), .val (.int (0 : Int32)), .val (.int (2 : Int32)), .val (.int (2 : Int32)), .val (.int (2 : Int32))]) (st' := []) (fun _ kz => XS.iinc X0.here hx rfl (hb hby d14_29) rfl (l' := #[.val (.int (((31 : Int32) * (((31 : Int32) * (0 : Int32)) + (b0 &&& (255 : Int32)))) + (b1 &&& (255 : Int32)))), .val (.ref t), .val (.int (0 : Int32)), .val (.int (2 : Int32)), .val (.int (2 : Int32)), .val (.int (2 : Int32))]) rfl kz) ?_
  refine goS (n := 8) (Ls' := #[.val (.int (((31 : Int32) * (((31 : Int32) * (0 : Int32)) + (b0 &&& (255 : Int32)))) + (b1 &&& (255 : Int32)))), .val (.ref t), .val (.int (0 : Int32)), .val (.int (2 : Int32)), .val (.int (2 : Int32)), .val (.int (2 : Int32))]) (st' := []) (fun _ kz => XS.goto X0.here hx rfl (pc0 := 32) (pc' := 8) rfl (hb hby d14_32) (by decide) (by decide) kz) ?_
  refine goS (n := 10) (Ls' := #[.val (.int (((31 : Int32) * (((31 : Int32) * (0 : Int32)) + (b0 &&& (255 : Int32)))) + (b1 &&& (255 : Int32)))), .val (.ref t), .val (.int (0 : Int32)), .val (.int (2 : Int32)), .val (.int (2 : Int32)), .val (.int (2 : Int32))]) (st' := [(.int (2 : Int32))]) (fun _ kz => XS.iload X0.here hx rfl (hb hby d14_8) rfl kz) ?_
  refine goS (n := 12) (Ls' := #[.val (.int (((31 : Int32) * (((31 : Int32) * (0 : Int32)) + (b0 &&& (255 : Int32)))) + (b1 &&& (255 : Int32)))), .val (.ref t), .val (.int (0 : Int32)), .val (.int (2 : Int32)), .val (.int (2 : Int32)), .val (.int (2 : Int32))]) (st' := [(.int (2 : Int32)), (.int (2 : Int32))]) (fun _ kz => XS.iload X0.here hx rfl (hb hby d14_10) rfl kz) ?_
  refine goS (n := 35) (Ls' := #[.val (.int (((31 : Int32) * (((31 : Int32) * (0 : Int32)) + (b0 &&& (255 : Int32)))) + (b1 &&& (255 : Int32)))), .val (.ref t), .val (.int (0 : Int32)), .val (.int (2 : Int32)), .val (.int (2 : Int32)), .val (.int (2 : Int32))]) (st' := []) (fun _ kz => XS.icmpYes X0.here hx rfl (pc0 := 12) (pc' := 35) rfl (hb hby d14_12) rfl (by decide) (by decide) (by decide) kz) ?_
  refine goS (n := 36) (Ls' := #[.val (.int (((31 : Int32) * (((31 : Int32) * (0 : Int32)) + (b0 &&& (255 : Int32)))) + (b1 &&& (255 : Int32)))), .val (.ref t), .val (.int (0 : Int32)), .val (.int (2 : Int32)), .val (.int (2 : Int32)), .val (.int (2 : Int32))]) (st' := [(.int (((31 : Int32) * (((31 : Int32) * (0 : Int32)) + (b0 &&& (255 : Int32)))) + (b1 &&& (255 : Int32))))]) (fun _ kz => XS.iloadN X0.here hx rfl (hb hby d14_35) rfl kz) ?_
  exact goRetI X0 hx hlk Bd.returns (hb hby d14_36) (nle rfl) (nle rfl) (by rw [e0]; exact ⟨rfl, N0, rfl⟩)
theorem d13_0 : decode jdk_48_method_4_code 0 = .ok (.iload 4, 2) := by decide +kernel
theorem d13_2 : decode jdk_48_method_4_code 2 = .ok (.tableswitch 127 4 10 #[42, 55, 127, 127, 88, 101, 114], 42) := by decide +kernel
theorem d13_44 : decode jdk_48_method_4_code 44 = .ok (.iload_n 3, 1) := by decide +kernel
theorem d13_45 : decode jdk_48_method_4_code 45 = .ok (.aload_n 0, 1) := by decide +kernel
theorem d13_46 : decode jdk_48_method_4_code 46 = .ok (.checkcast 60, 3) := by decide +kernel
theorem d13_49 : decode jdk_48_method_4_code 49 = .ok (.iload_n 1, 1) := by decide +kernel
theorem d13_50 : decode jdk_48_method_4_code 50 = .ok (.iload_n 2, 1) := by decide +kernel
theorem d13_51 : decode jdk_48_method_4_code 51 = .ok (.invokestatic 62, 3) := by decide +kernel
theorem pd_5 : parseMethodDescriptor "(I[BII)I" = some ⟨[.int, (.array .byte), .int, .int], some .int⟩ := by decide +kernel
theorem d13_54 : decode jdk_48_method_4_code 54 = .ok (.goto 103, 3) := by decide +kernel
theorem d13_157 : decode jdk_48_method_4_code 157 = .ok (.ireturn, 1) := by decide +kernel
theorem ef_vz2 (m : MethodId) (t : Addr) : entryFrame m #[(.ref t), (.int (0 : Int32)), (.int (2 : Int32)), (.int (0 : Int32)), (.int (4 : Int32))] 5 = mkF m 0 #[.val (.ref t), .val (.int (0 : Int32)), .val (.int (2 : Int32)), .val (.int (0 : Int32)), .val (.int (4 : Int32))] [] := by first | (simp [entryFrame, mkF, argsToLocals, Value.category]; done) | rfl
abbrev R_vz2 : Room := { frames := 1, cells := 0, slots := 0, locals := 17 }
def Q_vz2 (Z : State) (t : Addr) (k : ClassId) (b0 : Int32) (b1 : Int32) (h0 : Heap) (n0 : Nat) (v : Option Value) (h : Heap) (L : List Loc) : Prop := v = some (.int (((31 : Int32) * (((31 : Int32) * (0 : Int32)) + (b0 &&& (255 : Int32)))) + (b1 &&& (255 : Int32)))) ∧ Fr n0 L ∧ h = h0
set_option maxRecDepth 65536 in
set_option maxHeartbeats 40000000 in
theorem rm_vz2 (l : Launch) (Z : State) (a0 : Array Value) (hw : ∀ d ∈ tables_1, d.before a0 Z = true) (ws : List Jvm.Cond) (t : Addr) (k : ClassId) (b0 : Int32) (b1 : Int32) (h0 : Heap) (n0 : Nat) (O0 : Old Z n0 h0) (V_t : Arv Z h0 t k .byte (2 : Int32) [(.int b0), (.int b1)] (.int (0 : Int32))) (fcB : Z.vm.findClass "[B" = some k) :
    MetFree l (⟨"jdk/internal/util/ArraysSupport", "vectorizedHashCode", "(Ljava/lang/Object;IIII)I"⟩ : MethodName) (head1 (Jvm.Cond.code (⟨"jdk/internal/util/ArraysSupport", "vectorizedHashCode", "(Ljava/lang/Object;IIII)I"⟩ : MethodName) jdk_48_method_4_code 5 (some .int) :: ws) R_vz2) (fun as_ U => as_ = #[(.ref t), (.int (0 : Int32)), (.int (2 : Int32)), (.int (0 : Int32)), (.int (4 : Int32))] ∧ Z.Warmed39 U.vm ∧ U.heap = h0) (fun _ _ _ _ _ => True) (fun _ U o U' => ∃ v L, o = .returned v ∧ Q_vz2 Z t k b0 b1 h0 n0 v U'.heap L ∧ FrameEnd U o U' L R_vz2.cells R_vz2.slots) := by
  refine MetFree.of_bodySF (plainFor_of_name pn_4) hisR ?_
  intro p e s m args below meth c s₁ Bd hml0 hP hK
  obtain ⟨rfl, hZ, hh⟩ := hP
  have hx := Bd.exec
  have hby := Bd.bytes
  have hml : c.maxLocals = 5 := hml0
  have hown : s.vm.findClass "jdk/internal/util/ArraysSupport" = some m.cls := findClass_of_methodNamed Bd.named
  have hnm := (name_of_methodNamed Bd.named Bd.method).1
  have hlk : meth.locks = false := BodyLoose.notSynchronized Bd
  have X0 : Stand p l e R_vz2 s m #[(.ref t), (.int (0 : Int32)), (.int (2 : Int32)), (.int (0 : Int32)), (.int (4 : Int32))] below meth c s₁ [] 0 0 := Stand.of_body Bd
  have e0 : s₁.heap = h0 := by rw [← hh, Bd.state]; rfl
  have N0 := Fr.nil n0
  refine enter (P := PQ s R_vz2.cells R_vz2.slots (Q_vz2 Z t k b0 b1 h0 n0)) (ef_vz2 m t) ?_
  refine goS (n := 2) (Ls' := #[.val (.ref t), .val (.int (0 : Int32)), .val (.int (2 : Int32)), .val (.int (0 : Int32)), .val (.int (4 : Int32))]) (st' := [(.int (4 : Int32))]) (fun _ kz => XS.iload X0.here hx rfl (hb hby d13_0) rfl kz) ?_
  refine goS (n := 44) (Ls' := #[.val (.ref t), .val (.int (0 : Int32)), .val (.int (2 : Int32)), .val (.int (0 : Int32)), .val (.int (4 : Int32))]) (st' := []) (fun _ kz => XS.tswIn X0.here hx rfl (pc0 := 2) (pc' := 44) rfl (hb hby d13_2) rfl (by decide) (o := 42) (by decide) (by decide) (by decide) kz) ?_
  refine goS (n := 45) (Ls' := #[.val (.ref t), .val (.int (0 : Int32)), .val (.int (2 : Int32)), .val (.int (0 : Int32)), .val (.int (4 : Int32))]) (st' := [(.int (0 : Int32))]) (fun _ kz => XS.iloadN X0.here hx rfl (hb hby d13_44) rfl kz) ?_
  refine goS (n := 46) (Ls' := #[.val (.ref t), .val (.int (0 : Int32)), .val (.int (2 : Int32)), .val (.int (0 : Int32)), .val (.int (4 : Int32))]) (st' := [(.ref t), (.int (0 : Int32))]) (fun _ kz => XS.aloadN X0.here hx rfl (hb hby d13_45) rfl rfl kz) ?_
  obtain ⟨T1, X1, e1, st1⟩ := castY X0 hx hZ hown (hw _ (List.mem_of_getElem? (i := 73) rfl)) e0 (insArv V_t fcB) (g := (mkF m 46 #[.val (.ref t), .val (.int (0 : Int32)), .val (.int (2 : Int32)), .val (.int (0 : Int32)), .val (.int (4 : Int32))] [(.ref t), (.int (0 : Int32))])) rfl rfl (hb hby d13_46)
  refine goS (n := 49) (Ls' := #[.val (.ref t), .val (.int (0 : Int32)), .val (.int (2 : Int32)), .val (.int (0 : Int32)), .val (.int (4 : Int32))]) (st' := [(.ref t), (.int (0 : Int32))]) st1 ?_
  refine goS (n := 50) (Ls' := #[.val (.ref t), .val (.int (0 : Int32)), .val (.int (2 : Int32)), .val (.int (0 : Int32)), .val (.int (4 : Int32))]) (st' := [(.int (0 : Int32)), (.ref t), (.int (0 : Int32))]) (fun _ kz => XS.iloadN X1.here hx rfl (hb hby d13_49) rfl kz) ?_
  refine goS (n := 51) (Ls' := #[.val (.ref t), .val (.int (0 : Int32)), .val (.int (2 : Int32)), .val (.int (0 : Int32)), .val (.int (4 : Int32))]) (st' := [(.int (2 : Int32)), (.int (0 : Int32)), (.ref t), (.int (0 : Int32))]) (fun _ kz => XS.iloadN X1.here hx rfl (hb hby d13_50) rfl kz) ?_
  obtain ⟨vr2, _, ⟨T2, L2, k2, n2⟩, -, X2, ⟨Lc2, hQ2, l2, y2, z2⟩, st2⟩ := Jvm.LawKit.callS X1 hx (y := (⟨"jdk/internal/util/ArraysSupport", "signedHashCode", "(I[BII)I"⟩ : MethodName)) hown (mvT hZ (hw _ (List.mem_of_getElem? (i := 75) rfl))) (mvT hZ (hw _ (List.mem_of_getElem? (i := 76) rfl))) (mvT hZ (hw _ (List.mem_of_getElem? (i := 71) rfl))) (mvT hZ (hw _ (List.mem_of_getElem? (i := 77) rfl))) (by decide) (backOf (W := 0) (rm_sg2 l Z a0 hw [] t k b0 b1 h0 n0 O0 V_t) hZ (hw _ (List.mem_of_getElem? (i := 77) rfl)) (hw _ (List.mem_of_getElem? (i := 71) rfl)) (by decide) (by decide)) (g := (mkF m 51 #[.val (.ref t), .val (.int (0 : Int32)), .val (.int (2 : Int32)), .val (.int (0 : Int32)), .val (.int (4 : Int32))] [(.int (2 : Int32)), (.int (0 : Int32)), (.ref t), (.int (0 : Int32))])) rfl (by rw [hml]; rfl) (argsL := [(.int (0 : Int32)), (.ref t), (.int (0 : Int32)), (.int (2 : Int32))]) (rest := []) (lenOf pd_5 rfl) rfl (by show 2 * 0 + _ ≤ _; exact Nat.le_of_eq rfl) (hb hby d13_51) (fun _ _ => ⟨rfl, e1, (nle rfl), (nle rfl)⟩)
  dsimp only [Pt.U, Pt.locs, Pt.cells, Pt.slots] at X2 l2 y2 z2 st2 hQ2
  subst l2 y2 z2
  obtain ⟨rfl, N2q, e2⟩ := hQ2
  have N2 := Fr.app N0 N2q
  refine goS (n := 54) (Ls' := #[.val (.ref t), .val (.int (0 : Int32)), .val (.int (2 : Int32)), .val (.int (0 : Int32)), .val (.int (4 : Int32))]) (st' := [(.int (((31 : Int32) * (((31 : Int32) * (0 : Int32)) + (b0 &&& (255 : Int32)))) + (b1 &&& (255 : Int32))))]) st2 ?_
  refine goS (n := 157) (Ls' := #[.val (.ref t), .val (.int (0 : Int32)), .val (.int (2 : Int32)), .val (.int (0 : Int32)), .val (.int (4 : Int32))]) (st' := [(.int (((31 : Int32) * (((31 : Int32) * (0 : Int32)) + (b0 &&& (255 : Int32)))) + (b1 &&& (255 : Int32))))]) (fun _ kz => XS.goto X2.here hx rfl (pc0 := 54) (pc' := 157) rfl (hb hby d13_54) (by decide) (by decide) kz) ?_
  exact goRetI X2 hx hlk Bd.returns (hb hby d13_157) (nle rfl) (nle rfl) (by rw [e2]; exact ⟨rfl, N2, rfl⟩)
theorem d12_42 : decode jdk_43_method_21_code 42 = .ok (.aload_n 0, 1) := by decide +kernel
theorem d12_43 : decode jdk_43_method_21_code 43 = .ok (.iconst 0, 1) := by decide +kernel
theorem d12_44 : decode jdk_43_method_21_code 44 = .ok (.aload_n 0, 1) := by decide +kernel
theorem d12_45 : decode jdk_43_method_21_code 45 = .ok (.arraylength, 1) := by decide +kernel
theorem d12_46 : decode jdk_43_method_21_code 46 = .ok (.iconst 0, 1) := by decide +kernel
theorem d12_47 : decode jdk_43_method_21_code 47 = .ok (.iconst 4, 1) := by decide +kernel
theorem d12_48 : decode jdk_43_method_21_code 48 = .ok (.invokestatic 84, 3) := by decide +kernel
theorem pd_6 : parseMethodDescriptor "(Ljava/lang/Object;IIII)I" = some ⟨[(.object "java/lang/Object"), .int, .int, .int, .int], some .int⟩ := by decide +kernel
theorem ef_lh2 (m : MethodId) (t : Addr) : entryFrame m #[(.ref t)] 1 = mkF m 0 #[.val (.ref t)] [] := by first | (simp [entryFrame, mkF, argsToLocals, Value.category]; done) | rfl
abbrev R_lh2 : Room := { frames := 2, cells := 0, slots := 0, locals := 33 }
def Q_lh2 (Z : State) (t : Addr) (k : ClassId) (b0 : Int32) (b1 : Int32) (h0 : Heap) (n0 : Nat) (v : Option Value) (h : Heap) (L : List Loc) : Prop := v = some (.int (((31 : Int32) * (((31 : Int32) * (0 : Int32)) + (b0 &&& (255 : Int32)))) + (b1 &&& (255 : Int32)))) ∧ Fr n0 L ∧ h = h0
set_option maxRecDepth 65536 in
set_option maxHeartbeats 40000000 in
theorem rm_lh2 (l : Launch) (Z : State) (a0 : Array Value) (hw : ∀ d ∈ tables_1, d.before a0 Z = true) (ws : List Jvm.Cond) (t : Addr) (k : ClassId) (b0 : Int32) (b1 : Int32) (h0 : Heap) (n0 : Nat) (O0 : Old Z n0 h0) (V_t : Arv Z h0 t k .byte (2 : Int32) [(.int b0), (.int b1)] (.int (0 : Int32))) (fcB : Z.vm.findClass "[B" = some k) :
    MetFree l (⟨"java/lang/StringLatin1", "hashCode", "([B)I"⟩ : MethodName) (head1 (Jvm.Cond.code (⟨"java/lang/StringLatin1", "hashCode", "([B)I"⟩ : MethodName) jdk_43_method_21_code 1 (some .int) :: ws) R_lh2) (fun as_ U => as_ = #[(.ref t)] ∧ Z.Warmed39 U.vm ∧ U.heap = h0) (fun _ _ _ _ _ => True) (fun _ U o U' => ∃ v L, o = .returned v ∧ Q_lh2 Z t k b0 b1 h0 n0 v U'.heap L ∧ FrameEnd U o U' L R_lh2.cells R_lh2.slots) := by
  refine MetFree.of_bodySF (plainFor_of_name pn_3) hisR ?_
  intro p e s m args below meth c s₁ Bd hml0 hP hK
  obtain ⟨rfl, hZ, hh⟩ := hP
  have hx := Bd.exec
  have hby := Bd.bytes
  have hml : c.maxLocals = 1 := hml0
  have hown : s.vm.findClass "java/lang/StringLatin1" = some m.cls := findClass_of_methodNamed Bd.named
  have hnm := (name_of_methodNamed Bd.named Bd.method).1
  have hlk : meth.locks = false := BodyLoose.notSynchronized Bd
  have X0 : Stand p l e R_lh2 s m #[(.ref t)] below meth c s₁ [] 0 0 := Stand.of_body Bd
  have e0 : s₁.heap = h0 := by rw [← hh, Bd.state]; rfl
  have N0 := Fr.nil n0
  refine enter (P := PQ s R_lh2.cells R_lh2.slots (Q_lh2 Z t k b0 b1 h0 n0)) (ef_lh2 m t) ?_
  refine goS (n := 1) (Ls' := #[.val (.ref t)]) (st' := [(.ref t)]) (fun _ kz => XS.aloadN X0.here hx rfl (hb hby d12_0) rfl rfl kz) ?_
  have vv1 := V_t
  obtain ⟨cl1, Ar1, -, S1, Nn1, -, -⟩ := vv1
  refine goS (n := 2) (Ls' := #[.val (.ref t)]) (st' := [(.int (2 : Int32))]) (fun tz kz => X0.arraylength hx (by rw [e0]; exact Ar1.1) (State.isArrayOf_alike hZ.alike Ar1.2.1) (g := (mkF m 1 #[.val (.ref t)] [(.ref t)])) rfl rfl (hb hby d12_1) tz (by rw [len_of S1 Nn1]; exact kz)) ?_
  refine goS (n := 42) (Ls' := #[.val (.ref t)]) (st' := []) (fun _ kz => lsw (g := (mkF m 2 #[.val (.ref t)] [(.int (2 : Int32))])) X0 hx rfl (pc0 := 2) (pc' := 42) rfl (o := 40) (hb hby d12_2) rfl (by intro a b c d h; revert h; simp; try omega) (Or.inr ⟨rfl, rfl⟩) (by decide) (by decide) kz) ?_
  refine goS (n := 43) (Ls' := #[.val (.ref t)]) (st' := [(.ref t)]) (fun _ kz => XS.aloadN X0.here hx rfl (hb hby d12_42) rfl rfl kz) ?_
  refine goS (n := 44) (Ls' := #[.val (.ref t)]) (st' := [(.int (0 : Int32)), (.ref t)]) (fun _ kz => XS.iconst X0.here hx rfl (hb hby d12_43) kz) ?_
  refine goS (n := 45) (Ls' := #[.val (.ref t)]) (st' := [(.ref t), (.int (0 : Int32)), (.ref t)]) (fun _ kz => XS.aloadN X0.here hx rfl (hb hby d12_44) rfl rfl kz) ?_
  have vv2 := V_t
  obtain ⟨cl2, Ar2, -, S2, Nn2, -, -⟩ := vv2
  refine goS (n := 46) (Ls' := #[.val (.ref t)]) (st' := [(.int (2 : Int32)), (.int (0 : Int32)), (.ref t)]) (fun tz kz => X0.arraylength hx (by rw [e0]; exact Ar2.1) (State.isArrayOf_alike hZ.alike Ar2.2.1) (g := (mkF m 45 #[.val (.ref t)] [(.ref t), (.int (0 : Int32)), (.ref t)])) rfl rfl (hb hby d12_45) tz (by rw [len_of S2 Nn2]; exact kz)) ?_
  refine goS (n := 47) (Ls' := #[.val (.ref t)]) (st' := [(.int (0 : Int32)), (.int (2 : Int32)), (.int (0 : Int32)), (.ref t)]) (fun _ kz => XS.iconst X0.here hx rfl (hb hby d12_46) kz) ?_
  refine goS (n := 48) (Ls' := #[.val (.ref t)]) (st' := [(.int (4 : Int32)), (.int (0 : Int32)), (.int (2 : Int32)), (.int (0 : Int32)), (.ref t)]) (fun _ kz => XS.iconst X0.here hx rfl (hb hby d12_47) kz) ?_
  obtain ⟨vr3, _, ⟨T3, L3, k3, n3⟩, -, X3, ⟨Lc3, hQ3, l3, y3, z3⟩, st3⟩ := Jvm.LawKit.callS X0 hx (y := (⟨"jdk/internal/util/ArraysSupport", "vectorizedHashCode", "(Ljava/lang/Object;IIII)I"⟩ : MethodName)) hown (mvT hZ (hw _ (List.mem_of_getElem? (i := 69) rfl))) (mvT hZ (hw _ (List.mem_of_getElem? (i := 70) rfl))) (mvT hZ (hw _ (List.mem_of_getElem? (i := 71) rfl))) (mvT hZ (hw _ (List.mem_of_getElem? (i := 72) rfl))) (by decide) (backOf (W := 0) (rm_vz2 l Z a0 hw [] t k b0 b1 h0 n0 O0 V_t fcB) hZ (hw _ (List.mem_of_getElem? (i := 72) rfl)) (hw _ (List.mem_of_getElem? (i := 71) rfl)) (by decide) (by decide)) (g := (mkF m 48 #[.val (.ref t)] [(.int (4 : Int32)), (.int (0 : Int32)), (.int (2 : Int32)), (.int (0 : Int32)), (.ref t)])) rfl (by rw [hml]; rfl) (argsL := [(.ref t), (.int (0 : Int32)), (.int (2 : Int32)), (.int (0 : Int32)), (.int (4 : Int32))]) (rest := []) (lenOf pd_6 rfl) rfl (by show 2 * 0 + _ ≤ _; exact Nat.le_of_eq rfl) (hb hby d12_48) (fun _ _ => ⟨rfl, e0, (nle rfl), (nle rfl)⟩)
  dsimp only [Pt.U, Pt.locs, Pt.cells, Pt.slots] at X3 l3 y3 z3 st3 hQ3
  subst l3 y3 z3
  obtain ⟨rfl, N3q, e3⟩ := hQ3
  have N3 := Fr.app N0 N3q
  refine goS (n := 51) (Ls' := #[.val (.ref t)]) (st' := [(.int (((31 : Int32) * (((31 : Int32) * (0 : Int32)) + (b0 &&& (255 : Int32)))) + (b1 &&& (255 : Int32))))]) st3 ?_
  exact goRetI X3 hx hlk Bd.returns (hb hby d12_51) (nle rfl) (nle rfl) (by rw [e3]; exact ⟨rfl, N3, rfl⟩)
theorem ef_hc2 (m : MethodId) (a : Addr) : entryFrame m #[(.ref a)] 2 = mkF m 0 #[.val (.ref a), .unset] [] := by first | (simp [entryFrame, mkF, argsToLocals, Value.category]; done) | rfl
abbrev R_hc2 : Room := { frames := 3, cells := 0, slots := 0, locals := 45 }
def Q_hc2 (Z : State) (a : Addr) (cs : Int32) (t : Addr) (k : ClassId) (b0 : Int32) (b1 : Int32) (h0 : Heap) (n0 : Nat) (v : Option Value) (h : Heap) (L : List Loc) : Prop := v = some (.int (((31 : Int32) * (((31 : Int32) * (0 : Int32)) + (b0 &&& (255 : Int32)))) + (b1 &&& (255 : Int32)))) ∧ Fr n0 L ∧ Keep h0 h [a]
set_option maxRecDepth 65536 in
set_option maxHeartbeats 40000000 in
theorem rm_hc2 (l : Launch) (Z : State) (a0 : Array Value) (hw : ∀ d ∈ tables_1, d.before a0 Z = true) (ws : List Jvm.Cond) (a : Addr) (cs : Int32) (t : Addr) (k : ClassId) (b0 : Int32) (b1 : Int32) (h0 : Heap) (n0 : Nat) (O0 : Old Z n0 h0) (S_CS : Sta Z Z.heap "java/lang/String" "COMPACT_STRINGS" "Z" (.int cs)) (hcs : ¬ cs = (0 : Int32)) (E_a : Exa Z h0 a "java/lang/String") (F_value_a : Fld Z h0 a "java/lang/String" "value" "[B" (.ref t)) (F_coder_a : Fld Z h0 a "java/lang/String" "coder" "B" (.int (0 : Int32))) (F_hash_a : Fld Z h0 a "java/lang/String" "hash" "I" (.int (0 : Int32))) (F_hashIsZero_a : Fld Z h0 a "java/lang/String" "hashIsZero" "Z" (.int (0 : Int32))) (V_t : Arv Z h0 t k .byte (2 : Int32) [(.int b0), (.int b1)] (.int (0 : Int32))) (fcB : Z.vm.findClass "[B" = some k) (g_a : n0 ≤ a) :
    MetFree l (⟨"java/lang/String", "hashCode", "()I"⟩ : MethodName) (head1 (Jvm.Cond.code (⟨"java/lang/String", "hashCode", "()I"⟩ : MethodName) jdk_42_method_78_code 2 (some .int) :: ws) R_hc2) (fun as_ U => as_ = #[(.ref a)] ∧ Z.Warmed39 U.vm ∧ U.heap = h0) (fun _ _ _ _ _ => True) (fun _ U o U' => ∃ v L, o = .returned v ∧ Q_hc2 Z a cs t k b0 b1 h0 n0 v U'.heap L ∧ FrameEnd U o U' L R_hc2.cells R_hc2.slots) := by
  refine MetFree.of_bodySF (plainFor_of_name pn_0) hisR ?_
  intro p e s m args below meth c s₁ Bd hml0 hP hK
  obtain ⟨rfl, hZ, hh⟩ := hP
  have hx := Bd.exec
  have hby := Bd.bytes
  have hml : c.maxLocals = 2 := hml0
  have hown : s.vm.findClass "java/lang/String" = some m.cls := findClass_of_methodNamed Bd.named
  have hnm := (name_of_methodNamed Bd.named Bd.method).1
  have hlk : meth.locks = false := BodyLoose.notSynchronized Bd
  have X0 : Stand p l e R_hc2 s m #[(.ref a)] below meth c s₁ [] 0 0 := Stand.of_body Bd
  have e0 : s₁.heap = h0 := by rw [← hh, Bd.state]; rfl
  have N0 := Fr.nil n0
  refine enter (P := PQ s R_hc2.cells R_hc2.slots (Q_hc2 Z a cs t k b0 b1 h0 n0)) (ef_hc2 m a) ?_
  refine goS (n := 1) (Ls' := #[.val (.ref a), .unset]) (st' := [(.ref a)]) (fun _ kz => XS.aloadN X0.here hx rfl (hb hby d10_0) rfl rfl kz) ?_
  obtain ⟨T1, X1, e1, st1⟩ := getF X0 hx hZ hown (host := "") (Or.inl (hw _ (List.mem_of_getElem? (i := 56) rfl))) Via.refl e0 F_hash_a (g := (mkF m 1 #[.val (.ref a), .unset] [(.ref a)])) rfl rfl (hb hby d10_1)
  refine goS (n := 4) (Ls' := #[.val (.ref a), .unset]) (st' := [(.int (0 : Int32))]) st1 ?_
  refine goS (n := 5) (Ls' := #[.val (.ref a), .val (.int (0 : Int32))]) (st' := []) (fun _ kz => XS.istoreN X1.here hx rfl (hb hby d10_4) rfl (l' := #[.val (.ref a), .val (.int (0 : Int32))]) rfl kz) ?_
  refine goS (n := 6) (Ls' := #[.val (.ref a), .val (.int (0 : Int32))]) (st' := [(.int (0 : Int32))]) (fun _ kz => XS.iloadN X1.here hx rfl (hb hby d10_5) rfl kz) ?_
  refine goS (n := 9) (Ls' := #[.val (.ref a), .val (.int (0 : Int32))]) (st' := []) (fun _ kz => XS.ifNo X1.here hx rfl (hb hby d10_6) rfl (by decide) kz) ?_
  refine goS (n := 10) (Ls' := #[.val (.ref a), .val (.int (0 : Int32))]) (st' := [(.ref a)]) (fun _ kz => XS.aloadN X1.here hx rfl (hb hby d10_9) rfl rfl kz) ?_
  obtain ⟨T2, X2, e2, st2⟩ := getF X1 hx hZ hown (host := "") (Or.inl (hw _ (List.mem_of_getElem? (i := 58) rfl))) Via.refl e1 F_hashIsZero_a (g := (mkF m 10 #[.val (.ref a), .val (.int (0 : Int32))] [(.ref a)])) rfl rfl (hb hby d10_10)
  refine goS (n := 13) (Ls' := #[.val (.ref a), .val (.int (0 : Int32))]) (st' := [(.int (0 : Int32))]) st2 ?_
  refine goS (n := 16) (Ls' := #[.val (.ref a), .val (.int (0 : Int32))]) (st' := []) (fun _ kz => XS.ifNo X2.here hx rfl (hb hby d10_13) rfl (by decide) kz) ?_
  refine goS (n := 17) (Ls' := #[.val (.ref a), .val (.int (0 : Int32))]) (st' := [(.ref a)]) (fun _ kz => XS.aloadN X2.here hx rfl (hb hby d10_16) rfl rfl kz) ?_
  obtain ⟨cq3, kq3, q3a, q3b, q3c⟩ := isOf hZ e2 E_a
  obtain ⟨vr3, _, ⟨T3, L3, k3, n3⟩, -, X3, ⟨Lc3, hQ3, l3, y3, z3⟩, st3⟩ := X2.virtualBack hx (y := (⟨"java/lang/String", "isLatin1", "()Z"⟩ : MethodName)) (z := (⟨"java/lang/String", "isLatin1", "()Z"⟩ : MethodName)) hown (mvT hZ (hw _ (List.mem_of_getElem? (i := 60) rfl))) (mvT hZ (hw _ (List.mem_of_getElem? (i := 61) rfl))) (notFace_of_selects (args := #[]) (mvT hZ (hw _ (List.mem_of_getElem? (i := 63) rfl)))) (mvT hZ (hw _ (List.mem_of_getElem? (i := 63) rfl))) (mvT hZ (hw _ (List.mem_of_getElem? (i := 62) rfl))) (by decide) (backOf (W := 0) (rm_isl l Z a0 hw [] a cs h0 n0 O0 S_CS hcs F_coder_a) hZ (hw _ (List.mem_of_getElem? (i := 64) rfl)) (hw _ (List.mem_of_getElem? (i := 6) rfl)) (by decide) (by decide)) q3a q3c (g := (mkF m 17 #[.val (.ref a), .val (.int (0 : Int32))] [(.ref a)])) rfl (by rw [hml]; rfl) (Steps.refl _) (argsL := []) (rest := []) (lenOf pd_2 rfl) rfl (by show 2 * 0 + _ ≤ _; exact Nat.le_of_eq rfl) (hb hby d10_17) (fun _ _ => ⟨rfl, e2, (nle rfl), (nle rfl)⟩)
  dsimp only [Pt.U, Pt.locs, Pt.cells, Pt.slots] at X3 l3 y3 z3 st3 hQ3
  subst l3 y3 z3
  obtain ⟨rfl, N3q, e3⟩ := hQ3
  have N3 := Fr.app N0 N3q
  refine goT (n := 20) (Ls' := #[.val (.ref a), .val (.int (0 : Int32))]) (st' := [(.int (1 : Int32))]) st3 ?_
  refine goS (n := 23) (Ls' := #[.val (.ref a), .val (.int (0 : Int32))]) (st' := []) (fun _ kz => XS.ifNo X3.here hx rfl (hb hby d10_20) rfl (by decide) kz) ?_
  refine goS (n := 24) (Ls' := #[.val (.ref a), .val (.int (0 : Int32))]) (st' := [(.ref a)]) (fun _ kz => XS.aloadN X3.here hx rfl (hb hby d10_23) rfl rfl kz) ?_
  obtain ⟨T4, X4, e4, st4⟩ := getF X3 hx hZ hown (host := "") (Or.inl (hw _ (List.mem_of_getElem? (i := 31) rfl))) Via.refl e3 F_value_a (g := (mkF m 24 #[.val (.ref a), .val (.int (0 : Int32))] [(.ref a)])) rfl rfl (hb hby d10_24)
  refine goS (n := 27) (Ls' := #[.val (.ref a), .val (.int (0 : Int32))]) (st' := [(.ref t)]) st4 ?_
  obtain ⟨vr5, _, ⟨T5, L5, k5, n5⟩, -, X5, ⟨Lc5, hQ5, l5, y5, z5⟩, st5⟩ := Jvm.LawKit.callS X4 hx (y := (⟨"java/lang/StringLatin1", "hashCode", "([B)I"⟩ : MethodName)) hown (mvT hZ (hw _ (List.mem_of_getElem? (i := 65) rfl))) (mvT hZ (hw _ (List.mem_of_getElem? (i := 66) rfl))) (mvT hZ (hw _ (List.mem_of_getElem? (i := 67) rfl))) (mvT hZ (hw _ (List.mem_of_getElem? (i := 68) rfl))) (by decide) (backOf (W := 0) (rm_lh2 l Z a0 hw [] t k b0 b1 h0 n0 O0 V_t fcB) hZ (hw _ (List.mem_of_getElem? (i := 68) rfl)) (hw _ (List.mem_of_getElem? (i := 67) rfl)) (by decide) (by decide)) (g := (mkF m 27 #[.val (.ref a), .val (.int (0 : Int32))] [(.ref t)])) rfl (by rw [hml]; rfl) (argsL := [(.ref t)]) (rest := []) (lenOf pd_3 rfl) rfl (by show 2 * 0 + _ ≤ _; exact Nat.le_of_eq rfl) (hb hby d10_27) (fun _ _ => ⟨rfl, e4, (nle rfl), (nle rfl)⟩)
  dsimp only [Pt.U, Pt.locs, Pt.cells, Pt.slots] at X5 l5 y5 z5 st5 hQ5
  subst l5 y5 z5
  obtain ⟨rfl, N5q, e5⟩ := hQ5
  have N5 := Fr.app N3 N5q
  refine goS (n := 30) (Ls' := #[.val (.ref a), .val (.int (0 : Int32))]) (st' := [(.int (((31 : Int32) * (((31 : Int32) * (0 : Int32)) + (b0 &&& (255 : Int32)))) + (b1 &&& (255 : Int32))))]) st5 ?_
  refine goS (n := 40) (Ls' := #[.val (.ref a), .val (.int (0 : Int32))]) (st' := [(.int (((31 : Int32) * (((31 : Int32) * (0 : Int32)) + (b0 &&& (255 : Int32)))) + (b1 &&& (255 : Int32))))]) (fun _ kz => XS.goto X5.here hx rfl (pc0 := 30) (pc' := 40) rfl (hb hby d10_30) (by decide) (by decide) kz) ?_
  refine goS (n := 41) (Ls' := #[.val (.ref a), .val (.int (((31 : Int32) * (((31 : Int32) * (0 : Int32)) + (b0 &&& (255 : Int32)))) + (b1 &&& (255 : Int32))))]) (st' := []) (fun _ kz => XS.istoreN X5.here hx rfl (hb hby d10_40) rfl (l' := #[.val (.ref a), .val (.int (((31 : Int32) * (((31 : Int32) * (0 : Int32)) + (b0 &&& (255 : Int32)))) + (b1 &&& (255 : Int32))))]) rfl kz) ?_
  refine goS (n := 42) (Ls' := #[.val (.ref a), .val (.int (((31 : Int32) * (((31 : Int32) * (0 : Int32)) + (b0 &&& (255 : Int32)))) + (b1 &&& (255 : Int32))))]) (st' := [(.int (((31 : Int32) * (((31 : Int32) * (0 : Int32)) + (b0 &&& (255 : Int32)))) + (b1 &&& (255 : Int32))))]) (fun _ kz => XS.iloadN X5.here hx rfl (hb hby d10_41) rfl kz) ?_
  by_cases hc6 : (((31 : Int32) * (((31 : Int32) * (0 : Int32)) + (b0 &&& (255 : Int32)))) + (b1 &&& (255 : Int32))) = (0 : Int32)
  · refine goS (n := 45) (Ls' := #[.val (.ref a), .val (.int (((31 : Int32) * (((31 : Int32) * (0 : Int32)) + (b0 &&& (255 : Int32)))) + (b1 &&& (255 : Int32))))]) (st' := []) (fun _ kz => XS.ifNo X5.here hx rfl (hb hby d10_42) rfl ((if0 _ _).trans (teq hc6).2) kz) ?_
    refine goS (n := 46) (Ls' := #[.val (.ref a), .val (.int (((31 : Int32) * (((31 : Int32) * (0 : Int32)) + (b0 &&& (255 : Int32)))) + (b1 &&& (255 : Int32))))]) (st' := [(.ref a)]) (fun _ kz => XS.aloadN X5.here hx rfl (hb hby d10_45) rfl rfl kz) ?_
    refine goS (n := 47) (Ls' := #[.val (.ref a), .val (.int (((31 : Int32) * (((31 : Int32) * (0 : Int32)) + (b0 &&& (255 : Int32)))) + (b1 &&& (255 : Int32))))]) (st' := [(.int (1 : Int32)), (.ref a)]) (fun _ kz => XS.iconst X5.here hx rfl (hb hby d10_46) kz) ?_
    obtain ⟨T7, h7, X7, e7, W7, st7⟩ := putFN X5 hx hZ hown (hw _ (List.mem_of_getElem? (i := 58) rfl)) Via.refl e5 F_hashIsZero_a E_a (Or.inl (hw _ (List.mem_of_getElem? (i := 59) rfl))) (hw _ (List.mem_of_getElem? (i := 5) rfl)) (ty := .boolean) (v' := (.int (1 : Int32))) (by decide) rfl rfl (g := (mkF m 47 #[.val (.ref a), .val (.int (((31 : Int32) * (((31 : Int32) * (0 : Int32)) + (b0 &&& (255 : Int32)))) + (b1 &&& (255 : Int32))))] [(.int (1 : Int32)), (.ref a)])) rfl rfl (hb hby d10_47)
    have Fn7 : Fld Z h7 a "java/lang/String" "hashIsZero" "Z" (.int (1 : Int32)) := F_hashIsZero_a.same W7
    have ne8 : a ≠ t := neEA E_a (hw _ (List.mem_of_getElem? (i := 5) rfl)) V_t
    have E_a : Exa Z h7 a "java/lang/String" := E_a.wr W7
    have F_value_a : Fld Z h7 a "java/lang/String" "value" "[B" (.ref t) := F_value_a.other W7 (Or.inr (slot_ne (Or.inr (hw _ (List.mem_of_getElem? (i := 32) rfl))) (Or.inl (hw _ (List.mem_of_getElem? (i := 59) rfl))) (by decide) (t := (.array .byte)) (t' := .boolean) (by decide) (by decide)))
    have F_coder_a : Fld Z h7 a "java/lang/String" "coder" "B" (.int (0 : Int32)) := F_coder_a.other W7 (Or.inr (slot_ne (Or.inr (hw _ (List.mem_of_getElem? (i := 30) rfl))) (Or.inl (hw _ (List.mem_of_getElem? (i := 59) rfl))) (by decide) (t := .byte) (t' := .boolean) (by decide) (by decide)))
    have F_hash_a : Fld Z h7 a "java/lang/String" "hash" "I" (.int (0 : Int32)) := F_hash_a.other W7 (Or.inr (slot_ne (Or.inl (hw _ (List.mem_of_getElem? (i := 57) rfl))) (Or.inl (hw _ (List.mem_of_getElem? (i := 59) rfl))) (by decide) (t := .int) (t' := .boolean) (by decide) (by decide)))
    have V_t : Arv Z h7 t k .byte (2 : Int32) [(.int b0), (.int b1)] (.int (0 : Int32)) := V_t.other W7 (Ne.symm ne8)
    have F_hashIsZero_a := Fn7
    have N7 := Fr.snoc X7 N5 g_a
    have O7 := O0.wr W7 g_a
    have KK7 : Keep h0 h7 [a] := (Keep.refl h0 [a]).wr W7 (Or.inl (List.mem_of_getElem? (i := 0) rfl))
    refine goS (n := 50) (Ls' := #[.val (.ref a), .val (.int (((31 : Int32) * (((31 : Int32) * (0 : Int32)) + (b0 &&& (255 : Int32)))) + (b1 &&& (255 : Int32))))]) (st' := []) st7 ?_
    refine goS (n := 58) (Ls' := #[.val (.ref a), .val (.int (((31 : Int32) * (((31 : Int32) * (0 : Int32)) + (b0 &&& (255 : Int32)))) + (b1 &&& (255 : Int32))))]) (st' := []) (fun _ kz => XS.goto X7.here hx rfl (pc0 := 50) (pc' := 58) rfl (hb hby d10_50) (by decide) (by decide) kz) ?_
    refine goS (n := 59) (Ls' := #[.val (.ref a), .val (.int (((31 : Int32) * (((31 : Int32) * (0 : Int32)) + (b0 &&& (255 : Int32)))) + (b1 &&& (255 : Int32))))]) (st' := [(.int (((31 : Int32) * (((31 : Int32) * (0 : Int32)) + (b0 &&& (255 : Int32)))) + (b1 &&& (255 : Int32))))]) (fun _ kz => XS.iloadN X7.here hx rfl (hb hby d10_58) rfl kz) ?_
    exact goRetI X7 hx hlk Bd.returns (hb hby d10_59) (nle rfl) (nle rfl) (by rw [e7]; exact ⟨rfl, N7, KK7⟩)
  · refine goS (n := 53) (Ls' := #[.val (.ref a), .val (.int (((31 : Int32) * (((31 : Int32) * (0 : Int32)) + (b0 &&& (255 : Int32)))) + (b1 &&& (255 : Int32))))]) (st' := []) (fun _ kz => XS.ifYes X5.here hx rfl (pc0 := 42) (pc' := 53) rfl (hb hby d10_42) rfl ((if0 _ _).trans (feq hc6).2) (by decide) (by decide) kz) ?_
    refine goS (n := 54) (Ls' := #[.val (.ref a), .val (.int (((31 : Int32) * (((31 : Int32) * (0 : Int32)) + (b0 &&& (255 : Int32)))) + (b1 &&& (255 : Int32))))]) (st' := [(.ref a)]) (fun _ kz => XS.aloadN X5.here hx rfl (hb hby d10_53) rfl rfl kz) ?_
    refine goS (n := 55) (Ls' := #[.val (.ref a), .val (.int (((31 : Int32) * (((31 : Int32) * (0 : Int32)) + (b0 &&& (255 : Int32)))) + (b1 &&& (255 : Int32))))]) (st' := [(.int (((31 : Int32) * (((31 : Int32) * (0 : Int32)) + (b0 &&& (255 : Int32)))) + (b1 &&& (255 : Int32)))), (.ref a)]) (fun _ kz => XS.iloadN X5.here hx rfl (hb hby d10_54) rfl kz) ?_
    obtain ⟨T9, h9, X9, e9, W9, st9⟩ := putF X5 hx hZ hown (host := "") (Or.inl (hw _ (List.mem_of_getElem? (i := 56) rfl))) Via.refl e5 F_hash_a E_a (Or.inl (hw _ (List.mem_of_getElem? (i := 57) rfl))) (hw _ (List.mem_of_getElem? (i := 5) rfl)) (ty := .int) (v := (.int (((31 : Int32) * (((31 : Int32) * (0 : Int32)) + (b0 &&& (255 : Int32)))) + (b1 &&& (255 : Int32))))) (by decide) rfl rfl (g := (mkF m 55 #[.val (.ref a), .val (.int (((31 : Int32) * (((31 : Int32) * (0 : Int32)) + (b0 &&& (255 : Int32)))) + (b1 &&& (255 : Int32))))] [(.int (((31 : Int32) * (((31 : Int32) * (0 : Int32)) + (b0 &&& (255 : Int32)))) + (b1 &&& (255 : Int32)))), (.ref a)])) rfl rfl (hb hby d10_55)
    have Fn9 : Fld Z h9 a "java/lang/String" "hash" "I" (.int (((31 : Int32) * (((31 : Int32) * (0 : Int32)) + (b0 &&& (255 : Int32)))) + (b1 &&& (255 : Int32)))) := F_hash_a.same W9
    have ne10 : a ≠ t := neEA E_a (hw _ (List.mem_of_getElem? (i := 5) rfl)) V_t
    have E_a : Exa Z h9 a "java/lang/String" := E_a.wr W9
    have F_value_a : Fld Z h9 a "java/lang/String" "value" "[B" (.ref t) := F_value_a.other W9 (Or.inr (slot_ne (Or.inr (hw _ (List.mem_of_getElem? (i := 32) rfl))) (Or.inl (hw _ (List.mem_of_getElem? (i := 57) rfl))) (by decide) (t := (.array .byte)) (t' := .int) (by decide) (by decide)))
    have F_coder_a : Fld Z h9 a "java/lang/String" "coder" "B" (.int (0 : Int32)) := F_coder_a.other W9 (Or.inr (slot_ne (Or.inr (hw _ (List.mem_of_getElem? (i := 30) rfl))) (Or.inl (hw _ (List.mem_of_getElem? (i := 57) rfl))) (by decide) (t := .byte) (t' := .int) (by decide) (by decide)))
    have F_hashIsZero_a : Fld Z h9 a "java/lang/String" "hashIsZero" "Z" (.int (0 : Int32)) := F_hashIsZero_a.other W9 (Or.inr (slot_ne (Or.inl (hw _ (List.mem_of_getElem? (i := 59) rfl))) (Or.inl (hw _ (List.mem_of_getElem? (i := 57) rfl))) (by decide) (t := .boolean) (t' := .int) (by decide) (by decide)))
    have V_t : Arv Z h9 t k .byte (2 : Int32) [(.int b0), (.int b1)] (.int (0 : Int32)) := V_t.other W9 (Ne.symm ne10)
    have F_hash_a := Fn9
    have N9 := Fr.snoc X9 N5 g_a
    have O9 := O0.wr W9 g_a
    have KK9 : Keep h0 h9 [a] := (Keep.refl h0 [a]).wr W9 (Or.inl (List.mem_of_getElem? (i := 0) rfl))
    refine goS (n := 58) (Ls' := #[.val (.ref a), .val (.int (((31 : Int32) * (((31 : Int32) * (0 : Int32)) + (b0 &&& (255 : Int32)))) + (b1 &&& (255 : Int32))))]) (st' := []) st9 ?_
    refine goS (n := 59) (Ls' := #[.val (.ref a), .val (.int (((31 : Int32) * (((31 : Int32) * (0 : Int32)) + (b0 &&& (255 : Int32)))) + (b1 &&& (255 : Int32))))]) (st' := [(.int (((31 : Int32) * (((31 : Int32) * (0 : Int32)) + (b0 &&& (255 : Int32)))) + (b1 &&& (255 : Int32))))]) (fun _ kz => XS.iloadN X9.here hx rfl (hb hby d10_58) rfl kz) ?_
    exact goRetI X9 hx hlk Bd.returns (hb hby d10_59) (nle rfl) (nle rfl) (by rw [e9]; exact ⟨rfl, N9, KK9⟩)
theorem ef_th2 (m : MethodId) (a : Addr) : entryFrame m #[(.ref a)] 1 = mkF m 0 #[.val (.ref a)] [] := by first | (simp [entryFrame, mkF, argsToLocals, Value.category]; done) | rfl
abbrev R_th2 : Room := { frames := 4, cells := 0, slots := 0, locals := 59 }
def Q_th2 (Z : State) (a : Addr) (sa : Addr) (x : Int32) (cs : Int32) (t : Addr) (k : ClassId) (b0 : Int32) (b1 : Int32) (h0 : Heap) (n0 : Nat) (v : Option Value) (h : Heap) (L : List Loc) : Prop := v = some (.int (((31 : Int32) * (((31 : Int32) * (((31 : Int32) * (0 : Int32)) + (b0 &&& (255 : Int32)))) + (b1 &&& (255 : Int32)))) + x)) ∧ Fr n0 L ∧ Keep h0 h [sa]
set_option maxRecDepth 65536 in
set_option maxHeartbeats 40000000 in
theorem rm_th2 (l : Launch) (Z : State) (a0 : Array Value) (hw : ∀ d ∈ tables_1, d.before a0 Z = true) (ws : List Jvm.Cond) (a : Addr) (sa : Addr) (x : Int32) (cs : Int32) (t : Addr) (k : ClassId) (b0 : Int32) (b1 : Int32) (h0 : Heap) (n0 : Nat) (O0 : Old Z n0 h0) (S_CS : Sta Z Z.heap "java/lang/String" "COMPACT_STRINGS" "Z" (.int cs)) (hcs : ¬ cs = (0 : Int32)) (E_a : Exa Z h0 a "com/example/thingstead/thingstead/mimir/Treasure") (F_material_a : Fld Z h0 a "com/example/thingstead/thingstead/mimir/Treasure" "material" "Ljava/lang/String;" (.ref sa)) (F_points_a : Fld Z h0 a "com/example/thingstead/thingstead/mimir/Treasure" "points" "I" (.int x)) (Es : Exa Z h0 sa "java/lang/String") (Fv : Fld Z h0 sa "java/lang/String" "value" "[B" (.ref t)) (Fc : Fld Z h0 sa "java/lang/String" "coder" "B" (.int (0 : Int32))) (Fh : Fld Z h0 sa "java/lang/String" "hash" "I" (.int (0 : Int32))) (Fz : Fld Z h0 sa "java/lang/String" "hashIsZero" "Z" (.int (0 : Int32))) (V_t : Arv Z h0 t k .byte (2 : Int32) [(.int b0), (.int b1)] (.int (0 : Int32))) (fcB : Z.vm.findClass "[B" = some k) (g_s : n0 ≤ sa) (has : a ≠ sa) :
    MetFree l (⟨"com/example/thingstead/thingstead/mimir/Treasure", "hashCode", "()I"⟩ : MethodName) (head1 (Jvm.Cond.code (⟨"com/example/thingstead/thingstead/mimir/Treasure", "hashCode", "()I"⟩ : MethodName) prog_8_method_3_code 1 (some .int) :: ws) R_th2) (fun as_ U => as_ = #[(.ref a)] ∧ Z.Warmed39 U.vm ∧ U.heap = h0) (fun _ _ _ _ _ => True) (fun _ U o U' => ∃ v L, o = .returned v ∧ Q_th2 Z a sa x cs t k b0 b1 h0 n0 v U'.heap L ∧ FrameEnd U o U' L R_th2.cells R_th2.slots) := by
  refine MetFree.of_bodySF (plainFor_of_name pn_2) hisR ?_
  intro p e s m args below meth c s₁ Bd hml0 hP hK
  obtain ⟨rfl, hZ, hh⟩ := hP
  have hx := Bd.exec
  have hby := Bd.bytes
  have hml : c.maxLocals = 1 := hml0
  have hown : s.vm.findClass "com/example/thingstead/thingstead/mimir/Treasure" = some m.cls := findClass_of_methodNamed Bd.named
  have hnm := (name_of_methodNamed Bd.named Bd.method).1
  have hlk : meth.locks = false := BodyLoose.notSynchronized Bd
  have X0 : Stand p l e R_th2 s m #[(.ref a)] below meth c s₁ [] 0 0 := Stand.of_body Bd
  have e0 : s₁.heap = h0 := by rw [← hh, Bd.state]; rfl
  have N0 := Fr.nil n0
  refine enter (P := PQ s R_th2.cells R_th2.slots (Q_th2 Z a sa x cs t k b0 b1 h0 n0)) (ef_th2 m a) ?_
  refine goS (n := 2) (Ls' := #[.val (.ref a)]) (st' := [(.int (31 : Int32))]) (fun _ kz => XS.bipush X0.here hx rfl (hb hby d9_0) kz) ?_
  refine goS (n := 3) (Ls' := #[.val (.ref a)]) (st' := [(.ref a), (.int (31 : Int32))]) (fun _ kz => XS.aloadN X0.here hx rfl (hb hby d9_2) rfl rfl kz) ?_
  obtain ⟨T1, X1, e1, st1⟩ := getF X0 hx hZ hown (host := "") (Or.inl (hw _ (List.mem_of_getElem? (i := 42) rfl))) Via.refl e0 F_material_a (g := (mkF m 3 #[.val (.ref a)] [(.ref a), (.int (31 : Int32))])) rfl rfl (hb hby d9_3)
  refine goS (n := 6) (Ls' := #[.val (.ref a)]) (st' := [(.ref sa), (.int (31 : Int32))]) st1 ?_
  obtain ⟨cq2, kq2, q2a, q2b, q2c⟩ := isOf hZ e1 Es
  obtain ⟨vr2, _, ⟨T2, L2, k2, n2⟩, -, X2, ⟨Lc2, hQ2, l2, y2, z2⟩, st2⟩ := X1.virtualBack hx (y := (⟨"java/lang/String", "hashCode", "()I"⟩ : MethodName)) (z := (⟨"java/lang/String", "hashCode", "()I"⟩ : MethodName)) hown (mvT hZ (hw _ (List.mem_of_getElem? (i := 51) rfl))) (mvT hZ (hw _ (List.mem_of_getElem? (i := 52) rfl))) (notFace_of_selects (args := #[]) (mvT hZ (hw _ (List.mem_of_getElem? (i := 54) rfl)))) (mvT hZ (hw _ (List.mem_of_getElem? (i := 54) rfl))) (mvT hZ (hw _ (List.mem_of_getElem? (i := 53) rfl))) (by decide) (backOf (W := 1) (rm_hc2 l Z a0 hw [] sa cs t k b0 b1 h0 n0 O0 S_CS hcs Es Fv Fc Fh Fz V_t fcB g_s) hZ (hw _ (List.mem_of_getElem? (i := 55) rfl)) (hw _ (List.mem_of_getElem? (i := 6) rfl)) (by decide) (by decide)) q2a q2c (g := (mkF m 6 #[.val (.ref a)] [(.ref sa), (.int (31 : Int32))])) rfl (by rw [hml]; rfl) (Steps.refl _) (argsL := []) (rest := [(.int (31 : Int32))]) (lenOf pd_4 rfl) rfl (by show 2 * 0 + _ ≤ _; exact Nat.le_of_eq rfl) (hb hby d9_6) (fun _ _ => ⟨rfl, e1, (nle rfl), (nle rfl)⟩)
  dsimp only [Pt.U, Pt.locs, Pt.cells, Pt.slots] at X2 l2 y2 z2 st2 hQ2
  subst l2 y2 z2
  obtain ⟨rfl, N2q, K2⟩ := hQ2
  have N2 := Fr.app N0 N2q
  have e2 : T2.heap = T2.heap := rfl
  have O2 := O0.keep K2 (allS g_s all0)
  have KK2 : Keep h0 T2.heap [sa] := (Keep.refl h0 [sa]).trans K2 (allS (Or.inl (List.mem_of_getElem? (i := 0) rfl)) all0)
  have E_a : Exa Z T2.heap a "com/example/thingstead/thingstead/mimir/Treasure" := E_a.keep K2
  have F_material_a : Fld Z T2.heap a "com/example/thingstead/thingstead/mimir/Treasure" "material" "Ljava/lang/String;" (.ref sa) := F_material_a.keep K2 (ninS has nin0)
  have F_points_a : Fld Z T2.heap a "com/example/thingstead/thingstead/mimir/Treasure" "points" "I" (.int x) := F_points_a.keep K2 (ninS has nin0)
  refine goT (n := 9) (Ls' := #[.val (.ref a)]) (st' := [(.int (((31 : Int32) * (((31 : Int32) * (0 : Int32)) + (b0 &&& (255 : Int32)))) + (b1 &&& (255 : Int32)))), (.int (31 : Int32))]) st2 ?_
  refine goS (n := 10) (Ls' := #[.val (.ref a)]) (st' := [(.int ((31 : Int32) * (((31 : Int32) * (((31 : Int32) * (0 : Int32)) + (b0 &&& (255 : Int32)))) + (b1 &&& (255 : Int32)))))]) (fun _ kz => XS.imul X2.here hx rfl (hb hby d9_9) rfl kz) ?_
  refine goS (n := 11) (Ls' := #[.val (.ref a)]) (st' := [(.ref a), (.int ((31 : Int32) * (((31 : Int32) * (((31 : Int32) * (0 : Int32)) + (b0 &&& (255 : Int32)))) + (b1 &&& (255 : Int32)))))]) (fun _ kz => XS.aloadN X2.here hx rfl (hb hby d9_10) rfl rfl kz) ?_
  obtain ⟨T3, X3, e3, st3⟩ := getF X2 hx hZ hown (host := "") (Or.inl (hw _ (List.mem_of_getElem? (i := 44) rfl))) Via.refl e2 F_points_a (g := (mkF m 11 #[.val (.ref a)] [(.ref a), (.int ((31 : Int32) * (((31 : Int32) * (((31 : Int32) * (0 : Int32)) + (b0 &&& (255 : Int32)))) + (b1 &&& (255 : Int32)))))])) rfl rfl (hb hby d9_11)
  refine goS (n := 14) (Ls' := #[.val (.ref a)]) (st' := [(.int x), (.int ((31 : Int32) * (((31 : Int32) * (((31 : Int32) * (0 : Int32)) + (b0 &&& (255 : Int32)))) + (b1 &&& (255 : Int32)))))]) st3 ?_
  refine goS (n := 15) (Ls' := #[.val (.ref a)]) (st' := [(.int (((31 : Int32) * (((31 : Int32) * (((31 : Int32) * (0 : Int32)) + (b0 &&& (255 : Int32)))) + (b1 &&& (255 : Int32)))) + x))]) (fun _ kz => XS.iadd X3.here hx rfl (hb hby d9_14) rfl kz) ?_
  exact goRetI X3 hx hlk Bd.returns (hb hby d9_15) (nle rfl) (nle rfl) (by rw [e3]; exact ⟨rfl, N2, KK2⟩)
theorem ef_sg3 (m : MethodId) (t : Addr) : entryFrame m #[(.int (0 : Int32)), (.ref t), (.int (0 : Int32)), (.int (3 : Int32))] 6 = mkF m 0 #[.val (.int (0 : Int32)), .val (.ref t), .val (.int (0 : Int32)), .val (.int (3 : Int32)), .unset, .unset] [] := by first | (simp [entryFrame, mkF, argsToLocals, Value.category]; done) | rfl
abbrev R_sg3 : Room := { frames := 0, cells := 0, slots := 0, locals := 0 }
def Q_sg3 (Z : State) (t : Addr) (k : ClassId) (b0 : Int32) (b1 : Int32) (b2 : Int32) (h0 : Heap) (n0 : Nat) (v : Option Value) (h : Heap) (L : List Loc) : Prop := v = some (.int (((31 : Int32) * (((31 : Int32) * (((31 : Int32) * (0 : Int32)) + (b0 &&& (255 : Int32)))) + (b1 &&& (255 : Int32)))) + (b2 &&& (255 : Int32)))) ∧ Fr n0 L ∧ h = h0
set_option maxRecDepth 65536 in
set_option maxHeartbeats 40000000 in
theorem rm_sg3 (l : Launch) (Z : State) (a0 : Array Value) (hw : ∀ d ∈ tables_1, d.before a0 Z = true) (ws : List Jvm.Cond) (t : Addr) (k : ClassId) (b0 : Int32) (b1 : Int32) (b2 : Int32) (h0 : Heap) (n0 : Nat) (O0 : Old Z n0 h0) (V_t : Arv Z h0 t k .byte (3 : Int32) [(.int b0), (.int b1), (.int b2)] (.int (0 : Int32))) :
    MetFree l (⟨"jdk/internal/util/ArraysSupport", "signedHashCode", "(I[BII)I"⟩ : MethodName) (head1 (Jvm.Cond.code (⟨"jdk/internal/util/ArraysSupport", "signedHashCode", "(I[BII)I"⟩ : MethodName) jdk_48_method_5_code 6 (some .int) :: ws) R_sg3) (fun as_ U => as_ = #[(.int (0 : Int32)), (.ref t), (.int (0 : Int32)), (.int (3 : Int32))] ∧ Z.Warmed39 U.vm ∧ U.heap = h0) (fun _ _ _ _ _ => True) (fun _ U o U' => ∃ v L, o = .returned v ∧ Q_sg3 Z t k b0 b1 b2 h0 n0 v U'.heap L ∧ FrameEnd U o U' L R_sg3.cells R_sg3.slots) := by
  refine MetFree.of_bodySF (plainFor_of_name pn_4) hisR ?_
  intro p e s m args below meth c s₁ Bd hml0 hP hK
  obtain ⟨rfl, hZ, hh⟩ := hP
  have hx := Bd.exec
  have hby := Bd.bytes
  have hml : c.maxLocals = 6 := hml0
  have hown : s.vm.findClass "jdk/internal/util/ArraysSupport" = some m.cls := findClass_of_methodNamed Bd.named
  have hnm := (name_of_methodNamed Bd.named Bd.method).1
  have hlk : meth.locks = false := BodyLoose.notSynchronized Bd
  have X0 : Stand p l e R_sg3 s m #[(.int (0 : Int32)), (.ref t), (.int (0 : Int32)), (.int (3 : Int32))] below meth c s₁ [] 0 0 := Stand.of_body Bd
  have e0 : s₁.heap = h0 := by rw [← hh, Bd.state]; rfl
  have N0 := Fr.nil n0
  refine enter (P := PQ s R_sg3.cells R_sg3.slots (Q_sg3 Z t k b0 b1 b2 h0 n0)) (ef_sg3 m t) ?_
  refine goS (n := 1) (Ls' := #[.val (.int (0 : Int32)), .val (.ref t), .val (.int (0 : Int32)), .val (.int (3 : Int32)), .unset, .unset]) (st' := [(.int (0 : Int32))]) (fun _ kz => XS.iloadN X0.here hx rfl (hb hby d14_0) rfl kz) ?_
  refine goS (n := 2) (Ls' := #[.val (.int (0 : Int32)), .val (.ref t), .val (.int (0 : Int32)), .val (.int (3 : Int32)), .unset, .unset]) (st' := [(.int (3 : Int32)), (.int (0 : Int32))]) (fun _ kz => XS.iloadN X0.here hx rfl (hb hby d14_1) rfl kz) ?_
  refine goS (n := 3) (Ls' := #[.val (.int (0 : Int32)), .val (.ref t), .val (.int (0 : Int32)), .val (.int (3 : Int32)), .unset, .unset]) (st' := [(.int (3 : Int32))]) (fun _ kz => XS.iadd X0.here hx rfl (hb hby d14_2) rfl kz) ?_
  refine goS (n := 5) (Ls' := #[.val (.int (0 : Int32)), .val (.ref t), .val (.int (0 : Int32)), .val (.int (3 : Int32)), .val (.int (3 : Int32)), .unset]) (st' := []) (fun _ kz => XS.istore X0.here hx rfl (hb hby d14_3) rfl (l' := #[.val (.int (0 : Int32)), .val (.ref t), .val (.int (0 : Int32)), .val (.int (3 : Int32)), .val (.int (3 : Int32)), .unset]) rfl kz) ?_
  refine goS (n := 6) (Ls' := #[.val (.int (0 : Int32)), .val (.ref t), .val (.int (0 : Int32)), .val (.int (3 : Int32)), .val (.int (3 : Int32)), .unset]) (st' := [(.int (0 : Int32))]) (fun _ kz => XS.iloadN X0.here hx rfl (hb hby d14_5) rfl kz) ?_
  refine goS (n := 8) (Ls' := #[.val (.int (0 : Int32)), .val (.ref t), .val (.int (0 : Int32)), .val (.int (3 : Int32)), .val (.int (3 : Int32)), .val (.int (0 : Int32))]) (st' := []) (fun _ kz => XS.istore X0.here hx rfl (hb hby d14_6) rfl (l' := #[.val (.int (0 : Int32)), .val (.ref t), .val (.int (0 : Int32)), .val (.int (3 : Int32)), .val (.int (3 : Int32)), .val (.int (0 : Int32))]) rfl kz) ?_
  refine goS (n := 10) (Ls' := #[.val (.int (0 : Int32)), .val (.ref t), .val (.int (0 : Int32)), .val (.int (3 : Int32)), .val (.int (3 : Int32)), .val (.int (0 : Int32))]) (st' := [(.int (0 : Int32))]) (fun _ kz => XS.iload X0.here hx rfl (hb hby d14_8) rfl kz) ?_
  refine goS (n := 12) (Ls' := #[.val (.int (0 : Int32)), .val (.ref t), .val (.int (0 : Int32)), .val (.int (3 : Int32)), .val (.int (3 : Int32)), .val (.int (0 : Int32))]) (st' := [(.int (3 : Int32)), (.int (0 : Int32))]) (fun _ kz => XS.iload X0.here hx rfl (hb hby d14_10) rfl kz) ?_
  refine goS (n := 15) (Ls' := #[.val (.int (0 : Int32)), .val (.ref t), .val (.int (0 : Int32)), .val (.int (3 : Int32)), .val (.int (3 : Int32)), .val (.int (0 : Int32))]) (st' := []) (fun _ kz => XS.icmpNo X0.here hx rfl (hb hby d14_12) rfl (by decide) kz) ?_
  refine goS (n := 17) (Ls' := #[.val (.int (0 : Int32)), .val (.ref t), .val (.int (0 : Int32)), .val (.int (3 : Int32)), .val (.int (3 : Int32)), .val (.int (0 : Int32))]) (st' := [(.int (31 : Int32))]) (fun _ kz => XS.bipush X0.here hx rfl (hb hby d14_15) kz) ?_
  refine goS (n := 18) (Ls' := #[.val (.int (0 : Int32)), .val (.ref t), .val (.int (0 : Int32)), .val (.int (3 : Int32)), .val (.int (3 : Int32)), .val (.int (0 : Int32))]) (st' := [(.int (0 : Int32)), (.int (31 : Int32))]) (fun _ kz => XS.iloadN X0.here hx rfl (hb hby d14_17) rfl kz) ?_
  refine goS (n := 19) (Ls' := #[.val (.int (0 : Int32)), .val (.ref t), .val (.int (0 : Int32)), .val (.int (3 : Int32)), .val (.int (3 : Int32)), .val (.int (0 : Int32))]) (st' := [(.int ((31 : Int32) * (0 : Int32)))]) (fun _ kz => XS.imul X0.here hx rfl (hb hby d14_18) rfl kz) ?_
  refine goS (n := 20) (Ls' := #[.val (.int (0 : Int32)), .val (.ref t), .val (.int (0 : Int32)), .val (.int (3 : Int32)), .val (.int (3 : Int32)), .val (.int (0 : Int32))]) (st' := [(.ref t), (.int ((31 : Int32) * (0 : Int32)))]) (fun _ kz => XS.aloadN X0.here hx rfl (hb hby d14_19) rfl rfl kz) ?_
  refine goS (n := 22) (Ls' := #[.val (.int (0 : Int32)), .val (.ref t), .val (.int (0 : Int32)), .val (.int (3 : Int32)), .val (.int (3 : Int32)), .val (.int (0 : Int32))]) (st' := [(.int (0 : Int32)), (.ref t), (.int ((31 : Int32) * (0 : Int32)))]) (fun _ kz => XS.iload X0.here hx rfl (hb hby d14_20) rfl kz) ?_
  have vv1 := V_t
  obtain ⟨cl1, Ar1, q1, S1, Nn1, H1, G1⟩ := vv1
  have hin1 : ¬ ((0 : Int32) < 0 ∨ cl1.slots.size ≤ ((0 : Int32)).toNatClampNeg) := inb_of S1 ⟨by decide, by decide⟩
  have hat1 : cl1.slots[((0 : Int32)).toNatClampNeg]? = some (.int b0) := Has.at H1 hin1 rfl
  refine goS (n := 23) (Ls' := #[.val (.int (0 : Int32)), .val (.ref t), .val (.int (0 : Int32)), .val (.int (3 : Int32)), .val (.int (3 : Int32)), .val (.int (0 : Int32))]) (st' := [(.int b0), (.int ((31 : Int32) * (0 : Int32)))]) (fun tz kz => X0.baloadBytes hx (j := (0 : Int32)) (v := (.int b0)) (by rw [e0]; exact Ar1.1) (State.isArrayOf_alike hZ.alike Ar1.2.1) Ar1.2.2 hin1 hat1 (g := (mkF m 22 #[.val (.int (0 : Int32)), .val (.ref t), .val (.int (0 : Int32)), .val (.int (3 : Int32)), .val (.int (3 : Int32)), .val (.int (0 : Int32))] [(.int (0 : Int32)), (.ref t), (.int ((31 : Int32) * (0 : Int32)))])) rfl rfl (hb hby d14_22) tz kz) ?_
  refine goS (n := 26) (Ls' := #[.val (.int (0 : Int32)), .val (.ref t), .val (.int (0 : Int32)), .val (.int (3 : Int32)), .val (.int (3 : Int32)), .val (.int (0 : Int32))]) (st' := [(.int (255 : Int32)), (.int b0), (.int ((31 : Int32) * (0 : Int32)))]) (fun _ kz => XS.sipush X0.here hx rfl (hb hby d14_23) kz) ?_
  refine goS (n := 27) (Ls' := #[.val (.int (0 : Int32)), .val (.ref t), .val (.int (0 : Int32)), .val (.int (3 : Int32)), .val (.int (3 : Int32)), .val (.int (0 : Int32))]) (st' := [(.int (b0 &&& (255 : Int32))), (.int ((31 : Int32) * (0 : Int32)))]) (fun _ kz => XS.iand X0.here hx rfl (hb hby d14_26) rfl kz) ?_
  refine goS (n := 28) (Ls' := #[.val (.int (0 : Int32)), .val (.ref t), .val (.int (0 : Int32)), .val (.int (3 : Int32)), .val (.int (3 : Int32)), .val (.int (0 : Int32))]) (st' := [(.int (((31 : Int32) * (0 : Int32)) + (b0 &&& (255 : Int32))))]) (fun _ kz => XS.iadd X0.here hx rfl (hb hby d14_27) rfl kz) ?_
  refine goS (n := 29) (Ls' := #[.val (.int (((31 : Int32) * (0 : Int32)) + (b0 &&& (255 : Int32)))), .val (.ref t), .val (.int (0 : Int32)), .val (.int (3 : Int32)), .val (.int (3 : Int32)), .val (.int (0 : Int32))]) (st' := []) (fun _ kz => XS.istoreN X0.here hx rfl (hb hby d14_28) rfl (l' := #[.val (.int (((31 : Int32) * (0 : Int32)) + (b0 &&& (255 : Int32)))), .val (.ref t), .val (.int (0 : Int32)), .val (.int (3 : Int32)), .val (.int (3 : Int32)), .val (.int (0 : Int32))]) rfl kz) ?_
  refine goS (n := 32) (Ls' := #[.val (.int (((31 : Int32) * (0 : Int32)) + (b0 &&& (255 : Int32)))), .val (.ref t), .val (.int (0 : Int32)), .val (.int (3 : Int32)), .val (.int (3 : Int32)), .val (.int (1 : Int32))]) (st' := []) (fun _ kz => XS.iinc X0.here hx rfl (hb hby d14_29) rfl (l' := #[.val (.int (((31 : Int32) * (0 : Int32)) + (b0 &&& (255 : Int32)))), .val (.ref t), .val (.int (0 : Int32)), .val (.int (3 : Int32)), .val (.int (3 : Int32)), .val (.int (1 : Int32))]) rfl kz) ?_
  refine goS (n := 8) (Ls' := #[.val (.int (((31 : Int32) * (0 : Int32)) + (b0 &&& (255 : Int32)))), .val (.ref t), .val (.int (0 : Int32)), .val (.int (3 : Int32)), .val (.int (3 : Int32)), .val (.int (1 : Int32))]) (st' := []) (fun _ kz => XS.goto X0.here hx rfl (pc0 := 32) (pc' := 8) rfl (hb hby d14_32) (by decide) (by decide) kz) ?_
  refine goS (n := 10) (Ls' := #[.val (.int (((31 : Int32) * (0 : Int32)) + (b0 &&& (255 : Int32)))), .val (.ref t), .val (.int (0 : Int32)), .val (.int (3 : Int32)), .val (.int (3 : Int32)), .val (.int (1 : Int32))]) (st' := [(.int (1 : Int32))]) (fun _ kz => XS.iload X0.here hx rfl (hb hby d14_8) rfl kz) ?_
  refine goS (n := 12) (Ls' := #[.val (.int (((31 : Int32) * (0 : Int32)) + (b0 &&& (255 : Int32)))), .val (.ref t), .val (.int (0 : Int32)), .val (.int (3 : Int32)), .val (.int (3 : Int32)), .val (.int (1 : Int32))]) (st' := [(.int (3 : Int32)), (.int (1 : Int32))]) (fun _ kz => XS.iload X0.here hx rfl (hb hby d14_10) rfl kz) ?_
  refine goS (n := 15) (Ls' := #[.val (.int (((31 : Int32) * (0 : Int32)) + (b0 &&& (255 : Int32)))), .val (.ref t), .val (.int (0 : Int32)), .val (.int (3 : Int32)), .val (.int (3 : Int32)), .val (.int (1 : Int32))]) (st' := []) (fun _ kz => XS.icmpNo X0.here hx rfl (hb hby d14_12) rfl (by decide) kz) ?_
  refine goS (n := 17) (Ls' := #[.val (.int (((31 : Int32) * (0 : Int32)) + (b0 &&& (255 : Int32)))), .val (.ref t), .val (.int (0 : Int32)), .val (.int (3 : Int32)), .val (.int (3 : Int32)), .val (.int (1 : Int32))]) (st' := [(.int (31 : Int32))]) (fun _ kz => XS.bipush X0.here hx rfl (hb hby d14_15) kz) ?_
  refine goS (n := 18) (Ls' := #[.val (.int (((31 : Int32) * (0 : Int32)) + (b0 &&& (255 : Int32)))), .val (.ref t), .val (.int (0 : Int32)), .val (.int (3 : Int32)), .val (.int (3 : Int32)), .val (.int (1 : Int32))]) (st' := [(.int (((31 : Int32) * (0 : Int32)) + (b0 &&& (255 : Int32)))), (.int (31 : Int32))]) (fun _ kz => XS.iloadN X0.here hx rfl (hb hby d14_17) rfl kz) ?_
  refine goS (n := 19) (Ls' := #[.val (.int (((31 : Int32) * (0 : Int32)) + (b0 &&& (255 : Int32)))), .val (.ref t), .val (.int (0 : Int32)), .val (.int (3 : Int32)), .val (.int (3 : Int32)), .val (.int (1 : Int32))]) (st' := [(.int ((31 : Int32) * (((31 : Int32) * (0 : Int32)) + (b0 &&& (255 : Int32)))))]) (fun _ kz => XS.imul X0.here hx rfl (hb hby d14_18) rfl kz) ?_
  refine goS (n := 20) (Ls' := #[.val (.int (((31 : Int32) * (0 : Int32)) + (b0 &&& (255 : Int32)))), .val (.ref t), .val (.int (0 : Int32)), .val (.int (3 : Int32)), .val (.int (3 : Int32)), .val (.int (1 : Int32))]) (st' := [(.ref t), (.int ((31 : Int32) * (((31 : Int32) * (0 : Int32)) + (b0 &&& (255 : Int32)))))]) (fun _ kz => XS.aloadN X0.here hx rfl (hb hby d14_19) rfl rfl kz) ?_
  refine goS (n := 22) (Ls' := #[.val (.int (((31 : Int32) * (0 : Int32)) + (b0 &&& (255 : Int32)))), .val (.ref t), .val (.int (0 : Int32)), .val (.int (3 : Int32)), .val (.int (3 : Int32)), .val (.int (1 : Int32))]) (st' := [(.int (1 : Int32)), (.ref t), (.int ((31 : Int32) * (((31 : Int32) * (0 : Int32)) + (b0 &&& (255 : Int32)))))]) (fun _ kz => XS.iload X0.here hx rfl (hb hby d14_20) rfl kz) ?_
  have vv2 := V_t
  obtain ⟨cl2, Ar2, q2, S2, Nn2, H2, G2⟩ := vv2
  have hin2 : ¬ ((1 : Int32) < 0 ∨ cl2.slots.size ≤ ((1 : Int32)).toNatClampNeg) := inb_of S2 ⟨by decide, by decide⟩
  have hat2 : cl2.slots[((1 : Int32)).toNatClampNeg]? = some (.int b1) := Has.at H2 hin2 rfl
  refine goS (n := 23) (Ls' := #[.val (.int (((31 : Int32) * (0 : Int32)) + (b0 &&& (255 : Int32)))), .val (.ref t), .val (.int (0 : Int32)), .val (.int (3 : Int32)), .val (.int (3 : Int32)), .val (.int (1 : Int32))]) (st' := [(.int b1), (.int ((31 : Int32) * (((31 : Int32) * (0 : Int32)) + (b0 &&& (255 : Int32)))))]) (fun tz kz => X0.baloadBytes hx (j := (1 : Int32)) (v := (.int b1)) (by rw [e0]; exact Ar2.1) (State.isArrayOf_alike hZ.alike Ar2.2.1) Ar2.2.2 hin2 hat2 (g := (mkF m 22 #[.val (.int (((31 : Int32) * (0 : Int32)) + (b0 &&& (255 : Int32)))), .val (.ref t), .val (.int (0 : Int32)), .val (.int (3 : Int32)), .val (.int (3 : Int32)), .val (.int (1 : Int32))] [(.int (1 : Int32)), (.ref t), (.int ((31 : Int32) * (((31 : Int32) * (0 : Int32)) + (b0 &&& (255 : Int32)))))])) rfl rfl (hb hby d14_22) tz kz) ?_
  refine goS (n := 26) (Ls' := #[.val (.int (((31 : Int32) * (0 : Int32)) + (b0 &&& (255 : Int32)))), .val (.ref t), .val (.int (0 : Int32)), .val (.int (3 : Int32)), .val (.int (3 : Int32)), .val (.int (1 : Int32))]) (st' := [(.int (255 : Int32)), (.int b1), (.int ((31 : Int32) * (((31 : Int32) * (0 : Int32)) + (b0 &&& (255 : Int32)))))]) (fun _ kz => XS.sipush X0.here hx rfl (hb hby d14_23) kz) ?_
  refine goS (n := 27) (Ls' := #[.val (.int (((31 : Int32) * (0 : Int32)) + (b0 &&& (255 : Int32)))), .val (.ref t), .val (.int (0 : Int32)), .val (.int (3 : Int32)), .val (.int (3 : Int32)), .val (.int (1 : Int32))]) (st' := [(.int (b1 &&& (255 : Int32))), (.int ((31 : Int32) * (((31 : Int32) * (0 : Int32)) + (b0 &&& (255 : Int32)))))]) (fun _ kz => XS.iand X0.here hx rfl (hb hby d14_26) rfl kz) ?_
  refine goS (n := 28) (Ls' := #[.val (.int (((31 : Int32) * (0 : Int32)) + (b0 &&& (255 : Int32)))), .val (.ref t), .val (.int (0 : Int32)), .val (.int (3 : Int32)), .val (.int (3 : Int32)), .val (.int (1 : Int32))]) (st' := [(.int (((31 : Int32) * (((31 : Int32) * (0 : Int32)) + (b0 &&& (255 : Int32)))) + (b1 &&& (255 : Int32))))]) (fun _ kz => XS.iadd X0.here hx rfl (hb hby d14_27) rfl kz) ?_
  refine goS (n := 29) (Ls' := #[.val (.int (((31 : Int32) * (((31 : Int32) * (0 : Int32)) + (b0 &&& (255 : Int32)))) + (b1 &&& (255 : Int32)))), .val (.ref t), .val (.int (0 : Int32)), .val (.int (3 : Int32)), .val (.int (3 : Int32)), .val (.int (1 : Int32))]) (st' := []) (fun _ kz => XS.istoreN X0.here hx rfl (hb hby d14_28) rfl (l' := #[.val (.int (((31 : Int32) * (((31 : Int32) * (0 : Int32)) + (b0 &&& (255 : Int32)))) + (b1 &&& (255 : Int32)))), .val (.ref t), .val (.int (0 : Int32)), .val (.int (3 : Int32)), .val (.int (3 : Int32)), .val (.int (1 : Int32))]) rfl kz) ?_
  refine goS (n := 32) (Ls' := #[.val (.int (((31 : Int32) * (((31 : Int32) * (0 : Int32)) + (b0 &&& (255 : Int32)))) + (b1 &&& (255 : Int32)))), .val (.ref t), .val (.int (0 : Int32)), .val (.int (3 : Int32)), .val (.int (3 : Int32)), .val (.int (2 : Int32))]) (st' := []) (fun _ kz => XS.iinc X0.here hx rfl (hb hby d14_29) rfl (l' := #[.val (.int (((31 : Int32) * (((31 : Int32) * (0 : Int32)) + (b0 &&& (255 : Int32)))) + (b1 &&& (255 : Int32)))), .val (.ref t), .val (.int (0 : Int32)), .val (.int (3 : Int32)), .val (.int (3 : Int32)), .val (.int (2 : Int32))]) rfl kz) ?_
  refine goS (n := 8) (Ls' := #[.val (.int (((31 : Int32) * (((31 : Int32) * (0 : Int32)) + (b0 &&& (255 : Int32)))) + (b1 &&& (255 : Int32)))), .val (.ref t), .val (.int (0 : Int32)), .val (.int (3 : Int32)), .val (.int (3 : Int32)), .val (.int (2 : Int32))]) (st' := []) (fun _ kz => XS.goto X0.here hx rfl (pc0 := 32) (pc' := 8) rfl (hb hby d14_32) (by decide) (by decide) kz) ?_
  refine goS (n := 10) (Ls' := #[.val (.int (((31 : Int32) * (((31 : Int32) * (0 : Int32)) + (b0 &&& (255 : Int32)))) + (b1 &&& (255 : Int32)))), .val (.ref t), .val (.int (0 : Int32)), .val (.int (3 : Int32)), .val (.int (3 : Int32)), .val (.int (2 : Int32))]) (st' := [(.int (2 : Int32))]) (fun _ kz => XS.iload X0.here hx rfl (hb hby d14_8) rfl kz) ?_
  refine goS (n := 12) (Ls' := #[.val (.int (((31 : Int32) * (((31 : Int32) * (0 : Int32)) + (b0 &&& (255 : Int32)))) + (b1 &&& (255 : Int32)))), .val (.ref t), .val (.int (0 : Int32)), .val (.int (3 : Int32)), .val (.int (3 : Int32)), .val (.int (2 : Int32))]) (st' := [(.int (3 : Int32)), (.int (2 : Int32))]) (fun _ kz => XS.iload X0.here hx rfl (hb hby d14_10) rfl kz) ?_
  refine goS (n := 15) (Ls' := #[.val (.int (((31 : Int32) * (((31 : Int32) * (0 : Int32)) + (b0 &&& (255 : Int32)))) + (b1 &&& (255 : Int32)))), .val (.ref t), .val (.int (0 : Int32)), .val (.int (3 : Int32)), .val (.int (3 : Int32)), .val (.int (2 : Int32))]) (st' := []) (fun _ kz => XS.icmpNo X0.here hx rfl (hb hby d14_12) rfl (by decide) kz) ?_
  refine goS (n := 17) (Ls' := #[.val (.int (((31 : Int32) * (((31 : Int32) * (0 : Int32)) + (b0 &&& (255 : Int32)))) + (b1 &&& (255 : Int32)))), .val (.ref t), .val (.int (0 : Int32)), .val (.int (3 : Int32)), .val (.int (3 : Int32)), .val (.int (2 : Int32))]) (st' := [(.int (31 : Int32))]) (fun _ kz => XS.bipush X0.here hx rfl (hb hby d14_15) kz) ?_
  refine goS (n := 18) (Ls' := #[.val (.int (((31 : Int32) * (((31 : Int32) * (0 : Int32)) + (b0 &&& (255 : Int32)))) + (b1 &&& (255 : Int32)))), .val (.ref t), .val (.int (0 : Int32)), .val (.int (3 : Int32)), .val (.int (3 : Int32)), .val (.int (2 : Int32))]) (st' := [(.int (((31 : Int32) * (((31 : Int32) * (0 : Int32)) + (b0 &&& (255 : Int32)))) + (b1 &&& (255 : Int32)))), (.int (31 : Int32))]) (fun _ kz => XS.iloadN X0.here hx rfl (hb hby d14_17) rfl kz) ?_
  refine goS (n := 19) (Ls' := #[.val (.int (((31 : Int32) * (((31 : Int32) * (0 : Int32)) + (b0 &&& (255 : Int32)))) + (b1 &&& (255 : Int32)))), .val (.ref t), .val (.int (0 : Int32)), .val (.int (3 : Int32)), .val (.int (3 : Int32)), .val (.int (2 : Int32))]) (st' := [(.int ((31 : Int32) * (((31 : Int32) * (((31 : Int32) * (0 : Int32)) + (b0 &&& (255 : Int32)))) + (b1 &&& (255 : Int32)))))]) (fun _ kz => XS.imul X0.here hx rfl (hb hby d14_18) rfl kz) ?_
  refine goS (n := 20) (Ls' := #[.val (.int (((31 : Int32) * (((31 : Int32) * (0 : Int32)) + (b0 &&& (255 : Int32)))) + (b1 &&& (255 : Int32)))), .val (.ref t), .val (.int (0 : Int32)), .val (.int (3 : Int32)), .val (.int (3 : Int32)), .val (.int (2 : Int32))]) (st' := [(.ref t), (.int ((31 : Int32) * (((31 : Int32) * (((31 : Int32) * (0 : Int32)) + (b0 &&& (255 : Int32)))) + (b1 &&& (255 : Int32)))))]) (fun _ kz => XS.aloadN X0.here hx rfl (hb hby d14_19) rfl rfl kz) ?_
  refine goS (n := 22) (Ls' := #[.val (.int (((31 : Int32) * (((31 : Int32) * (0 : Int32)) + (b0 &&& (255 : Int32)))) + (b1 &&& (255 : Int32)))), .val (.ref t), .val (.int (0 : Int32)), .val (.int (3 : Int32)), .val (.int (3 : Int32)), .val (.int (2 : Int32))]) (st' := [(.int (2 : Int32)), (.ref t), (.int ((31 : Int32) * (((31 : Int32) * (((31 : Int32) * (0 : Int32)) + (b0 &&& (255 : Int32)))) + (b1 &&& (255 : Int32)))))]) (fun _ kz => XS.iload X0.here hx rfl (hb hby d14_20) rfl kz) ?_
  have vv3 := V_t
  obtain ⟨cl3, Ar3, q3, S3, Nn3, H3, G3⟩ := vv3
  have hin3 : ¬ ((2 : Int32) < 0 ∨ cl3.slots.size ≤ ((2 : Int32)).toNatClampNeg) := inb_of S3 ⟨by decide, by decide⟩
  have hat3 : cl3.slots[((2 : Int32)).toNatClampNeg]? = some (.int b2) := Has.at H3 hin3 rfl
  refine goS (n := 23) (Ls' := #[.val (.int (((31 : Int32) * (((31 : Int32) * (0 : Int32)) + (b0 &&& (255 : Int32)))) + (b1 &&& (255 : Int32)))), .val (.ref t), .val (.int (0 : Int32)), .val (.int (3 : Int32)), .val (.int (3 : Int32)), .val (.int (2 : Int32))]) (st' := [(.int b2), (.int ((31 : Int32) * (((31 : Int32) * (((31 : Int32) * (0 : Int32)) + (b0 &&& (255 : Int32)))) + (b1 &&& (255 : Int32)))))]) (fun tz kz => X0.baloadBytes hx (j := (2 : Int32)) (v := (.int b2)) (by rw [e0]; exact Ar3.1) (State.isArrayOf_alike hZ.alike Ar3.2.1) Ar3.2.2 hin3 hat3 (g := (mkF m 22 #[.val (.int (((31 : Int32) * (((31 : Int32) * (0 : Int32)) + (b0 &&& (255 : Int32)))) + (b1 &&& (255 : Int32)))), .val (.ref t), .val (.int (0 : Int32)), .val (.int (3 : Int32)), .val (.int (3 : Int32)), .val (.int (2 : Int32))] [(.int (2 : Int32)), (.ref t), (.int ((31 : Int32) * (((31 : Int32) * (((31 : Int32) * (0 : Int32)) + (b0 &&& (255 : Int32)))) + (b1 &&& (255 : Int32)))))])) rfl rfl (hb hby d14_22) tz kz) ?_
  refine goS (n := 26) (Ls' := #[.val (.int (((31 : Int32) * (((31 : Int32) * (0 : Int32)) + (b0 &&& (255 : Int32)))) + (b1 &&& (255 : Int32)))), .val (.ref t), .val (.int (0 : Int32)), .val (.int (3 : Int32)), .val (.int (3 : Int32)), .val (.int (2 : Int32))]) (st' := [(.int (255 : Int32)), (.int b2), (.int ((31 : Int32) * (((31 : Int32) * (((31 : Int32) * (0 : Int32)) + (b0 &&& (255 : Int32)))) + (b1 &&& (255 : Int32)))))]) (fun _ kz => XS.sipush X0.here hx rfl (hb hby d14_23) kz) ?_
  refine goS (n := 27) (Ls' := #[.val (.int (((31 : Int32) * (((31 : Int32) * (0 : Int32)) + (b0 &&& (255 : Int32)))) + (b1 &&& (255 : Int32)))), .val (.ref t), .val (.int (0 : Int32)), .val (.int (3 : Int32)), .val (.int (3 : Int32)), .val (.int (2 : Int32))]) (st' := [(.int (b2 &&& (255 : Int32))), (.int ((31 : Int32) * (((31 : Int32) * (((31 : Int32) * (0 : Int32)) + (b0 &&& (255 : Int32)))) + (b1 &&& (255 : Int32)))))]) (fun _ kz => XS.iand X0.here hx rfl (hb hby d14_26) rfl kz) ?_
  refine goS (n := 28) (Ls' := #[.val (.int (((31 : Int32) * (((31 : Int32) * (0 : Int32)) + (b0 &&& (255 : Int32)))) + (b1 &&& (255 : Int32)))), .val (.ref t), .val (.int (0 : Int32)), .val (.int (3 : Int32)), .val (.int (3 : Int32)), .val (.int (2 : Int32))]) (st' := [(.int (((31 : Int32) * (((31 : Int32) * (((31 : Int32) * (0 : Int32)) + (b0 &&& (255 : Int32)))) + (b1 &&& (255 : Int32)))) + (b2 &&& (255 : Int32))))]) (fun _ kz => XS.iadd X0.here hx rfl (hb hby d14_27) rfl kz) ?_
  refine goS (n := 29) (Ls' := #[.val (.int (((31 : Int32) * (((31 : Int32) * (((31 : Int32) * (0 : Int32)) + (b0 &&& (255 : Int32)))) + (b1 &&& (255 : Int32)))) + (b2 &&& (255 : Int32)))), .val (.ref t), .val (.int (0 : Int32)), .val (.int (3 : Int32)), .val (.int (3 : Int32)), .val (.int (2 : Int32))]) (st' := []) (fun _ kz => XS.istoreN X0.here hx rfl (hb hby d14_28) rfl (l' := #[.val (.int (((31 : Int32) * (((31 : Int32) * (((31 : Int32) * (0 : Int32)) + (b0 &&& (255 : Int32)))) + (b1 &&& (255 : Int32)))) + (b2 &&& (255 : Int32)))), .val (.ref t), .val (.int (0 : Int32)), .val (.int (3 : Int32)), .val (.int (3 : Int32)), .val (.int (2 : Int32))]) rfl kz) ?_
  refine goS (n := 32) (Ls' := #[.val (.int (((31 : Int32) * (((31 : Int32) * (((31 : Int32) * (0 : Int32)) + (b0 &&& (255 : Int32)))) + (b1 &&& (255 : Int32)))) + (b2 &&& (255 : Int32)))), .val (.ref t), .val (.int (0 : Int32)), .val (.int (3 : Int32)), .val (.int (3 : Int32)), .val (.int (3 : Int32))]) (st' := []) (fun _ kz => XS.iinc X0.here hx rfl (hb hby d14_29) rfl (l' := #[.val (.int (((31 : Int32) * (((31 : Int32) * (((31 : Int32) * (0 : Int32)) + (b0 &&& (255 : Int32)))) + (b1 &&& (255 : Int32)))) + (b2 &&& (255 : Int32)))), .val (.ref t), .val (.int (0 : Int32)), .val (.int (3 : Int32)), .val (.int (3 : Int32)), .val (.int (3 : Int32))]) rfl kz) ?_
  refine goS (n := 8) (Ls' := #[.val (.int (((31 : Int32) * (((31 : Int32) * (((31 : Int32) * (0 : Int32)) + (b0 &&& (255 : Int32)))) + (b1 &&& (255 : Int32)))) + (b2 &&& (255 : Int32)))), .val (.ref t), .val (.int (0 : Int32)), .val (.int (3 : Int32)), .val (.int (3 : Int32)), .val (.int (3 : Int32))]) (st' := []) (fun _ kz => XS.goto X0.here hx rfl (pc0 := 32) (pc' := 8) rfl (hb hby d14_32) (by decide) (by decide) kz) ?_
  refine goS (n := 10) (Ls' := #[.val (.int (((31 : Int32) * (((31 : Int32) * (((31 : Int32) * (0 : Int32)) + (b0 &&& (255 : Int32)))) + (b1 &&& (255 : Int32)))) + (b2 &&& (255 : Int32)))), .val (.ref t), .val (.int (0 : Int32)), .val (.int (3 : Int32)), .val (.int (3 : Int32)), .val (.int (3 : Int32))]) (st' := [(.int (3 : Int32))]) (fun _ kz => XS.iload X0.here hx rfl (hb hby d14_8) rfl kz) ?_
  refine goS (n := 12) (Ls' := #[.val (.int (((31 : Int32) * (((31 : Int32) * (((31 : Int32) * (0 : Int32)) + (b0 &&& (255 : Int32)))) + (b1 &&& (255 : Int32)))) + (b2 &&& (255 : Int32)))), .val (.ref t), .val (.int (0 : Int32)), .val (.int (3 : Int32)), .val (.int (3 : Int32)), .val (.int (3 : Int32))]) (st' := [(.int (3 : Int32)), (.int (3 : Int32))]) (fun _ kz => XS.iload X0.here hx rfl (hb hby d14_10) rfl kz) ?_
  refine goS (n := 35) (Ls' := #[.val (.int (((31 : Int32) * (((31 : Int32) * (((31 : Int32) * (0 : Int32)) + (b0 &&& (255 : Int32)))) + (b1 &&& (255 : Int32)))) + (b2 &&& (255 : Int32)))), .val (.ref t), .val (.int (0 : Int32)), .val (.int (3 : Int32)), .val (.int (3 : Int32)), .val (.int (3 : Int32))]) (st' := []) (fun _ kz => XS.icmpYes X0.here hx rfl (pc0 := 12) (pc' := 35) rfl (hb hby d14_12) rfl (by decide) (by decide) (by decide) kz) ?_
  refine goS (n := 36) (Ls' := #[.val (.int (((31 : Int32) * (((31 : Int32) * (((31 : Int32) * (0 : Int32)) + (b0 &&& (255 : Int32)))) + (b1 &&& (255 : Int32)))) + (b2 &&& (255 : Int32)))), .val (.ref t), .val (.int (0 : Int32)), .val (.int (3 : Int32)), .val (.int (3 : Int32)), .val (.int (3 : Int32))]) (st' := [(.int (((31 : Int32) * (((31 : Int32) * (((31 : Int32) * (0 : Int32)) + (b0 &&& (255 : Int32)))) + (b1 &&& (255 : Int32)))) + (b2 &&& (255 : Int32))))]) (fun _ kz => XS.iloadN X0.here hx rfl (hb hby d14_35) rfl kz) ?_
  exact goRetI X0 hx hlk Bd.returns (hb hby d14_36) (nle rfl) (nle rfl) (by rw [e0]; exact ⟨rfl, N0, rfl⟩)
theorem ef_vz3 (m : MethodId) (t : Addr) : entryFrame m #[(.ref t), (.int (0 : Int32)), (.int (3 : Int32)), (.int (0 : Int32)), (.int (4 : Int32))] 5 = mkF m 0 #[.val (.ref t), .val (.int (0 : Int32)), .val (.int (3 : Int32)), .val (.int (0 : Int32)), .val (.int (4 : Int32))] [] := by first | (simp [entryFrame, mkF, argsToLocals, Value.category]; done) | rfl
abbrev R_vz3 : Room := { frames := 1, cells := 0, slots := 0, locals := 17 }
def Q_vz3 (Z : State) (t : Addr) (k : ClassId) (b0 : Int32) (b1 : Int32) (b2 : Int32) (h0 : Heap) (n0 : Nat) (v : Option Value) (h : Heap) (L : List Loc) : Prop := v = some (.int (((31 : Int32) * (((31 : Int32) * (((31 : Int32) * (0 : Int32)) + (b0 &&& (255 : Int32)))) + (b1 &&& (255 : Int32)))) + (b2 &&& (255 : Int32)))) ∧ Fr n0 L ∧ h = h0
set_option maxRecDepth 65536 in
set_option maxHeartbeats 40000000 in
theorem rm_vz3 (l : Launch) (Z : State) (a0 : Array Value) (hw : ∀ d ∈ tables_1, d.before a0 Z = true) (ws : List Jvm.Cond) (t : Addr) (k : ClassId) (b0 : Int32) (b1 : Int32) (b2 : Int32) (h0 : Heap) (n0 : Nat) (O0 : Old Z n0 h0) (V_t : Arv Z h0 t k .byte (3 : Int32) [(.int b0), (.int b1), (.int b2)] (.int (0 : Int32))) (fcB : Z.vm.findClass "[B" = some k) :
    MetFree l (⟨"jdk/internal/util/ArraysSupport", "vectorizedHashCode", "(Ljava/lang/Object;IIII)I"⟩ : MethodName) (head1 (Jvm.Cond.code (⟨"jdk/internal/util/ArraysSupport", "vectorizedHashCode", "(Ljava/lang/Object;IIII)I"⟩ : MethodName) jdk_48_method_4_code 5 (some .int) :: ws) R_vz3) (fun as_ U => as_ = #[(.ref t), (.int (0 : Int32)), (.int (3 : Int32)), (.int (0 : Int32)), (.int (4 : Int32))] ∧ Z.Warmed39 U.vm ∧ U.heap = h0) (fun _ _ _ _ _ => True) (fun _ U o U' => ∃ v L, o = .returned v ∧ Q_vz3 Z t k b0 b1 b2 h0 n0 v U'.heap L ∧ FrameEnd U o U' L R_vz3.cells R_vz3.slots) := by
  refine MetFree.of_bodySF (plainFor_of_name pn_4) hisR ?_
  intro p e s m args below meth c s₁ Bd hml0 hP hK
  obtain ⟨rfl, hZ, hh⟩ := hP
  have hx := Bd.exec
  have hby := Bd.bytes
  have hml : c.maxLocals = 5 := hml0
  have hown : s.vm.findClass "jdk/internal/util/ArraysSupport" = some m.cls := findClass_of_methodNamed Bd.named
  have hnm := (name_of_methodNamed Bd.named Bd.method).1
  have hlk : meth.locks = false := BodyLoose.notSynchronized Bd
  have X0 : Stand p l e R_vz3 s m #[(.ref t), (.int (0 : Int32)), (.int (3 : Int32)), (.int (0 : Int32)), (.int (4 : Int32))] below meth c s₁ [] 0 0 := Stand.of_body Bd
  have e0 : s₁.heap = h0 := by rw [← hh, Bd.state]; rfl
  have N0 := Fr.nil n0
  refine enter (P := PQ s R_vz3.cells R_vz3.slots (Q_vz3 Z t k b0 b1 b2 h0 n0)) (ef_vz3 m t) ?_
  refine goS (n := 2) (Ls' := #[.val (.ref t), .val (.int (0 : Int32)), .val (.int (3 : Int32)), .val (.int (0 : Int32)), .val (.int (4 : Int32))]) (st' := [(.int (4 : Int32))]) (fun _ kz => XS.iload X0.here hx rfl (hb hby d13_0) rfl kz) ?_
  refine goS (n := 44) (Ls' := #[.val (.ref t), .val (.int (0 : Int32)), .val (.int (3 : Int32)), .val (.int (0 : Int32)), .val (.int (4 : Int32))]) (st' := []) (fun _ kz => XS.tswIn X0.here hx rfl (pc0 := 2) (pc' := 44) rfl (hb hby d13_2) rfl (by decide) (o := 42) (by decide) (by decide) (by decide) kz) ?_
  refine goS (n := 45) (Ls' := #[.val (.ref t), .val (.int (0 : Int32)), .val (.int (3 : Int32)), .val (.int (0 : Int32)), .val (.int (4 : Int32))]) (st' := [(.int (0 : Int32))]) (fun _ kz => XS.iloadN X0.here hx rfl (hb hby d13_44) rfl kz) ?_
  refine goS (n := 46) (Ls' := #[.val (.ref t), .val (.int (0 : Int32)), .val (.int (3 : Int32)), .val (.int (0 : Int32)), .val (.int (4 : Int32))]) (st' := [(.ref t), (.int (0 : Int32))]) (fun _ kz => XS.aloadN X0.here hx rfl (hb hby d13_45) rfl rfl kz) ?_
  obtain ⟨T1, X1, e1, st1⟩ := castY X0 hx hZ hown (hw _ (List.mem_of_getElem? (i := 73) rfl)) e0 (insArv V_t fcB) (g := (mkF m 46 #[.val (.ref t), .val (.int (0 : Int32)), .val (.int (3 : Int32)), .val (.int (0 : Int32)), .val (.int (4 : Int32))] [(.ref t), (.int (0 : Int32))])) rfl rfl (hb hby d13_46)
  refine goS (n := 49) (Ls' := #[.val (.ref t), .val (.int (0 : Int32)), .val (.int (3 : Int32)), .val (.int (0 : Int32)), .val (.int (4 : Int32))]) (st' := [(.ref t), (.int (0 : Int32))]) st1 ?_
  refine goS (n := 50) (Ls' := #[.val (.ref t), .val (.int (0 : Int32)), .val (.int (3 : Int32)), .val (.int (0 : Int32)), .val (.int (4 : Int32))]) (st' := [(.int (0 : Int32)), (.ref t), (.int (0 : Int32))]) (fun _ kz => XS.iloadN X1.here hx rfl (hb hby d13_49) rfl kz) ?_
  refine goS (n := 51) (Ls' := #[.val (.ref t), .val (.int (0 : Int32)), .val (.int (3 : Int32)), .val (.int (0 : Int32)), .val (.int (4 : Int32))]) (st' := [(.int (3 : Int32)), (.int (0 : Int32)), (.ref t), (.int (0 : Int32))]) (fun _ kz => XS.iloadN X1.here hx rfl (hb hby d13_50) rfl kz) ?_
  obtain ⟨vr2, _, ⟨T2, L2, k2, n2⟩, -, X2, ⟨Lc2, hQ2, l2, y2, z2⟩, st2⟩ := Jvm.LawKit.callS X1 hx (y := (⟨"jdk/internal/util/ArraysSupport", "signedHashCode", "(I[BII)I"⟩ : MethodName)) hown (mvT hZ (hw _ (List.mem_of_getElem? (i := 75) rfl))) (mvT hZ (hw _ (List.mem_of_getElem? (i := 76) rfl))) (mvT hZ (hw _ (List.mem_of_getElem? (i := 71) rfl))) (mvT hZ (hw _ (List.mem_of_getElem? (i := 77) rfl))) (by decide) (backOf (W := 0) (rm_sg3 l Z a0 hw [] t k b0 b1 b2 h0 n0 O0 V_t) hZ (hw _ (List.mem_of_getElem? (i := 77) rfl)) (hw _ (List.mem_of_getElem? (i := 71) rfl)) (by decide) (by decide)) (g := (mkF m 51 #[.val (.ref t), .val (.int (0 : Int32)), .val (.int (3 : Int32)), .val (.int (0 : Int32)), .val (.int (4 : Int32))] [(.int (3 : Int32)), (.int (0 : Int32)), (.ref t), (.int (0 : Int32))])) rfl (by rw [hml]; rfl) (argsL := [(.int (0 : Int32)), (.ref t), (.int (0 : Int32)), (.int (3 : Int32))]) (rest := []) (lenOf pd_5 rfl) rfl (by show 2 * 0 + _ ≤ _; exact Nat.le_of_eq rfl) (hb hby d13_51) (fun _ _ => ⟨rfl, e1, (nle rfl), (nle rfl)⟩)
  dsimp only [Pt.U, Pt.locs, Pt.cells, Pt.slots] at X2 l2 y2 z2 st2 hQ2
  subst l2 y2 z2
  obtain ⟨rfl, N2q, e2⟩ := hQ2
  have N2 := Fr.app N0 N2q
  refine goS (n := 54) (Ls' := #[.val (.ref t), .val (.int (0 : Int32)), .val (.int (3 : Int32)), .val (.int (0 : Int32)), .val (.int (4 : Int32))]) (st' := [(.int (((31 : Int32) * (((31 : Int32) * (((31 : Int32) * (0 : Int32)) + (b0 &&& (255 : Int32)))) + (b1 &&& (255 : Int32)))) + (b2 &&& (255 : Int32))))]) st2 ?_
  refine goS (n := 157) (Ls' := #[.val (.ref t), .val (.int (0 : Int32)), .val (.int (3 : Int32)), .val (.int (0 : Int32)), .val (.int (4 : Int32))]) (st' := [(.int (((31 : Int32) * (((31 : Int32) * (((31 : Int32) * (0 : Int32)) + (b0 &&& (255 : Int32)))) + (b1 &&& (255 : Int32)))) + (b2 &&& (255 : Int32))))]) (fun _ kz => XS.goto X2.here hx rfl (pc0 := 54) (pc' := 157) rfl (hb hby d13_54) (by decide) (by decide) kz) ?_
  exact goRetI X2 hx hlk Bd.returns (hb hby d13_157) (nle rfl) (nle rfl) (by rw [e2]; exact ⟨rfl, N2, rfl⟩)
theorem ef_lh3 (m : MethodId) (t : Addr) : entryFrame m #[(.ref t)] 1 = mkF m 0 #[.val (.ref t)] [] := by first | (simp [entryFrame, mkF, argsToLocals, Value.category]; done) | rfl
abbrev R_lh3 : Room := { frames := 2, cells := 0, slots := 0, locals := 33 }
def Q_lh3 (Z : State) (t : Addr) (k : ClassId) (b0 : Int32) (b1 : Int32) (b2 : Int32) (h0 : Heap) (n0 : Nat) (v : Option Value) (h : Heap) (L : List Loc) : Prop := v = some (.int (((31 : Int32) * (((31 : Int32) * (((31 : Int32) * (0 : Int32)) + (b0 &&& (255 : Int32)))) + (b1 &&& (255 : Int32)))) + (b2 &&& (255 : Int32)))) ∧ Fr n0 L ∧ h = h0
set_option maxRecDepth 65536 in
set_option maxHeartbeats 40000000 in
theorem rm_lh3 (l : Launch) (Z : State) (a0 : Array Value) (hw : ∀ d ∈ tables_1, d.before a0 Z = true) (ws : List Jvm.Cond) (t : Addr) (k : ClassId) (b0 : Int32) (b1 : Int32) (b2 : Int32) (h0 : Heap) (n0 : Nat) (O0 : Old Z n0 h0) (V_t : Arv Z h0 t k .byte (3 : Int32) [(.int b0), (.int b1), (.int b2)] (.int (0 : Int32))) (fcB : Z.vm.findClass "[B" = some k) :
    MetFree l (⟨"java/lang/StringLatin1", "hashCode", "([B)I"⟩ : MethodName) (head1 (Jvm.Cond.code (⟨"java/lang/StringLatin1", "hashCode", "([B)I"⟩ : MethodName) jdk_43_method_21_code 1 (some .int) :: ws) R_lh3) (fun as_ U => as_ = #[(.ref t)] ∧ Z.Warmed39 U.vm ∧ U.heap = h0) (fun _ _ _ _ _ => True) (fun _ U o U' => ∃ v L, o = .returned v ∧ Q_lh3 Z t k b0 b1 b2 h0 n0 v U'.heap L ∧ FrameEnd U o U' L R_lh3.cells R_lh3.slots) := by
  refine MetFree.of_bodySF (plainFor_of_name pn_3) hisR ?_
  intro p e s m args below meth c s₁ Bd hml0 hP hK
  obtain ⟨rfl, hZ, hh⟩ := hP
  have hx := Bd.exec
  have hby := Bd.bytes
  have hml : c.maxLocals = 1 := hml0
  have hown : s.vm.findClass "java/lang/StringLatin1" = some m.cls := findClass_of_methodNamed Bd.named
  have hnm := (name_of_methodNamed Bd.named Bd.method).1
  have hlk : meth.locks = false := BodyLoose.notSynchronized Bd
  have X0 : Stand p l e R_lh3 s m #[(.ref t)] below meth c s₁ [] 0 0 := Stand.of_body Bd
  have e0 : s₁.heap = h0 := by rw [← hh, Bd.state]; rfl
  have N0 := Fr.nil n0
  refine enter (P := PQ s R_lh3.cells R_lh3.slots (Q_lh3 Z t k b0 b1 b2 h0 n0)) (ef_lh3 m t) ?_
  refine goS (n := 1) (Ls' := #[.val (.ref t)]) (st' := [(.ref t)]) (fun _ kz => XS.aloadN X0.here hx rfl (hb hby d12_0) rfl rfl kz) ?_
  have vv1 := V_t
  obtain ⟨cl1, Ar1, -, S1, Nn1, -, -⟩ := vv1
  refine goS (n := 2) (Ls' := #[.val (.ref t)]) (st' := [(.int (3 : Int32))]) (fun tz kz => X0.arraylength hx (by rw [e0]; exact Ar1.1) (State.isArrayOf_alike hZ.alike Ar1.2.1) (g := (mkF m 1 #[.val (.ref t)] [(.ref t)])) rfl rfl (hb hby d12_1) tz (by rw [len_of S1 Nn1]; exact kz)) ?_
  refine goS (n := 42) (Ls' := #[.val (.ref t)]) (st' := []) (fun _ kz => lsw (g := (mkF m 2 #[.val (.ref t)] [(.int (3 : Int32))])) X0 hx rfl (pc0 := 2) (pc' := 42) rfl (o := 40) (hb hby d12_2) rfl (by intro a b c d h; revert h; simp; try omega) (Or.inr ⟨rfl, rfl⟩) (by decide) (by decide) kz) ?_
  refine goS (n := 43) (Ls' := #[.val (.ref t)]) (st' := [(.ref t)]) (fun _ kz => XS.aloadN X0.here hx rfl (hb hby d12_42) rfl rfl kz) ?_
  refine goS (n := 44) (Ls' := #[.val (.ref t)]) (st' := [(.int (0 : Int32)), (.ref t)]) (fun _ kz => XS.iconst X0.here hx rfl (hb hby d12_43) kz) ?_
  refine goS (n := 45) (Ls' := #[.val (.ref t)]) (st' := [(.ref t), (.int (0 : Int32)), (.ref t)]) (fun _ kz => XS.aloadN X0.here hx rfl (hb hby d12_44) rfl rfl kz) ?_
  have vv2 := V_t
  obtain ⟨cl2, Ar2, -, S2, Nn2, -, -⟩ := vv2
  refine goS (n := 46) (Ls' := #[.val (.ref t)]) (st' := [(.int (3 : Int32)), (.int (0 : Int32)), (.ref t)]) (fun tz kz => X0.arraylength hx (by rw [e0]; exact Ar2.1) (State.isArrayOf_alike hZ.alike Ar2.2.1) (g := (mkF m 45 #[.val (.ref t)] [(.ref t), (.int (0 : Int32)), (.ref t)])) rfl rfl (hb hby d12_45) tz (by rw [len_of S2 Nn2]; exact kz)) ?_
  refine goS (n := 47) (Ls' := #[.val (.ref t)]) (st' := [(.int (0 : Int32)), (.int (3 : Int32)), (.int (0 : Int32)), (.ref t)]) (fun _ kz => XS.iconst X0.here hx rfl (hb hby d12_46) kz) ?_
  refine goS (n := 48) (Ls' := #[.val (.ref t)]) (st' := [(.int (4 : Int32)), (.int (0 : Int32)), (.int (3 : Int32)), (.int (0 : Int32)), (.ref t)]) (fun _ kz => XS.iconst X0.here hx rfl (hb hby d12_47) kz) ?_
  obtain ⟨vr3, _, ⟨T3, L3, k3, n3⟩, -, X3, ⟨Lc3, hQ3, l3, y3, z3⟩, st3⟩ := Jvm.LawKit.callS X0 hx (y := (⟨"jdk/internal/util/ArraysSupport", "vectorizedHashCode", "(Ljava/lang/Object;IIII)I"⟩ : MethodName)) hown (mvT hZ (hw _ (List.mem_of_getElem? (i := 69) rfl))) (mvT hZ (hw _ (List.mem_of_getElem? (i := 70) rfl))) (mvT hZ (hw _ (List.mem_of_getElem? (i := 71) rfl))) (mvT hZ (hw _ (List.mem_of_getElem? (i := 72) rfl))) (by decide) (backOf (W := 0) (rm_vz3 l Z a0 hw [] t k b0 b1 b2 h0 n0 O0 V_t fcB) hZ (hw _ (List.mem_of_getElem? (i := 72) rfl)) (hw _ (List.mem_of_getElem? (i := 71) rfl)) (by decide) (by decide)) (g := (mkF m 48 #[.val (.ref t)] [(.int (4 : Int32)), (.int (0 : Int32)), (.int (3 : Int32)), (.int (0 : Int32)), (.ref t)])) rfl (by rw [hml]; rfl) (argsL := [(.ref t), (.int (0 : Int32)), (.int (3 : Int32)), (.int (0 : Int32)), (.int (4 : Int32))]) (rest := []) (lenOf pd_6 rfl) rfl (by show 2 * 0 + _ ≤ _; exact Nat.le_of_eq rfl) (hb hby d12_48) (fun _ _ => ⟨rfl, e0, (nle rfl), (nle rfl)⟩)
  dsimp only [Pt.U, Pt.locs, Pt.cells, Pt.slots] at X3 l3 y3 z3 st3 hQ3
  subst l3 y3 z3
  obtain ⟨rfl, N3q, e3⟩ := hQ3
  have N3 := Fr.app N0 N3q
  refine goS (n := 51) (Ls' := #[.val (.ref t)]) (st' := [(.int (((31 : Int32) * (((31 : Int32) * (((31 : Int32) * (0 : Int32)) + (b0 &&& (255 : Int32)))) + (b1 &&& (255 : Int32)))) + (b2 &&& (255 : Int32))))]) st3 ?_
  exact goRetI X3 hx hlk Bd.returns (hb hby d12_51) (nle rfl) (nle rfl) (by rw [e3]; exact ⟨rfl, N3, rfl⟩)
theorem ef_hc3 (m : MethodId) (a : Addr) : entryFrame m #[(.ref a)] 2 = mkF m 0 #[.val (.ref a), .unset] [] := by first | (simp [entryFrame, mkF, argsToLocals, Value.category]; done) | rfl
abbrev R_hc3 : Room := { frames := 3, cells := 0, slots := 0, locals := 45 }
def Q_hc3 (Z : State) (a : Addr) (cs : Int32) (t : Addr) (k : ClassId) (b0 : Int32) (b1 : Int32) (b2 : Int32) (h0 : Heap) (n0 : Nat) (v : Option Value) (h : Heap) (L : List Loc) : Prop := v = some (.int (((31 : Int32) * (((31 : Int32) * (((31 : Int32) * (0 : Int32)) + (b0 &&& (255 : Int32)))) + (b1 &&& (255 : Int32)))) + (b2 &&& (255 : Int32)))) ∧ Fr n0 L ∧ Keep h0 h [a]
set_option maxRecDepth 65536 in
set_option maxHeartbeats 40000000 in
theorem rm_hc3 (l : Launch) (Z : State) (a0 : Array Value) (hw : ∀ d ∈ tables_1, d.before a0 Z = true) (ws : List Jvm.Cond) (a : Addr) (cs : Int32) (t : Addr) (k : ClassId) (b0 : Int32) (b1 : Int32) (b2 : Int32) (h0 : Heap) (n0 : Nat) (O0 : Old Z n0 h0) (S_CS : Sta Z Z.heap "java/lang/String" "COMPACT_STRINGS" "Z" (.int cs)) (hcs : ¬ cs = (0 : Int32)) (E_a : Exa Z h0 a "java/lang/String") (F_value_a : Fld Z h0 a "java/lang/String" "value" "[B" (.ref t)) (F_coder_a : Fld Z h0 a "java/lang/String" "coder" "B" (.int (0 : Int32))) (F_hash_a : Fld Z h0 a "java/lang/String" "hash" "I" (.int (0 : Int32))) (F_hashIsZero_a : Fld Z h0 a "java/lang/String" "hashIsZero" "Z" (.int (0 : Int32))) (V_t : Arv Z h0 t k .byte (3 : Int32) [(.int b0), (.int b1), (.int b2)] (.int (0 : Int32))) (fcB : Z.vm.findClass "[B" = some k) (g_a : n0 ≤ a) :
    MetFree l (⟨"java/lang/String", "hashCode", "()I"⟩ : MethodName) (head1 (Jvm.Cond.code (⟨"java/lang/String", "hashCode", "()I"⟩ : MethodName) jdk_42_method_78_code 2 (some .int) :: ws) R_hc3) (fun as_ U => as_ = #[(.ref a)] ∧ Z.Warmed39 U.vm ∧ U.heap = h0) (fun _ _ _ _ _ => True) (fun _ U o U' => ∃ v L, o = .returned v ∧ Q_hc3 Z a cs t k b0 b1 b2 h0 n0 v U'.heap L ∧ FrameEnd U o U' L R_hc3.cells R_hc3.slots) := by
  refine MetFree.of_bodySF (plainFor_of_name pn_0) hisR ?_
  intro p e s m args below meth c s₁ Bd hml0 hP hK
  obtain ⟨rfl, hZ, hh⟩ := hP
  have hx := Bd.exec
  have hby := Bd.bytes
  have hml : c.maxLocals = 2 := hml0
  have hown : s.vm.findClass "java/lang/String" = some m.cls := findClass_of_methodNamed Bd.named
  have hnm := (name_of_methodNamed Bd.named Bd.method).1
  have hlk : meth.locks = false := BodyLoose.notSynchronized Bd
  have X0 : Stand p l e R_hc3 s m #[(.ref a)] below meth c s₁ [] 0 0 := Stand.of_body Bd
  have e0 : s₁.heap = h0 := by rw [← hh, Bd.state]; rfl
  have N0 := Fr.nil n0
  refine enter (P := PQ s R_hc3.cells R_hc3.slots (Q_hc3 Z a cs t k b0 b1 b2 h0 n0)) (ef_hc3 m a) ?_
  refine goS (n := 1) (Ls' := #[.val (.ref a), .unset]) (st' := [(.ref a)]) (fun _ kz => XS.aloadN X0.here hx rfl (hb hby d10_0) rfl rfl kz) ?_
  obtain ⟨T1, X1, e1, st1⟩ := getF X0 hx hZ hown (host := "") (Or.inl (hw _ (List.mem_of_getElem? (i := 56) rfl))) Via.refl e0 F_hash_a (g := (mkF m 1 #[.val (.ref a), .unset] [(.ref a)])) rfl rfl (hb hby d10_1)
  refine goS (n := 4) (Ls' := #[.val (.ref a), .unset]) (st' := [(.int (0 : Int32))]) st1 ?_
  refine goS (n := 5) (Ls' := #[.val (.ref a), .val (.int (0 : Int32))]) (st' := []) (fun _ kz => XS.istoreN X1.here hx rfl (hb hby d10_4) rfl (l' := #[.val (.ref a), .val (.int (0 : Int32))]) rfl kz) ?_
  refine goS (n := 6) (Ls' := #[.val (.ref a), .val (.int (0 : Int32))]) (st' := [(.int (0 : Int32))]) (fun _ kz => XS.iloadN X1.here hx rfl (hb hby d10_5) rfl kz) ?_
  refine goS (n := 9) (Ls' := #[.val (.ref a), .val (.int (0 : Int32))]) (st' := []) (fun _ kz => XS.ifNo X1.here hx rfl (hb hby d10_6) rfl (by decide) kz) ?_
  refine goS (n := 10) (Ls' := #[.val (.ref a), .val (.int (0 : Int32))]) (st' := [(.ref a)]) (fun _ kz => XS.aloadN X1.here hx rfl (hb hby d10_9) rfl rfl kz) ?_
  obtain ⟨T2, X2, e2, st2⟩ := getF X1 hx hZ hown (host := "") (Or.inl (hw _ (List.mem_of_getElem? (i := 58) rfl))) Via.refl e1 F_hashIsZero_a (g := (mkF m 10 #[.val (.ref a), .val (.int (0 : Int32))] [(.ref a)])) rfl rfl (hb hby d10_10)
  refine goS (n := 13) (Ls' := #[.val (.ref a), .val (.int (0 : Int32))]) (st' := [(.int (0 : Int32))]) st2 ?_
  refine goS (n := 16) (Ls' := #[.val (.ref a), .val (.int (0 : Int32))]) (st' := []) (fun _ kz => XS.ifNo X2.here hx rfl (hb hby d10_13) rfl (by decide) kz) ?_
  refine goS (n := 17) (Ls' := #[.val (.ref a), .val (.int (0 : Int32))]) (st' := [(.ref a)]) (fun _ kz => XS.aloadN X2.here hx rfl (hb hby d10_16) rfl rfl kz) ?_
  obtain ⟨cq3, kq3, q3a, q3b, q3c⟩ := isOf hZ e2 E_a
  obtain ⟨vr3, _, ⟨T3, L3, k3, n3⟩, -, X3, ⟨Lc3, hQ3, l3, y3, z3⟩, st3⟩ := X2.virtualBack hx (y := (⟨"java/lang/String", "isLatin1", "()Z"⟩ : MethodName)) (z := (⟨"java/lang/String", "isLatin1", "()Z"⟩ : MethodName)) hown (mvT hZ (hw _ (List.mem_of_getElem? (i := 60) rfl))) (mvT hZ (hw _ (List.mem_of_getElem? (i := 61) rfl))) (notFace_of_selects (args := #[]) (mvT hZ (hw _ (List.mem_of_getElem? (i := 63) rfl)))) (mvT hZ (hw _ (List.mem_of_getElem? (i := 63) rfl))) (mvT hZ (hw _ (List.mem_of_getElem? (i := 62) rfl))) (by decide) (backOf (W := 0) (rm_isl l Z a0 hw [] a cs h0 n0 O0 S_CS hcs F_coder_a) hZ (hw _ (List.mem_of_getElem? (i := 64) rfl)) (hw _ (List.mem_of_getElem? (i := 6) rfl)) (by decide) (by decide)) q3a q3c (g := (mkF m 17 #[.val (.ref a), .val (.int (0 : Int32))] [(.ref a)])) rfl (by rw [hml]; rfl) (Steps.refl _) (argsL := []) (rest := []) (lenOf pd_2 rfl) rfl (by show 2 * 0 + _ ≤ _; exact Nat.le_of_eq rfl) (hb hby d10_17) (fun _ _ => ⟨rfl, e2, (nle rfl), (nle rfl)⟩)
  dsimp only [Pt.U, Pt.locs, Pt.cells, Pt.slots] at X3 l3 y3 z3 st3 hQ3
  subst l3 y3 z3
  obtain ⟨rfl, N3q, e3⟩ := hQ3
  have N3 := Fr.app N0 N3q
  refine goT (n := 20) (Ls' := #[.val (.ref a), .val (.int (0 : Int32))]) (st' := [(.int (1 : Int32))]) st3 ?_
  refine goS (n := 23) (Ls' := #[.val (.ref a), .val (.int (0 : Int32))]) (st' := []) (fun _ kz => XS.ifNo X3.here hx rfl (hb hby d10_20) rfl (by decide) kz) ?_
  refine goS (n := 24) (Ls' := #[.val (.ref a), .val (.int (0 : Int32))]) (st' := [(.ref a)]) (fun _ kz => XS.aloadN X3.here hx rfl (hb hby d10_23) rfl rfl kz) ?_
  obtain ⟨T4, X4, e4, st4⟩ := getF X3 hx hZ hown (host := "") (Or.inl (hw _ (List.mem_of_getElem? (i := 31) rfl))) Via.refl e3 F_value_a (g := (mkF m 24 #[.val (.ref a), .val (.int (0 : Int32))] [(.ref a)])) rfl rfl (hb hby d10_24)
  refine goS (n := 27) (Ls' := #[.val (.ref a), .val (.int (0 : Int32))]) (st' := [(.ref t)]) st4 ?_
  obtain ⟨vr5, _, ⟨T5, L5, k5, n5⟩, -, X5, ⟨Lc5, hQ5, l5, y5, z5⟩, st5⟩ := Jvm.LawKit.callS X4 hx (y := (⟨"java/lang/StringLatin1", "hashCode", "([B)I"⟩ : MethodName)) hown (mvT hZ (hw _ (List.mem_of_getElem? (i := 65) rfl))) (mvT hZ (hw _ (List.mem_of_getElem? (i := 66) rfl))) (mvT hZ (hw _ (List.mem_of_getElem? (i := 67) rfl))) (mvT hZ (hw _ (List.mem_of_getElem? (i := 68) rfl))) (by decide) (backOf (W := 0) (rm_lh3 l Z a0 hw [] t k b0 b1 b2 h0 n0 O0 V_t fcB) hZ (hw _ (List.mem_of_getElem? (i := 68) rfl)) (hw _ (List.mem_of_getElem? (i := 67) rfl)) (by decide) (by decide)) (g := (mkF m 27 #[.val (.ref a), .val (.int (0 : Int32))] [(.ref t)])) rfl (by rw [hml]; rfl) (argsL := [(.ref t)]) (rest := []) (lenOf pd_3 rfl) rfl (by show 2 * 0 + _ ≤ _; exact Nat.le_of_eq rfl) (hb hby d10_27) (fun _ _ => ⟨rfl, e4, (nle rfl), (nle rfl)⟩)
  dsimp only [Pt.U, Pt.locs, Pt.cells, Pt.slots] at X5 l5 y5 z5 st5 hQ5
  subst l5 y5 z5
  obtain ⟨rfl, N5q, e5⟩ := hQ5
  have N5 := Fr.app N3 N5q
  refine goS (n := 30) (Ls' := #[.val (.ref a), .val (.int (0 : Int32))]) (st' := [(.int (((31 : Int32) * (((31 : Int32) * (((31 : Int32) * (0 : Int32)) + (b0 &&& (255 : Int32)))) + (b1 &&& (255 : Int32)))) + (b2 &&& (255 : Int32))))]) st5 ?_
  refine goS (n := 40) (Ls' := #[.val (.ref a), .val (.int (0 : Int32))]) (st' := [(.int (((31 : Int32) * (((31 : Int32) * (((31 : Int32) * (0 : Int32)) + (b0 &&& (255 : Int32)))) + (b1 &&& (255 : Int32)))) + (b2 &&& (255 : Int32))))]) (fun _ kz => XS.goto X5.here hx rfl (pc0 := 30) (pc' := 40) rfl (hb hby d10_30) (by decide) (by decide) kz) ?_
  refine goS (n := 41) (Ls' := #[.val (.ref a), .val (.int (((31 : Int32) * (((31 : Int32) * (((31 : Int32) * (0 : Int32)) + (b0 &&& (255 : Int32)))) + (b1 &&& (255 : Int32)))) + (b2 &&& (255 : Int32))))]) (st' := []) (fun _ kz => XS.istoreN X5.here hx rfl (hb hby d10_40) rfl (l' := #[.val (.ref a), .val (.int (((31 : Int32) * (((31 : Int32) * (((31 : Int32) * (0 : Int32)) + (b0 &&& (255 : Int32)))) + (b1 &&& (255 : Int32)))) + (b2 &&& (255 : Int32))))]) rfl kz) ?_
  refine goS (n := 42) (Ls' := #[.val (.ref a), .val (.int (((31 : Int32) * (((31 : Int32) * (((31 : Int32) * (0 : Int32)) + (b0 &&& (255 : Int32)))) + (b1 &&& (255 : Int32)))) + (b2 &&& (255 : Int32))))]) (st' := [(.int (((31 : Int32) * (((31 : Int32) * (((31 : Int32) * (0 : Int32)) + (b0 &&& (255 : Int32)))) + (b1 &&& (255 : Int32)))) + (b2 &&& (255 : Int32))))]) (fun _ kz => XS.iloadN X5.here hx rfl (hb hby d10_41) rfl kz) ?_
  by_cases hc6 : (((31 : Int32) * (((31 : Int32) * (((31 : Int32) * (0 : Int32)) + (b0 &&& (255 : Int32)))) + (b1 &&& (255 : Int32)))) + (b2 &&& (255 : Int32))) = (0 : Int32)
  · refine goS (n := 45) (Ls' := #[.val (.ref a), .val (.int (((31 : Int32) * (((31 : Int32) * (((31 : Int32) * (0 : Int32)) + (b0 &&& (255 : Int32)))) + (b1 &&& (255 : Int32)))) + (b2 &&& (255 : Int32))))]) (st' := []) (fun _ kz => XS.ifNo X5.here hx rfl (hb hby d10_42) rfl ((if0 _ _).trans (teq hc6).2) kz) ?_
    refine goS (n := 46) (Ls' := #[.val (.ref a), .val (.int (((31 : Int32) * (((31 : Int32) * (((31 : Int32) * (0 : Int32)) + (b0 &&& (255 : Int32)))) + (b1 &&& (255 : Int32)))) + (b2 &&& (255 : Int32))))]) (st' := [(.ref a)]) (fun _ kz => XS.aloadN X5.here hx rfl (hb hby d10_45) rfl rfl kz) ?_
    refine goS (n := 47) (Ls' := #[.val (.ref a), .val (.int (((31 : Int32) * (((31 : Int32) * (((31 : Int32) * (0 : Int32)) + (b0 &&& (255 : Int32)))) + (b1 &&& (255 : Int32)))) + (b2 &&& (255 : Int32))))]) (st' := [(.int (1 : Int32)), (.ref a)]) (fun _ kz => XS.iconst X5.here hx rfl (hb hby d10_46) kz) ?_
    obtain ⟨T7, h7, X7, e7, W7, st7⟩ := putFN X5 hx hZ hown (hw _ (List.mem_of_getElem? (i := 58) rfl)) Via.refl e5 F_hashIsZero_a E_a (Or.inl (hw _ (List.mem_of_getElem? (i := 59) rfl))) (hw _ (List.mem_of_getElem? (i := 5) rfl)) (ty := .boolean) (v' := (.int (1 : Int32))) (by decide) rfl rfl (g := (mkF m 47 #[.val (.ref a), .val (.int (((31 : Int32) * (((31 : Int32) * (((31 : Int32) * (0 : Int32)) + (b0 &&& (255 : Int32)))) + (b1 &&& (255 : Int32)))) + (b2 &&& (255 : Int32))))] [(.int (1 : Int32)), (.ref a)])) rfl rfl (hb hby d10_47)
    have Fn7 : Fld Z h7 a "java/lang/String" "hashIsZero" "Z" (.int (1 : Int32)) := F_hashIsZero_a.same W7
    have ne8 : a ≠ t := neEA E_a (hw _ (List.mem_of_getElem? (i := 5) rfl)) V_t
    have E_a : Exa Z h7 a "java/lang/String" := E_a.wr W7
    have F_value_a : Fld Z h7 a "java/lang/String" "value" "[B" (.ref t) := F_value_a.other W7 (Or.inr (slot_ne (Or.inr (hw _ (List.mem_of_getElem? (i := 32) rfl))) (Or.inl (hw _ (List.mem_of_getElem? (i := 59) rfl))) (by decide) (t := (.array .byte)) (t' := .boolean) (by decide) (by decide)))
    have F_coder_a : Fld Z h7 a "java/lang/String" "coder" "B" (.int (0 : Int32)) := F_coder_a.other W7 (Or.inr (slot_ne (Or.inr (hw _ (List.mem_of_getElem? (i := 30) rfl))) (Or.inl (hw _ (List.mem_of_getElem? (i := 59) rfl))) (by decide) (t := .byte) (t' := .boolean) (by decide) (by decide)))
    have F_hash_a : Fld Z h7 a "java/lang/String" "hash" "I" (.int (0 : Int32)) := F_hash_a.other W7 (Or.inr (slot_ne (Or.inl (hw _ (List.mem_of_getElem? (i := 57) rfl))) (Or.inl (hw _ (List.mem_of_getElem? (i := 59) rfl))) (by decide) (t := .int) (t' := .boolean) (by decide) (by decide)))
    have V_t : Arv Z h7 t k .byte (3 : Int32) [(.int b0), (.int b1), (.int b2)] (.int (0 : Int32)) := V_t.other W7 (Ne.symm ne8)
    have F_hashIsZero_a := Fn7
    have N7 := Fr.snoc X7 N5 g_a
    have O7 := O0.wr W7 g_a
    have KK7 : Keep h0 h7 [a] := (Keep.refl h0 [a]).wr W7 (Or.inl (List.mem_of_getElem? (i := 0) rfl))
    refine goS (n := 50) (Ls' := #[.val (.ref a), .val (.int (((31 : Int32) * (((31 : Int32) * (((31 : Int32) * (0 : Int32)) + (b0 &&& (255 : Int32)))) + (b1 &&& (255 : Int32)))) + (b2 &&& (255 : Int32))))]) (st' := []) st7 ?_
    refine goS (n := 58) (Ls' := #[.val (.ref a), .val (.int (((31 : Int32) * (((31 : Int32) * (((31 : Int32) * (0 : Int32)) + (b0 &&& (255 : Int32)))) + (b1 &&& (255 : Int32)))) + (b2 &&& (255 : Int32))))]) (st' := []) (fun _ kz => XS.goto X7.here hx rfl (pc0 := 50) (pc' := 58) rfl (hb hby d10_50) (by decide) (by decide) kz) ?_
    refine goS (n := 59) (Ls' := #[.val (.ref a), .val (.int (((31 : Int32) * (((31 : Int32) * (((31 : Int32) * (0 : Int32)) + (b0 &&& (255 : Int32)))) + (b1 &&& (255 : Int32)))) + (b2 &&& (255 : Int32))))]) (st' := [(.int (((31 : Int32) * (((31 : Int32) * (((31 : Int32) * (0 : Int32)) + (b0 &&& (255 : Int32)))) + (b1 &&& (255 : Int32)))) + (b2 &&& (255 : Int32))))]) (fun _ kz => XS.iloadN X7.here hx rfl (hb hby d10_58) rfl kz) ?_
    exact goRetI X7 hx hlk Bd.returns (hb hby d10_59) (nle rfl) (nle rfl) (by rw [e7]; exact ⟨rfl, N7, KK7⟩)
  · refine goS (n := 53) (Ls' := #[.val (.ref a), .val (.int (((31 : Int32) * (((31 : Int32) * (((31 : Int32) * (0 : Int32)) + (b0 &&& (255 : Int32)))) + (b1 &&& (255 : Int32)))) + (b2 &&& (255 : Int32))))]) (st' := []) (fun _ kz => XS.ifYes X5.here hx rfl (pc0 := 42) (pc' := 53) rfl (hb hby d10_42) rfl ((if0 _ _).trans (feq hc6).2) (by decide) (by decide) kz) ?_
    refine goS (n := 54) (Ls' := #[.val (.ref a), .val (.int (((31 : Int32) * (((31 : Int32) * (((31 : Int32) * (0 : Int32)) + (b0 &&& (255 : Int32)))) + (b1 &&& (255 : Int32)))) + (b2 &&& (255 : Int32))))]) (st' := [(.ref a)]) (fun _ kz => XS.aloadN X5.here hx rfl (hb hby d10_53) rfl rfl kz) ?_
    refine goS (n := 55) (Ls' := #[.val (.ref a), .val (.int (((31 : Int32) * (((31 : Int32) * (((31 : Int32) * (0 : Int32)) + (b0 &&& (255 : Int32)))) + (b1 &&& (255 : Int32)))) + (b2 &&& (255 : Int32))))]) (st' := [(.int (((31 : Int32) * (((31 : Int32) * (((31 : Int32) * (0 : Int32)) + (b0 &&& (255 : Int32)))) + (b1 &&& (255 : Int32)))) + (b2 &&& (255 : Int32)))), (.ref a)]) (fun _ kz => XS.iloadN X5.here hx rfl (hb hby d10_54) rfl kz) ?_
    obtain ⟨T9, h9, X9, e9, W9, st9⟩ := putF X5 hx hZ hown (host := "") (Or.inl (hw _ (List.mem_of_getElem? (i := 56) rfl))) Via.refl e5 F_hash_a E_a (Or.inl (hw _ (List.mem_of_getElem? (i := 57) rfl))) (hw _ (List.mem_of_getElem? (i := 5) rfl)) (ty := .int) (v := (.int (((31 : Int32) * (((31 : Int32) * (((31 : Int32) * (0 : Int32)) + (b0 &&& (255 : Int32)))) + (b1 &&& (255 : Int32)))) + (b2 &&& (255 : Int32))))) (by decide) rfl rfl (g := (mkF m 55 #[.val (.ref a), .val (.int (((31 : Int32) * (((31 : Int32) * (((31 : Int32) * (0 : Int32)) + (b0 &&& (255 : Int32)))) + (b1 &&& (255 : Int32)))) + (b2 &&& (255 : Int32))))] [(.int (((31 : Int32) * (((31 : Int32) * (((31 : Int32) * (0 : Int32)) + (b0 &&& (255 : Int32)))) + (b1 &&& (255 : Int32)))) + (b2 &&& (255 : Int32)))), (.ref a)])) rfl rfl (hb hby d10_55)
    have Fn9 : Fld Z h9 a "java/lang/String" "hash" "I" (.int (((31 : Int32) * (((31 : Int32) * (((31 : Int32) * (0 : Int32)) + (b0 &&& (255 : Int32)))) + (b1 &&& (255 : Int32)))) + (b2 &&& (255 : Int32)))) := F_hash_a.same W9
    have ne10 : a ≠ t := neEA E_a (hw _ (List.mem_of_getElem? (i := 5) rfl)) V_t
    have E_a : Exa Z h9 a "java/lang/String" := E_a.wr W9
    have F_value_a : Fld Z h9 a "java/lang/String" "value" "[B" (.ref t) := F_value_a.other W9 (Or.inr (slot_ne (Or.inr (hw _ (List.mem_of_getElem? (i := 32) rfl))) (Or.inl (hw _ (List.mem_of_getElem? (i := 57) rfl))) (by decide) (t := (.array .byte)) (t' := .int) (by decide) (by decide)))
    have F_coder_a : Fld Z h9 a "java/lang/String" "coder" "B" (.int (0 : Int32)) := F_coder_a.other W9 (Or.inr (slot_ne (Or.inr (hw _ (List.mem_of_getElem? (i := 30) rfl))) (Or.inl (hw _ (List.mem_of_getElem? (i := 57) rfl))) (by decide) (t := .byte) (t' := .int) (by decide) (by decide)))
    have F_hashIsZero_a : Fld Z h9 a "java/lang/String" "hashIsZero" "Z" (.int (0 : Int32)) := F_hashIsZero_a.other W9 (Or.inr (slot_ne (Or.inl (hw _ (List.mem_of_getElem? (i := 59) rfl))) (Or.inl (hw _ (List.mem_of_getElem? (i := 57) rfl))) (by decide) (t := .boolean) (t' := .int) (by decide) (by decide)))
    have V_t : Arv Z h9 t k .byte (3 : Int32) [(.int b0), (.int b1), (.int b2)] (.int (0 : Int32)) := V_t.other W9 (Ne.symm ne10)
    have F_hash_a := Fn9
    have N9 := Fr.snoc X9 N5 g_a
    have O9 := O0.wr W9 g_a
    have KK9 : Keep h0 h9 [a] := (Keep.refl h0 [a]).wr W9 (Or.inl (List.mem_of_getElem? (i := 0) rfl))
    refine goS (n := 58) (Ls' := #[.val (.ref a), .val (.int (((31 : Int32) * (((31 : Int32) * (((31 : Int32) * (0 : Int32)) + (b0 &&& (255 : Int32)))) + (b1 &&& (255 : Int32)))) + (b2 &&& (255 : Int32))))]) (st' := []) st9 ?_
    refine goS (n := 59) (Ls' := #[.val (.ref a), .val (.int (((31 : Int32) * (((31 : Int32) * (((31 : Int32) * (0 : Int32)) + (b0 &&& (255 : Int32)))) + (b1 &&& (255 : Int32)))) + (b2 &&& (255 : Int32))))]) (st' := [(.int (((31 : Int32) * (((31 : Int32) * (((31 : Int32) * (0 : Int32)) + (b0 &&& (255 : Int32)))) + (b1 &&& (255 : Int32)))) + (b2 &&& (255 : Int32))))]) (fun _ kz => XS.iloadN X9.here hx rfl (hb hby d10_58) rfl kz) ?_
    exact goRetI X9 hx hlk Bd.returns (hb hby d10_59) (nle rfl) (nle rfl) (by rw [e9]; exact ⟨rfl, N9, KK9⟩)
theorem ef_th3 (m : MethodId) (a : Addr) : entryFrame m #[(.ref a)] 1 = mkF m 0 #[.val (.ref a)] [] := by first | (simp [entryFrame, mkF, argsToLocals, Value.category]; done) | rfl
abbrev R_th3 : Room := { frames := 4, cells := 0, slots := 0, locals := 59 }
def Q_th3 (Z : State) (a : Addr) (sa : Addr) (x : Int32) (cs : Int32) (t : Addr) (k : ClassId) (b0 : Int32) (b1 : Int32) (b2 : Int32) (h0 : Heap) (n0 : Nat) (v : Option Value) (h : Heap) (L : List Loc) : Prop := v = some (.int (((31 : Int32) * (((31 : Int32) * (((31 : Int32) * (((31 : Int32) * (0 : Int32)) + (b0 &&& (255 : Int32)))) + (b1 &&& (255 : Int32)))) + (b2 &&& (255 : Int32)))) + x)) ∧ Fr n0 L ∧ Keep h0 h [sa]
set_option maxRecDepth 65536 in
set_option maxHeartbeats 40000000 in
theorem rm_th3 (l : Launch) (Z : State) (a0 : Array Value) (hw : ∀ d ∈ tables_1, d.before a0 Z = true) (ws : List Jvm.Cond) (a : Addr) (sa : Addr) (x : Int32) (cs : Int32) (t : Addr) (k : ClassId) (b0 : Int32) (b1 : Int32) (b2 : Int32) (h0 : Heap) (n0 : Nat) (O0 : Old Z n0 h0) (S_CS : Sta Z Z.heap "java/lang/String" "COMPACT_STRINGS" "Z" (.int cs)) (hcs : ¬ cs = (0 : Int32)) (E_a : Exa Z h0 a "com/example/thingstead/thingstead/mimir/Treasure") (F_material_a : Fld Z h0 a "com/example/thingstead/thingstead/mimir/Treasure" "material" "Ljava/lang/String;" (.ref sa)) (F_points_a : Fld Z h0 a "com/example/thingstead/thingstead/mimir/Treasure" "points" "I" (.int x)) (Es : Exa Z h0 sa "java/lang/String") (Fv : Fld Z h0 sa "java/lang/String" "value" "[B" (.ref t)) (Fc : Fld Z h0 sa "java/lang/String" "coder" "B" (.int (0 : Int32))) (Fh : Fld Z h0 sa "java/lang/String" "hash" "I" (.int (0 : Int32))) (Fz : Fld Z h0 sa "java/lang/String" "hashIsZero" "Z" (.int (0 : Int32))) (V_t : Arv Z h0 t k .byte (3 : Int32) [(.int b0), (.int b1), (.int b2)] (.int (0 : Int32))) (fcB : Z.vm.findClass "[B" = some k) (g_s : n0 ≤ sa) (has : a ≠ sa) :
    MetFree l (⟨"com/example/thingstead/thingstead/mimir/Treasure", "hashCode", "()I"⟩ : MethodName) (head1 (Jvm.Cond.code (⟨"com/example/thingstead/thingstead/mimir/Treasure", "hashCode", "()I"⟩ : MethodName) prog_8_method_3_code 1 (some .int) :: ws) R_th3) (fun as_ U => as_ = #[(.ref a)] ∧ Z.Warmed39 U.vm ∧ U.heap = h0) (fun _ _ _ _ _ => True) (fun _ U o U' => ∃ v L, o = .returned v ∧ Q_th3 Z a sa x cs t k b0 b1 b2 h0 n0 v U'.heap L ∧ FrameEnd U o U' L R_th3.cells R_th3.slots) := by
  refine MetFree.of_bodySF (plainFor_of_name pn_2) hisR ?_
  intro p e s m args below meth c s₁ Bd hml0 hP hK
  obtain ⟨rfl, hZ, hh⟩ := hP
  have hx := Bd.exec
  have hby := Bd.bytes
  have hml : c.maxLocals = 1 := hml0
  have hown : s.vm.findClass "com/example/thingstead/thingstead/mimir/Treasure" = some m.cls := findClass_of_methodNamed Bd.named
  have hnm := (name_of_methodNamed Bd.named Bd.method).1
  have hlk : meth.locks = false := BodyLoose.notSynchronized Bd
  have X0 : Stand p l e R_th3 s m #[(.ref a)] below meth c s₁ [] 0 0 := Stand.of_body Bd
  have e0 : s₁.heap = h0 := by rw [← hh, Bd.state]; rfl
  have N0 := Fr.nil n0
  refine enter (P := PQ s R_th3.cells R_th3.slots (Q_th3 Z a sa x cs t k b0 b1 b2 h0 n0)) (ef_th3 m a) ?_
  refine goS (n := 2) (Ls' := #[.val (.ref a)]) (st' := [(.int (31 : Int32))]) (fun _ kz => XS.bipush X0.here hx rfl (hb hby d9_0) kz) ?_
  refine goS (n := 3) (Ls' := #[.val (.ref a)]) (st' := [(.ref a), (.int (31 : Int32))]) (fun _ kz => XS.aloadN X0.here hx rfl (hb hby d9_2) rfl rfl kz) ?_
  obtain ⟨T1, X1, e1, st1⟩ := getF X0 hx hZ hown (host := "") (Or.inl (hw _ (List.mem_of_getElem? (i := 42) rfl))) Via.refl e0 F_material_a (g := (mkF m 3 #[.val (.ref a)] [(.ref a), (.int (31 : Int32))])) rfl rfl (hb hby d9_3)
  refine goS (n := 6) (Ls' := #[.val (.ref a)]) (st' := [(.ref sa), (.int (31 : Int32))]) st1 ?_
  obtain ⟨cq2, kq2, q2a, q2b, q2c⟩ := isOf hZ e1 Es
  obtain ⟨vr2, _, ⟨T2, L2, k2, n2⟩, -, X2, ⟨Lc2, hQ2, l2, y2, z2⟩, st2⟩ := X1.virtualBack hx (y := (⟨"java/lang/String", "hashCode", "()I"⟩ : MethodName)) (z := (⟨"java/lang/String", "hashCode", "()I"⟩ : MethodName)) hown (mvT hZ (hw _ (List.mem_of_getElem? (i := 51) rfl))) (mvT hZ (hw _ (List.mem_of_getElem? (i := 52) rfl))) (notFace_of_selects (args := #[]) (mvT hZ (hw _ (List.mem_of_getElem? (i := 54) rfl)))) (mvT hZ (hw _ (List.mem_of_getElem? (i := 54) rfl))) (mvT hZ (hw _ (List.mem_of_getElem? (i := 53) rfl))) (by decide) (backOf (W := 1) (rm_hc3 l Z a0 hw [] sa cs t k b0 b1 b2 h0 n0 O0 S_CS hcs Es Fv Fc Fh Fz V_t fcB g_s) hZ (hw _ (List.mem_of_getElem? (i := 55) rfl)) (hw _ (List.mem_of_getElem? (i := 6) rfl)) (by decide) (by decide)) q2a q2c (g := (mkF m 6 #[.val (.ref a)] [(.ref sa), (.int (31 : Int32))])) rfl (by rw [hml]; rfl) (Steps.refl _) (argsL := []) (rest := [(.int (31 : Int32))]) (lenOf pd_4 rfl) rfl (by show 2 * 0 + _ ≤ _; exact Nat.le_of_eq rfl) (hb hby d9_6) (fun _ _ => ⟨rfl, e1, (nle rfl), (nle rfl)⟩)
  dsimp only [Pt.U, Pt.locs, Pt.cells, Pt.slots] at X2 l2 y2 z2 st2 hQ2
  subst l2 y2 z2
  obtain ⟨rfl, N2q, K2⟩ := hQ2
  have N2 := Fr.app N0 N2q
  have e2 : T2.heap = T2.heap := rfl
  have O2 := O0.keep K2 (allS g_s all0)
  have KK2 : Keep h0 T2.heap [sa] := (Keep.refl h0 [sa]).trans K2 (allS (Or.inl (List.mem_of_getElem? (i := 0) rfl)) all0)
  have E_a : Exa Z T2.heap a "com/example/thingstead/thingstead/mimir/Treasure" := E_a.keep K2
  have F_material_a : Fld Z T2.heap a "com/example/thingstead/thingstead/mimir/Treasure" "material" "Ljava/lang/String;" (.ref sa) := F_material_a.keep K2 (ninS has nin0)
  have F_points_a : Fld Z T2.heap a "com/example/thingstead/thingstead/mimir/Treasure" "points" "I" (.int x) := F_points_a.keep K2 (ninS has nin0)
  refine goT (n := 9) (Ls' := #[.val (.ref a)]) (st' := [(.int (((31 : Int32) * (((31 : Int32) * (((31 : Int32) * (0 : Int32)) + (b0 &&& (255 : Int32)))) + (b1 &&& (255 : Int32)))) + (b2 &&& (255 : Int32)))), (.int (31 : Int32))]) st2 ?_
  refine goS (n := 10) (Ls' := #[.val (.ref a)]) (st' := [(.int ((31 : Int32) * (((31 : Int32) * (((31 : Int32) * (((31 : Int32) * (0 : Int32)) + (b0 &&& (255 : Int32)))) + (b1 &&& (255 : Int32)))) + (b2 &&& (255 : Int32)))))]) (fun _ kz => XS.imul X2.here hx rfl (hb hby d9_9) rfl kz) ?_
  refine goS (n := 11) (Ls' := #[.val (.ref a)]) (st' := [(.ref a), (.int ((31 : Int32) * (((31 : Int32) * (((31 : Int32) * (((31 : Int32) * (0 : Int32)) + (b0 &&& (255 : Int32)))) + (b1 &&& (255 : Int32)))) + (b2 &&& (255 : Int32)))))]) (fun _ kz => XS.aloadN X2.here hx rfl (hb hby d9_10) rfl rfl kz) ?_
  obtain ⟨T3, X3, e3, st3⟩ := getF X2 hx hZ hown (host := "") (Or.inl (hw _ (List.mem_of_getElem? (i := 44) rfl))) Via.refl e2 F_points_a (g := (mkF m 11 #[.val (.ref a)] [(.ref a), (.int ((31 : Int32) * (((31 : Int32) * (((31 : Int32) * (((31 : Int32) * (0 : Int32)) + (b0 &&& (255 : Int32)))) + (b1 &&& (255 : Int32)))) + (b2 &&& (255 : Int32)))))])) rfl rfl (hb hby d9_11)
  refine goS (n := 14) (Ls' := #[.val (.ref a)]) (st' := [(.int x), (.int ((31 : Int32) * (((31 : Int32) * (((31 : Int32) * (((31 : Int32) * (0 : Int32)) + (b0 &&& (255 : Int32)))) + (b1 &&& (255 : Int32)))) + (b2 &&& (255 : Int32)))))]) st3 ?_
  refine goS (n := 15) (Ls' := #[.val (.ref a)]) (st' := [(.int (((31 : Int32) * (((31 : Int32) * (((31 : Int32) * (((31 : Int32) * (0 : Int32)) + (b0 &&& (255 : Int32)))) + (b1 &&& (255 : Int32)))) + (b2 &&& (255 : Int32)))) + x))]) (fun _ kz => XS.iadd X3.here hx rfl (hb hby d9_14) rfl kz) ?_
  exact goRetI X3 hx hlk Bd.returns (hb hby d9_15) (nle rfl) (nle rfl) (by rw [e3]; exact ⟨rfl, N2, KK2⟩)
theorem own_cr (x : Int32) : ¬ ((x &&& (255 : Int32)).toUInt32.toUInt16.toUInt32.toInt32) < 0 ∧ ¬ (255 : Int32) < ((x &&& (255 : Int32)).toUInt32.toUInt16.toUInt32.toInt32) := by
  rw [i2c_mask, Int32.lt_iff_toInt_lt, Int32.lt_iff_toInt_lt]
  have := c_and x 255 (by decide)
  have z : (255 : Int32).toInt = 255 := rfl
  have z0 : (0 : Int32).toInt = 0 := rfl
  omega
theorem own_narC (x : Int32) (h : ¬ x < 0 ∧ ¬ (255 : Int32) < x) : nar .char x = x := by
  have q := c_i2c x
  obtain ⟨h1, h2⟩ := h
  rw [Int32.lt_iff_toInt_lt] at h1 h2
  have z1 : (0 : Int32).toInt = 0 := rfl
  have z2 : (255 : Int32).toInt = 255 := rfl
  exact Int32.toInt_inj.mp (by show (x.toUInt32.toUInt16.toUInt32.toInt32).toInt = _; omega)
theorem own_b (x : Int32) (h : ¬ x < 0 ∧ ¬ (255 : Int32) < x) : x.toInt8.toInt32 &&& (255 : Int32) = x := by
  have q := c_i2b x
  have r := c_mask x.toInt8.toInt32 255 8 (by decide) (by decide)
  obtain ⟨h1, h2⟩ := h
  rw [Int32.lt_iff_toInt_lt] at h1 h2
  have z1 : (0 : Int32).toInt = 0 := rfl
  have z2 : (255 : Int32).toInt = 255 := rfl
  exact Int32.toInt_inj.mp (by rw [r]; omega)
theorem pd_7 : parseMethodDescriptor "([C)V" = some ⟨[(.array .char)], none⟩ := by decide +kernel
theorem pd_8 : parseMethodDescriptor "(Ljava/lang/String;I)V" = some ⟨[(.object "java/lang/String"), .int], none⟩ := by decide +kernel
theorem pn_5 : plainName "com/example/thingstead/thingstead/mimir/TreasureHashCodePinLaw" = true := by first | (simp [plainName, overriddenIn]; done) | decide +kernel
theorem ef_law (m : MethodId) (p1 : Int32) (p2 : Int32) (p3 : Int32) : entryFrame m #[(.int p1), (.int p2), (.int p3)] maxLocals = mkF m 0 #[.val (.int p1), .val (.int p2), .val (.int p3), .unset, .unset, .unset, .unset, .unset, .unset, .unset] [] := by first | (simp [entryFrame, mkF, argsToLocals, Value.category, maxLocals]; done) | rfl
def Q_law (Z : State) (p1 : Int32) (p2 : Int32) (p3 : Int32) (cs : Int32) (h0 : Heap) (n0 : Nat) (v : Option Value) (h : Heap) (L : List Loc) : Prop := v = some (.int 1) ∧ Fr n0 L
set_option maxRecDepth 65536 in
set_option maxHeartbeats 40000000 in
theorem rm_law (l : Launch) (Z : State) (a0 : Array Value) (hw : ∀ d ∈ tables_1, d.before a0 Z = true) (ws : List Jvm.Cond) (p1 : Int32) (p2 : Int32) (p3 : Int32) (cs : Int32) (h0 : Heap) (n0 : Nat) (O0 : Old Z n0 h0) (S_CS : Sta Z Z.heap "java/lang/String" "COMPACT_STRINGS" "Z" (.int cs)) (hcs : ¬ cs = (0 : Int32)) :
    MetFree l x (head1 (Jvm.Cond.code x code maxLocals ret :: ws) room_1) (fun as_ U => as_ = #[(.int p1), (.int p2), (.int p3)] ∧ Z.Warmed39 U.vm ∧ U.heap = h0 ∧ CHv Z own_EL U.vm h0) (fun _ _ _ _ _ => True) (fun _ U o U' => ∃ v L, o = .returned v ∧ Q_law Z p1 p2 p3 cs h0 n0 v U'.heap L ∧ CHr Z own_EL U.vm U.heap U'.vm U'.heap ∧ ReturnedEndW U o U' L room_1.cells room_1.slots) := by
  refine MetFree.of_bodySF (plainFor_of_name pn_5) hisR ?_
  intro p e s m args below meth c s₁ Bd hml0 hP hK
  obtain ⟨rfl, hZ, hh, hC0⟩ := hP
  have hx := Bd.exec
  have hby := Bd.bytes
  have hml : c.maxLocals = 10 := hml0
  have hown : s.vm.findClass "com/example/thingstead/thingstead/mimir/TreasureHashCodePinLaw" = some m.cls := findClass_of_methodNamed Bd.named
  have hnm := (name_of_methodNamed Bd.named Bd.method).1
  have hlk : meth.locks = false := BodyLoose.notSynchronized Bd
  have X0 : Stand p l e room_1 (s.setVm s.vm) m #[(.int p1), (.int p2), (.int p3)] below meth c s₁ [] 0 0 := Stand.of_body Bd
  have e0 : s₁.heap = h0 := by rw [← hh, Bd.state]; rfl
  have N0 := Fr.nil n0
  have hS : s.Since s.vm s.heap.size := (State.WarmedH.refl s).since _
  have hk : s.heap.size ≤ h0.size := by rw [← hh]; exact Nat.le_refl _
  have hZ : Z.Warmed39 (s.setVm s.vm).vm := hZ
  have hown : (s.setVm s.vm).vm.findClass "com/example/thingstead/thingstead/mimir/TreasureHashCodePinLaw" = some m.cls := hown
  have wS := own_wS hw
  have hC : CHr Z own_EL s.vm h0 s.vm h0 := CHr.refl hC0
  have hEL := own_EW hw
  refine enter (P := PQH Z own_EL s room_1.cells room_1.slots (Q_law Z p1 p2 p3 cs h0 n0)) (ef_law m p1 p2 p3) ?_
  refine goS (n := 1) (Ls' := #[.val (.int p1), .val (.int p2), .val (.int p3), .unset, .unset, .unset, .unset, .unset, .unset, .unset]) (st' := [(.int p2)]) (fun _ kz => XS.iloadN X0.here hx rfl (hb hby at_0) rfl kz) ?_
  refine goS (n := 2) (Ls' := #[.val (.int p1), .val (.int p2), .val (.int p3), .unset, .unset, .unset, .unset, .unset, .unset, .unset]) (st' := [(.int (3 : Int32)), (.int p2)]) (fun _ kz => XS.iconst X0.here hx rfl (hb hby at_1) kz) ?_
  refine goS (n := 3) (Ls' := #[.val (.int p1), .val (.int p2), .val (.int p3), .unset, .unset, .unset, .unset, .unset, .unset, .unset]) (st' := [(.int (p2 &&& (3 : Int32)))]) (fun _ kz => XS.iand X0.here hx rfl (hb hby at_2) rfl kz) ?_
  refine goS (n := 4) (Ls' := #[.val (.int p1), .val (.int p2), .val (.int p3), .val (.int (p2 &&& (3 : Int32))), .unset, .unset, .unset, .unset, .unset, .unset]) (st' := []) (fun _ kz => XS.istoreN X0.here hx rfl (hb hby at_3) rfl (l' := #[.val (.int p1), .val (.int p2), .val (.int p3), .val (.int (p2 &&& (3 : Int32))), .unset, .unset, .unset, .unset, .unset, .unset]) rfl kz) ?_
  refine goS (n := 5) (Ls' := #[.val (.int p1), .val (.int p2), .val (.int p3), .val (.int (p2 &&& (3 : Int32))), .unset, .unset, .unset, .unset, .unset, .unset]) (st' := [(.int p1)]) (fun _ kz => XS.iloadN X0.here hx rfl (hb hby at_4) rfl kz) ?_
  refine goS (n := 8) (Ls' := #[.val (.int p1), .val (.int p2), .val (.int p3), .val (.int (p2 &&& (3 : Int32))), .unset, .unset, .unset, .unset, .unset, .unset]) (st' := [(.int (255 : Int32)), (.int p1)]) (fun _ kz => XS.sipush X0.here hx rfl (hb hby at_5) kz) ?_
  refine goS (n := 9) (Ls' := #[.val (.int p1), .val (.int p2), .val (.int p3), .val (.int (p2 &&& (3 : Int32))), .unset, .unset, .unset, .unset, .unset, .unset]) (st' := [(.int (p1 &&& (255 : Int32)))]) (fun _ kz => XS.iand X0.here hx rfl (hb hby at_8) rfl kz) ?_
  refine goS (n := 10) (Ls' := #[.val (.int p1), .val (.int p2), .val (.int p3), .val (.int (p2 &&& (3 : Int32))), .unset, .unset, .unset, .unset, .unset, .unset]) (st' := [(.int ((p1 &&& (255 : Int32)).toUInt32.toUInt16.toUInt32.toInt32))]) (fun _ kz => XS.i2c X0.here hx rfl (hb hby at_9) rfl kz) ?_
  refine goS (n := 12) (Ls' := #[.val (.int p1), .val (.int p2), .val (.int p3), .val (.int (p2 &&& (3 : Int32))), .val (.int ((p1 &&& (255 : Int32)).toUInt32.toUInt16.toUInt32.toInt32)), .unset, .unset, .unset, .unset, .unset]) (st' := []) (fun _ kz => XS.istore X0.here hx rfl (hb hby at_10) rfl (l' := #[.val (.int p1), .val (.int p2), .val (.int p3), .val (.int (p2 &&& (3 : Int32))), .val (.int ((p1 &&& (255 : Int32)).toUInt32.toUInt16.toUInt32.toInt32)), .unset, .unset, .unset, .unset, .unset]) rfl kz) ?_
  refine goS (n := 13) (Ls' := #[.val (.int p1), .val (.int p2), .val (.int p3), .val (.int (p2 &&& (3 : Int32))), .val (.int ((p1 &&& (255 : Int32)).toUInt32.toUInt16.toUInt32.toInt32)), .unset, .unset, .unset, .unset, .unset]) (st' := [(.int p1)]) (fun _ kz => XS.iloadN X0.here hx rfl (hb hby at_12) rfl kz) ?_
  refine goS (n := 15) (Ls' := #[.val (.int p1), .val (.int p2), .val (.int p3), .val (.int (p2 &&& (3 : Int32))), .val (.int ((p1 &&& (255 : Int32)).toUInt32.toUInt16.toUInt32.toInt32)), .unset, .unset, .unset, .unset, .unset]) (st' := [(.int (8 : Int32)), (.int p1)]) (fun _ kz => XS.bipush X0.here hx rfl (hb hby at_13) kz) ?_
  refine goS (n := 16) (Ls' := #[.val (.int p1), .val (.int p2), .val (.int p3), .val (.int (p2 &&& (3 : Int32))), .val (.int ((p1 &&& (255 : Int32)).toUInt32.toUInt16.toUInt32.toInt32)), .unset, .unset, .unset, .unset, .unset]) (st' := [(.int ((p1.toUInt32 >>> ((8 : Int32) &&& 31).toUInt32).toInt32))]) (fun _ kz => XS.iushr X0.here hx rfl (hb hby at_15) rfl kz) ?_
  refine goS (n := 19) (Ls' := #[.val (.int p1), .val (.int p2), .val (.int p3), .val (.int (p2 &&& (3 : Int32))), .val (.int ((p1 &&& (255 : Int32)).toUInt32.toUInt16.toUInt32.toInt32)), .unset, .unset, .unset, .unset, .unset]) (st' := [(.int (255 : Int32)), (.int ((p1.toUInt32 >>> ((8 : Int32) &&& 31).toUInt32).toInt32))]) (fun _ kz => XS.sipush X0.here hx rfl (hb hby at_16) kz) ?_
  refine goS (n := 20) (Ls' := #[.val (.int p1), .val (.int p2), .val (.int p3), .val (.int (p2 &&& (3 : Int32))), .val (.int ((p1 &&& (255 : Int32)).toUInt32.toUInt16.toUInt32.toInt32)), .unset, .unset, .unset, .unset, .unset]) (st' := [(.int (((p1.toUInt32 >>> ((8 : Int32) &&& 31).toUInt32).toInt32) &&& (255 : Int32)))]) (fun _ kz => XS.iand X0.here hx rfl (hb hby at_19) rfl kz) ?_
  refine goS (n := 21) (Ls' := #[.val (.int p1), .val (.int p2), .val (.int p3), .val (.int (p2 &&& (3 : Int32))), .val (.int ((p1 &&& (255 : Int32)).toUInt32.toUInt16.toUInt32.toInt32)), .unset, .unset, .unset, .unset, .unset]) (st' := [(.int ((((p1.toUInt32 >>> ((8 : Int32) &&& 31).toUInt32).toInt32) &&& (255 : Int32)).toUInt32.toUInt16.toUInt32.toInt32))]) (fun _ kz => XS.i2c X0.here hx rfl (hb hby at_20) rfl kz) ?_
  refine goS (n := 23) (Ls' := #[.val (.int p1), .val (.int p2), .val (.int p3), .val (.int (p2 &&& (3 : Int32))), .val (.int ((p1 &&& (255 : Int32)).toUInt32.toUInt16.toUInt32.toInt32)), .val (.int ((((p1.toUInt32 >>> ((8 : Int32) &&& 31).toUInt32).toInt32) &&& (255 : Int32)).toUInt32.toUInt16.toUInt32.toInt32)), .unset, .unset, .unset, .unset]) (st' := []) (fun _ kz => XS.istore X0.here hx rfl (hb hby at_21) rfl (l' := #[.val (.int p1), .val (.int p2), .val (.int p3), .val (.int (p2 &&& (3 : Int32))), .val (.int ((p1 &&& (255 : Int32)).toUInt32.toUInt16.toUInt32.toInt32)), .val (.int ((((p1.toUInt32 >>> ((8 : Int32) &&& 31).toUInt32).toInt32) &&& (255 : Int32)).toUInt32.toUInt16.toUInt32.toInt32)), .unset, .unset, .unset, .unset]) rfl kz) ?_
  refine goS (n := 24) (Ls' := #[.val (.int p1), .val (.int p2), .val (.int p3), .val (.int (p2 &&& (3 : Int32))), .val (.int ((p1 &&& (255 : Int32)).toUInt32.toUInt16.toUInt32.toInt32)), .val (.int ((((p1.toUInt32 >>> ((8 : Int32) &&& 31).toUInt32).toInt32) &&& (255 : Int32)).toUInt32.toUInt16.toUInt32.toInt32)), .unset, .unset, .unset, .unset]) (st' := [(.int p1)]) (fun _ kz => XS.iloadN X0.here hx rfl (hb hby at_23) rfl kz) ?_
  refine goS (n := 26) (Ls' := #[.val (.int p1), .val (.int p2), .val (.int p3), .val (.int (p2 &&& (3 : Int32))), .val (.int ((p1 &&& (255 : Int32)).toUInt32.toUInt16.toUInt32.toInt32)), .val (.int ((((p1.toUInt32 >>> ((8 : Int32) &&& 31).toUInt32).toInt32) &&& (255 : Int32)).toUInt32.toUInt16.toUInt32.toInt32)), .unset, .unset, .unset, .unset]) (st' := [(.int (16 : Int32)), (.int p1)]) (fun _ kz => XS.bipush X0.here hx rfl (hb hby at_24) kz) ?_
  refine goS (n := 27) (Ls' := #[.val (.int p1), .val (.int p2), .val (.int p3), .val (.int (p2 &&& (3 : Int32))), .val (.int ((p1 &&& (255 : Int32)).toUInt32.toUInt16.toUInt32.toInt32)), .val (.int ((((p1.toUInt32 >>> ((8 : Int32) &&& 31).toUInt32).toInt32) &&& (255 : Int32)).toUInt32.toUInt16.toUInt32.toInt32)), .unset, .unset, .unset, .unset]) (st' := [(.int ((p1.toUInt32 >>> ((16 : Int32) &&& 31).toUInt32).toInt32))]) (fun _ kz => XS.iushr X0.here hx rfl (hb hby at_26) rfl kz) ?_
  refine goS (n := 30) (Ls' := #[.val (.int p1), .val (.int p2), .val (.int p3), .val (.int (p2 &&& (3 : Int32))), .val (.int ((p1 &&& (255 : Int32)).toUInt32.toUInt16.toUInt32.toInt32)), .val (.int ((((p1.toUInt32 >>> ((8 : Int32) &&& 31).toUInt32).toInt32) &&& (255 : Int32)).toUInt32.toUInt16.toUInt32.toInt32)), .unset, .unset, .unset, .unset]) (st' := [(.int (255 : Int32)), (.int ((p1.toUInt32 >>> ((16 : Int32) &&& 31).toUInt32).toInt32))]) (fun _ kz => XS.sipush X0.here hx rfl (hb hby at_27) kz) ?_
  refine goS (n := 31) (Ls' := #[.val (.int p1), .val (.int p2), .val (.int p3), .val (.int (p2 &&& (3 : Int32))), .val (.int ((p1 &&& (255 : Int32)).toUInt32.toUInt16.toUInt32.toInt32)), .val (.int ((((p1.toUInt32 >>> ((8 : Int32) &&& 31).toUInt32).toInt32) &&& (255 : Int32)).toUInt32.toUInt16.toUInt32.toInt32)), .unset, .unset, .unset, .unset]) (st' := [(.int (((p1.toUInt32 >>> ((16 : Int32) &&& 31).toUInt32).toInt32) &&& (255 : Int32)))]) (fun _ kz => XS.iand X0.here hx rfl (hb hby at_30) rfl kz) ?_
  refine goS (n := 32) (Ls' := #[.val (.int p1), .val (.int p2), .val (.int p3), .val (.int (p2 &&& (3 : Int32))), .val (.int ((p1 &&& (255 : Int32)).toUInt32.toUInt16.toUInt32.toInt32)), .val (.int ((((p1.toUInt32 >>> ((8 : Int32) &&& 31).toUInt32).toInt32) &&& (255 : Int32)).toUInt32.toUInt16.toUInt32.toInt32)), .unset, .unset, .unset, .unset]) (st' := [(.int ((((p1.toUInt32 >>> ((16 : Int32) &&& 31).toUInt32).toInt32) &&& (255 : Int32)).toUInt32.toUInt16.toUInt32.toInt32))]) (fun _ kz => XS.i2c X0.here hx rfl (hb hby at_31) rfl kz) ?_
  refine goS (n := 34) (Ls' := #[.val (.int p1), .val (.int p2), .val (.int p3), .val (.int (p2 &&& (3 : Int32))), .val (.int ((p1 &&& (255 : Int32)).toUInt32.toUInt16.toUInt32.toInt32)), .val (.int ((((p1.toUInt32 >>> ((8 : Int32) &&& 31).toUInt32).toInt32) &&& (255 : Int32)).toUInt32.toUInt16.toUInt32.toInt32)), .val (.int ((((p1.toUInt32 >>> ((16 : Int32) &&& 31).toUInt32).toInt32) &&& (255 : Int32)).toUInt32.toUInt16.toUInt32.toInt32)), .unset, .unset, .unset]) (st' := []) (fun _ kz => XS.istore X0.here hx rfl (hb hby at_32) rfl (l' := #[.val (.int p1), .val (.int p2), .val (.int p3), .val (.int (p2 &&& (3 : Int32))), .val (.int ((p1 &&& (255 : Int32)).toUInt32.toUInt16.toUInt32.toInt32)), .val (.int ((((p1.toUInt32 >>> ((8 : Int32) &&& 31).toUInt32).toInt32) &&& (255 : Int32)).toUInt32.toUInt16.toUInt32.toInt32)), .val (.int ((((p1.toUInt32 >>> ((16 : Int32) &&& 31).toUInt32).toInt32) &&& (255 : Int32)).toUInt32.toUInt16.toUInt32.toInt32)), .unset, .unset, .unset]) rfl kz) ?_
  obtain ⟨c0, d_c0⟩ : ∃ i : Int32, i = ((p1 &&& (255 : Int32)).toUInt32.toUInt16.toUInt32.toInt32) := ⟨_, rfl⟩
  rw [← d_c0]
  have r_c0 : (¬ c0 < 0 ∧ ¬ (255 : Int32) < c0) := by rw [d_c0]; exact own_cr _
  obtain ⟨c1, d_c1⟩ : ∃ i : Int32, i = ((((p1.toUInt32 >>> ((8 : Int32) &&& 31).toUInt32).toInt32) &&& (255 : Int32)).toUInt32.toUInt16.toUInt32.toInt32) := ⟨_, rfl⟩
  rw [← d_c1]
  have r_c1 : (¬ c1 < 0 ∧ ¬ (255 : Int32) < c1) := by rw [d_c1]; exact own_cr _
  obtain ⟨c2, d_c2⟩ : ∃ i : Int32, i = ((((p1.toUInt32 >>> ((16 : Int32) &&& 31).toUInt32).toInt32) &&& (255 : Int32)).toUInt32.toUInt16.toUInt32.toInt32) := ⟨_, rfl⟩
  rw [← d_c2]
  have r_c2 : (¬ c2 < 0 ∧ ¬ (255 : Int32) < c2) := by rw [d_c2]; exact own_cr _
  refine goS (n := 35) (Ls' := #[.val (.int p1), .val (.int p2), .val (.int p3), .val (.int (p2 &&& (3 : Int32))), .val (.int c0), .val (.int c1), .val (.int c2), .unset, .unset, .unset]) (st' := [(.int (p2 &&& (3 : Int32)))]) (fun _ kz => XS.iloadN X0.here hx rfl (hb hby at_34) rfl kz) ?_
  by_cases hc1 : (p2 &&& (3 : Int32)) = (0 : Int32)
  · refine goS (n := 38) (Ls' := #[.val (.int p1), .val (.int p2), .val (.int p3), .val (.int (p2 &&& (3 : Int32))), .val (.int c0), .val (.int c1), .val (.int c2), .unset, .unset, .unset]) (st' := []) (fun _ kz => XS.ifNo X0.here hx rfl (hb hby at_35) rfl ((if0 _ _).trans (teq hc1).2) kz) ?_
    refine goS (n := 39) (Ls' := #[.val (.int p1), .val (.int p2), .val (.int p3), .val (.int (p2 &&& (3 : Int32))), .val (.int c0), .val (.int c1), .val (.int c2), .unset, .unset, .unset]) (st' := [(.int (0 : Int32))]) (fun _ kz => XS.iconst X0.here hx rfl (hb hby at_38) kz) ?_
    obtain ⟨T2, h2, k2, X2, e2, E2, A2, Ex2, st2⟩ := newPE X0 hx hZ (hw _ (List.mem_of_getElem? (i := 0) rfl)) e0 (g := (mkF m 39 #[.val (.int p1), .val (.int p2), .val (.int p3), .val (.int (p2 &&& (3 : Int32))), .val (.int c0), .val (.int c1), .val (.int c2), .unset, .unset, .unset] [(.int (0 : Int32))])) rfl (hb hby at_39) rfl (by decide) (cap := 0) (by decide) (by decide) (nle rfl) (nle rfl) (ad := "[C") (by decide +kernel)
    obtain ⟨b2, g2⟩ : ∃ z, z = h0.size := ⟨_, rfl⟩
    rw [← g2] at A2 st2 Ex2
    have g_b2 : n0 ≤ b2 := Nat.le_trans (O0.1 ▸ O0.2.1) (Nat.le_of_eq g2.symm)
    have SF_b2 : Safe Z own_EL s.vm h0 b2 := Safe.new (Nat.le_of_eq g2.symm)
    have hk := Nat.le_trans hk E2.1
    have SF_b2 := Safe.ext E2 hC.1 SF_b2
    have hC := hC.trans (CHr.ext E2 hC.1)
    have E_b2 : Exa Z h2 b2 "[C" := Ex2
    have V_b2 : Arv Z h2 b2 k2 .char (0 : Int32) [] (.int (0 : Int32)) := (Arv.new A2 (by decide)).pad (pad_rep [] (.int (0 : Int32)) 0)
    have O2 := O0.ext E2
    refine goS (n := 41) (Ls' := #[.val (.int p1), .val (.int p2), .val (.int p3), .val (.int (p2 &&& (3 : Int32))), .val (.int c0), .val (.int c1), .val (.int c2), .unset, .unset, .unset]) (st' := [(.ref b2)]) st2 ?_
    refine goS (n := 43) (Ls' := #[.val (.int p1), .val (.int p2), .val (.int p3), .val (.int (p2 &&& (3 : Int32))), .val (.int c0), .val (.int c1), .val (.int c2), .val (.ref b2), .unset, .unset]) (st' := []) (fun _ kz => XS.astore X2.here hx rfl (hb hby at_41) rfl rfl (l' := #[.val (.int p1), .val (.int p2), .val (.int p3), .val (.int (p2 &&& (3 : Int32))), .val (.int c0), .val (.int c1), .val (.int c2), .val (.ref b2), .unset, .unset]) rfl kz) ?_
    refine goS (n := 44) (Ls' := #[.val (.int p1), .val (.int p2), .val (.int p3), .val (.int (p2 &&& (3 : Int32))), .val (.int c0), .val (.int c1), .val (.int c2), .val (.ref b2), .unset, .unset]) (st' := [(.int (0 : Int32))]) (fun _ kz => XS.iconst X2.here hx rfl (hb hby at_43) kz) ?_
    refine goS (n := 46) (Ls' := #[.val (.int p1), .val (.int p2), .val (.int p3), .val (.int (p2 &&& (3 : Int32))), .val (.int c0), .val (.int c1), .val (.int c2), .val (.ref b2), .val (.int (0 : Int32)), .unset]) (st' := []) (fun _ kz => XS.istore X2.here hx rfl (hb hby at_44) rfl (l' := #[.val (.int p1), .val (.int p2), .val (.int p3), .val (.int (p2 &&& (3 : Int32))), .val (.int c0), .val (.int c1), .val (.int c2), .val (.ref b2), .val (.int (0 : Int32)), .unset]) rfl kz) ?_
    refine goS (n := 140) (Ls' := #[.val (.int p1), .val (.int p2), .val (.int p3), .val (.int (p2 &&& (3 : Int32))), .val (.int c0), .val (.int c1), .val (.int c2), .val (.ref b2), .val (.int (0 : Int32)), .unset]) (st' := []) (fun _ kz => XS.goto X2.here hx rfl (pc0 := 46) (pc' := 140) rfl (hb hby at_46) (by decide) (by decide) kz) ?_
    obtain ⟨T3, h3, X3, e3, E3, A3, D3, -, st3⟩ := newO X2 hx hZ hown (hw _ (List.mem_of_getElem? (i := 1) rfl)) (hw _ (List.mem_of_getElem? (i := 2) rfl)) (hw _ (List.mem_of_getElem? (i := 3) rfl)) e2 (g := (mkF m 140 #[.val (.int p1), .val (.int p2), .val (.int p3), .val (.int (p2 &&& (3 : Int32))), .val (.int c0), .val (.int c1), .val (.int c2), .val (.ref b2), .val (.int (0 : Int32)), .unset] [])) rfl (hb hby at_140) (nle rfl) (nle rfl)
    obtain ⟨b3, g3⟩ : ∃ z, z = h2.size := ⟨_, rfl⟩
    rw [← g3] at A3 D3 st3
    have g_b3 : n0 ≤ b3 := Nat.le_trans (O2.1 ▸ O2.2.1) (Nat.le_of_eq g3.symm)
    have SF_b3 : Safe Z own_EL s.vm h2 b3 := Safe.new (Nat.le_of_eq g3.symm)
    have ne_b2_b3 : b2 ≠ b3 := Nat.ne_of_lt (Nat.lt_of_lt_of_le E_b2.lt (Nat.le_of_eq g3.symm))
    have hk := Nat.le_trans hk E3.1
    have SF_b2 := Safe.ext E3 hC.1 SF_b2
    have SF_b3 := Safe.ext E3 hC.1 SF_b3
    have hC := hC.trans (CHr.ext E3 hC.1)
    have E_b2 : Exa Z h3 b2 "[C" := E_b2.ext E3
    have V_b2 : Arv Z h3 b2 k2 .char (0 : Int32) [] (.int (0 : Int32)) := V_b2.ext E3
    have F_material_b3 : Fld Z h3 b3 "com/example/thingstead/thingstead/mimir/Treasure" "material" "Ljava/lang/String;" .null := D3 (Or.inr (hw _ (List.mem_of_getElem? (i := 43) rfl))) (ty := (.object "java/lang/String")) (by decide)
    have F_points_b3 : Fld Z h3 b3 "com/example/thingstead/thingstead/mimir/Treasure" "points" "I" (.int (0 : Int32)) := D3 (Or.inr (hw _ (List.mem_of_getElem? (i := 45) rfl))) (ty := .int) (by decide)
    have E_b3 : Exa Z h3 b3 "com/example/thingstead/thingstead/mimir/Treasure" := A3
    have O3 := O2.ext E3
    refine goS (n := 143) (Ls' := #[.val (.int p1), .val (.int p2), .val (.int p3), .val (.int (p2 &&& (3 : Int32))), .val (.int c0), .val (.int c1), .val (.int c2), .val (.ref b2), .val (.int (0 : Int32)), .unset]) (st' := [(.ref b3)]) st3 ?_
    refine goS (n := 144) (Ls' := #[.val (.int p1), .val (.int p2), .val (.int p3), .val (.int (p2 &&& (3 : Int32))), .val (.int c0), .val (.int c1), .val (.int c2), .val (.ref b2), .val (.int (0 : Int32)), .unset]) (st' := [(.ref b3), (.ref b3)]) (fun _ kz => XS.dup X3.here hx rfl (hb hby at_143) rfl rfl kz) ?_
    obtain ⟨T4, h4, X4, e4, E4, A4, D4, -, st4⟩ := newO X3 hx hZ hown (hw _ (List.mem_of_getElem? (i := 4) rfl)) (hw _ (List.mem_of_getElem? (i := 5) rfl)) (hw _ (List.mem_of_getElem? (i := 6) rfl)) e3 (g := (mkF m 144 #[.val (.int p1), .val (.int p2), .val (.int p3), .val (.int (p2 &&& (3 : Int32))), .val (.int c0), .val (.int c1), .val (.int c2), .val (.ref b2), .val (.int (0 : Int32)), .unset] [(.ref b3), (.ref b3)])) rfl (hb hby at_144) (nle rfl) (nle rfl)
    obtain ⟨b4, g4⟩ : ∃ z, z = h3.size := ⟨_, rfl⟩
    rw [← g4] at A4 D4 st4
    have g_b4 : n0 ≤ b4 := Nat.le_trans (O3.1 ▸ O3.2.1) (Nat.le_of_eq g4.symm)
    have SF_b4 : Safe Z own_EL s.vm h3 b4 := Safe.new (Nat.le_of_eq g4.symm)
    have ne_b2_b4 : b2 ≠ b4 := Nat.ne_of_lt (Nat.lt_of_lt_of_le E_b2.lt (Nat.le_of_eq g4.symm))
    have ne_b3_b4 : b3 ≠ b4 := Nat.ne_of_lt (Nat.lt_of_lt_of_le E_b3.lt (Nat.le_of_eq g4.symm))
    have hk := Nat.le_trans hk E4.1
    have SF_b2 := Safe.ext E4 hC.1 SF_b2
    have SF_b3 := Safe.ext E4 hC.1 SF_b3
    have SF_b4 := Safe.ext E4 hC.1 SF_b4
    have hC := hC.trans (CHr.ext E4 hC.1)
    have E_b2 : Exa Z h4 b2 "[C" := E_b2.ext E4
    have V_b2 : Arv Z h4 b2 k2 .char (0 : Int32) [] (.int (0 : Int32)) := V_b2.ext E4
    have F_material_b3 : Fld Z h4 b3 "com/example/thingstead/thingstead/mimir/Treasure" "material" "Ljava/lang/String;" .null := F_material_b3.ext E4
    have F_points_b3 : Fld Z h4 b3 "com/example/thingstead/thingstead/mimir/Treasure" "points" "I" (.int (0 : Int32)) := F_points_b3.ext E4
    have E_b3 : Exa Z h4 b3 "com/example/thingstead/thingstead/mimir/Treasure" := E_b3.ext E4
    have F_coder_b4 : Fld Z h4 b4 "java/lang/String" "coder" "B" (.int (0 : Int32)) := D4 (Or.inr (hw _ (List.mem_of_getElem? (i := 30) rfl))) (ty := .byte) (by decide)
    have F_value_b4 : Fld Z h4 b4 "java/lang/String" "value" "[B" .null := D4 (Or.inr (hw _ (List.mem_of_getElem? (i := 32) rfl))) (ty := (.array .byte)) (by decide)
    have F_hash_b4 : Fld Z h4 b4 "java/lang/String" "hash" "I" (.int (0 : Int32)) := D4 (Or.inl (hw _ (List.mem_of_getElem? (i := 57) rfl))) (ty := .int) (by decide)
    have F_hashIsZero_b4 : Fld Z h4 b4 "java/lang/String" "hashIsZero" "Z" (.int (0 : Int32)) := D4 (Or.inl (hw _ (List.mem_of_getElem? (i := 59) rfl))) (ty := .boolean) (by decide)
    have E_b4 : Exa Z h4 b4 "java/lang/String" := A4
    have O4 := O3.ext E4
    refine goS (n := 147) (Ls' := #[.val (.int p1), .val (.int p2), .val (.int p3), .val (.int (p2 &&& (3 : Int32))), .val (.int c0), .val (.int c1), .val (.int c2), .val (.ref b2), .val (.int (0 : Int32)), .unset]) (st' := [(.ref b4), (.ref b3), (.ref b3)]) st4 ?_
    refine goS (n := 148) (Ls' := #[.val (.int p1), .val (.int p2), .val (.int p3), .val (.int (p2 &&& (3 : Int32))), .val (.int c0), .val (.int c1), .val (.int c2), .val (.ref b2), .val (.int (0 : Int32)), .unset]) (st' := [(.ref b4), (.ref b4), (.ref b3), (.ref b3)]) (fun _ kz => XS.dup X4.here hx rfl (hb hby at_147) rfl rfl kz) ?_
    refine goS (n := 150) (Ls' := #[.val (.int p1), .val (.int p2), .val (.int p3), .val (.int (p2 &&& (3 : Int32))), .val (.int c0), .val (.int c1), .val (.int c2), .val (.ref b2), .val (.int (0 : Int32)), .unset]) (st' := [(.ref b2), (.ref b4), (.ref b4), (.ref b3), (.ref b3)]) (fun _ kz => XS.aload X4.here hx rfl (hb hby at_148) rfl rfl kz) ?_
    obtain ⟨vr5, _, ⟨T5, L5, k5, n5⟩, -, X5, hS5, hgr5, ⟨Lc5, hQ5, l5, y5, z5, hCr5⟩, st5⟩ := X4.specialBackS hx (y := (⟨"java/lang/String", "<init>", "([C)V"⟩ : MethodName)) rfl hown (mvT hZ (hw _ (List.mem_of_getElem? (i := 7) rfl))) (mvT hZ (hw _ (List.mem_of_getElem? (i := 8) rfl))) (mvT hZ (hw _ (List.mem_of_getElem? (i := 9) rfl))) (by decide) (backOfSH (W := 3) (rm_strE1 l Z a0 hw [] b4 b2 k2 [] h4 n0 O4 E_b4 F_value_b4 F_coder_b4 g_b4 F_hash_b4 F_hashIsZero_b4 V_b2) hZ (hw _ (List.mem_of_getElem? (i := 9) rfl)) (hw _ (List.mem_of_getElem? (i := 6) rfl)) (by decide) (by decide) hEL hC.1) (g := (mkF m 150 #[.val (.int p1), .val (.int p2), .val (.int p3), .val (.int (p2 &&& (3 : Int32))), .val (.int c0), .val (.int c1), .val (.int c2), .val (.ref b2), .val (.int (0 : Int32)), .unset] [(.ref b2), (.ref b4), (.ref b4), (.ref b3), (.ref b3)])) rfl (by rw [hml]; rfl) (Steps.refl _) (a := b4) (argsL := [(.ref b2)]) (rest := [(.ref b4), (.ref b3), (.ref b3)]) (lenOf pd_7 rfl) rfl (by show 2 * 0 + _ ≤ _; exact Nat.le_of_eq rfl) (hb hby at_150) (fun _ _ => ⟨rfl, e4, (nle rfl), (nle rfl)⟩)
    dsimp only [Pt.U, Pt.locs, Pt.cells, Pt.slots] at X5 l5 y5 z5 st5 hQ5 hS5 hgr5 hCr5
    subst l5 y5 z5
    obtain ⟨X5, hS, hZ, hown⟩ := rebS hS (n1 := T4.heap.size) (by rw [e4]; exact hk) X5 hS5 hgr5 hZ hown
    have hk : T5.heap.size ≤ T5.heap.size := Nat.le_refl _
    obtain ⟨rfl, t5, kt5, N5q, K5, F_value_b4, F_coder_b4, V_t5, F_hash_b4, F_hashIsZero_b4⟩ := hQ5
    have N5 := Fr.app N0 N5q
    have e5 : T5.heap = T5.heap := rfl
    have O5 := O4.keep K5 (allS g_b4 all0)
    have SF_b2 := CHr.safe hCr5 E_b2.lt SF_b2
    have SF_b3 := CHr.safe hCr5 E_b3.lt SF_b3
    have SF_b4 := CHr.safe hCr5 E_b4.lt SF_b4
    have hC := hC.trans hCr5
    have E_b2 : Exa Z T5.heap b2 "[C" := E_b2.keep K5
    have V_b2 : Arv Z T5.heap b2 k2 .char (0 : Int32) [] (.int (0 : Int32)) := V_b2.keep K5 (ninS ne_b2_b4 nin0)
    have F_material_b3 : Fld Z T5.heap b3 "com/example/thingstead/thingstead/mimir/Treasure" "material" "Ljava/lang/String;" .null := F_material_b3.keep K5 (ninS ne_b3_b4 nin0)
    have F_points_b3 : Fld Z T5.heap b3 "com/example/thingstead/thingstead/mimir/Treasure" "points" "I" (.int (0 : Int32)) := F_points_b3.keep K5 (ninS ne_b3_b4 nin0)
    have E_b3 : Exa Z T5.heap b3 "com/example/thingstead/thingstead/mimir/Treasure" := E_b3.keep K5
    have E_b4 : Exa Z T5.heap b4 "java/lang/String" := E_b4.keep K5
    refine goT (n := 153) (Ls' := #[.val (.int p1), .val (.int p2), .val (.int p3), .val (.int (p2 &&& (3 : Int32))), .val (.int c0), .val (.int c1), .val (.int c2), .val (.ref b2), .val (.int (0 : Int32)), .unset]) (st' := [(.ref b4), (.ref b3), (.ref b3)]) st5 ?_
    refine goS (n := 154) (Ls' := #[.val (.int p1), .val (.int p2), .val (.int p3), .val (.int (p2 &&& (3 : Int32))), .val (.int c0), .val (.int c1), .val (.int c2), .val (.ref b2), .val (.int (0 : Int32)), .unset]) (st' := [(.int p3), (.ref b4), (.ref b3), (.ref b3)]) (fun _ kz => XS.iloadN X5.here hx rfl (hb hby at_153) rfl kz) ?_
    have ne7 : b3 ≠ t5 := neEA E_b3 (hw _ (List.mem_of_getElem? (i := 2) rfl)) V_t5
    obtain ⟨vr6, _, ⟨T6, L6, k6, n6⟩, -, X6, ⟨Lc6, hQ6, l6, y6, z6⟩, st6⟩ := X5.specialBack hx (y := (⟨"com/example/thingstead/thingstead/mimir/Treasure", "<init>", "(Ljava/lang/String;I)V"⟩ : MethodName)) rfl hown (mvT hZ (hw _ (List.mem_of_getElem? (i := 33) rfl))) (mvT hZ (hw _ (List.mem_of_getElem? (i := 34) rfl))) (mvT hZ (hw _ (List.mem_of_getElem? (i := 35) rfl))) (by decide) (backOf (W := 1) (rm_init l Z a0 hw [] b3 b4 p3 T5.heap n0 O5 E_b3 F_material_b3 F_points_b3 g_b3) hZ (hw _ (List.mem_of_getElem? (i := 35) rfl)) (hw _ (List.mem_of_getElem? (i := 3) rfl)) (by decide) (by decide)) (g := (mkF m 154 #[.val (.int p1), .val (.int p2), .val (.int p3), .val (.int (p2 &&& (3 : Int32))), .val (.int c0), .val (.int c1), .val (.int c2), .val (.ref b2), .val (.int (0 : Int32)), .unset] [(.int p3), (.ref b4), (.ref b3), (.ref b3)])) rfl (by rw [hml]; rfl) (Steps.refl _) (a := b3) (argsL := [(.ref b4), (.int p3)]) (rest := [(.ref b3)]) (lenOf pd_8 rfl) rfl (by show 2 * 0 + _ ≤ _; exact Nat.le_of_eq rfl) (hb hby at_154) (fun _ _ => ⟨rfl, e5, (nle rfl), (nle rfl)⟩)
    dsimp only [Pt.U, Pt.locs, Pt.cells, Pt.slots] at X6 l6 y6 z6 st6 hQ6
    subst l6 y6 z6
    obtain ⟨rfl, N6q, K6, F_material_b3, F_points_b3⟩ := hQ6
    have N6 := Fr.app N5 N6q
    have e6 : T6.heap = T6.heap := rfl
    have O6 := O5.keep K6 (allS g_b3 all0)
    have hk := Nat.le_trans hk K6.1
    have sfw : ∀ x ∈ [b3], Safe Z own_EL T5.vm T5.heap x := (sfS SF_b3 sf0)
    have SF_b2 := Safe.keep K6 sfw hC.1 SF_b2
    have SF_b3 := Safe.keep K6 sfw hC.1 SF_b3
    have SF_b4 := Safe.keep K6 sfw hC.1 SF_b4
    have hC := hC.trans (CHr.keep K6 sfw hC.1)
    have E_b2 : Exa Z T6.heap b2 "[C" := E_b2.keep K6
    have V_b2 : Arv Z T6.heap b2 k2 .char (0 : Int32) [] (.int (0 : Int32)) := V_b2.keep K6 (ninS ne_b2_b3 nin0)
    have E_b3 : Exa Z T6.heap b3 "com/example/thingstead/thingstead/mimir/Treasure" := E_b3.keep K6
    have E_b4 : Exa Z T6.heap b4 "java/lang/String" := E_b4.keep K6
    have F_value_b4 : Fld Z T6.heap b4 "java/lang/String" "value" "[B" (.ref t5) := F_value_b4.keep K6 (ninS (Ne.symm ne_b3_b4) nin0)
    have F_coder_b4 : Fld Z T6.heap b4 "java/lang/String" "coder" "B" (.int (0 : Int32)) := F_coder_b4.keep K6 (ninS (Ne.symm ne_b3_b4) nin0)
    have V_t5 : Arv Z T6.heap t5 kt5 .byte (0 : Int32) [] (.int (0 : Int32)) := V_t5.keep K6 (ninS (Ne.symm ne7) nin0)
    have F_hash_b4 : Fld Z T6.heap b4 "java/lang/String" "hash" "I" (.int (0 : Int32)) := F_hash_b4.keep K6 (ninS (Ne.symm ne_b3_b4) nin0)
    have F_hashIsZero_b4 : Fld Z T6.heap b4 "java/lang/String" "hashIsZero" "Z" (.int (0 : Int32)) := F_hashIsZero_b4.keep K6 (ninS (Ne.symm ne_b3_b4) nin0)
    refine goT (n := 157) (Ls' := #[.val (.int p1), .val (.int p2), .val (.int p3), .val (.int (p2 &&& (3 : Int32))), .val (.int c0), .val (.int c1), .val (.int c2), .val (.ref b2), .val (.int (0 : Int32)), .unset]) (st' := [(.ref b3)]) st6 ?_
    refine goS (n := 159) (Ls' := #[.val (.int p1), .val (.int p2), .val (.int p3), .val (.int (p2 &&& (3 : Int32))), .val (.int c0), .val (.int c1), .val (.int c2), .val (.ref b2), .val (.int (0 : Int32)), .val (.ref b3)]) (st' := []) (fun _ kz => XS.astore X6.here hx rfl (hb hby at_157) rfl rfl (l' := #[.val (.int p1), .val (.int p2), .val (.int p3), .val (.int (p2 &&& (3 : Int32))), .val (.int c0), .val (.int c1), .val (.int c2), .val (.ref b2), .val (.int (0 : Int32)), .val (.ref b3)]) rfl kz) ?_
    refine goS (n := 161) (Ls' := #[.val (.int p1), .val (.int p2), .val (.int p3), .val (.int (p2 &&& (3 : Int32))), .val (.int c0), .val (.int c1), .val (.int c2), .val (.ref b2), .val (.int (0 : Int32)), .val (.ref b3)]) (st' := [(.ref b3)]) (fun _ kz => XS.aload X6.here hx rfl (hb hby at_159) rfl rfl kz) ?_
    have ne9 : b4 ≠ t5 := neEA E_b4 (hw _ (List.mem_of_getElem? (i := 5) rfl)) V_t5
    obtain ⟨cq8, kq8, q8a, q8b, q8c⟩ := isOf hZ e6 E_b3
    obtain ⟨vr8, _, ⟨T8, L8, k8, n8⟩, -, X8, ⟨Lc8, hQ8, l8, y8, z8⟩, st8⟩ := X6.virtualBack hx (y := (⟨"com/example/thingstead/thingstead/mimir/Treasure", "hashCode", "()I"⟩ : MethodName)) (z := (⟨"com/example/thingstead/thingstead/mimir/Treasure", "hashCode", "()I"⟩ : MethodName)) hown (mvT hZ (hw _ (List.mem_of_getElem? (i := 46) rfl))) (mvT hZ (hw _ (List.mem_of_getElem? (i := 47) rfl))) (notFace_of_selects (args := #[]) (mvT hZ (hw _ (List.mem_of_getElem? (i := 49) rfl)))) (mvT hZ (hw _ (List.mem_of_getElem? (i := 49) rfl))) (mvT hZ (hw _ (List.mem_of_getElem? (i := 48) rfl))) (by decide) (backOf (W := 0) (rm_th0 l Z a0 hw [] b3 b4 p3 cs t5 kt5 T6.heap n0 O6 S_CS hcs E_b3 F_material_b3 F_points_b3 E_b4 F_value_b4 F_coder_b4 F_hash_b4 F_hashIsZero_b4 V_t5 g_b4 ne_b3_b4) hZ (hw _ (List.mem_of_getElem? (i := 50) rfl)) (hw _ (List.mem_of_getElem? (i := 3) rfl)) (by decide) (by decide)) q8a q8c (g := (mkF m 161 #[.val (.int p1), .val (.int p2), .val (.int p3), .val (.int (p2 &&& (3 : Int32))), .val (.int c0), .val (.int c1), .val (.int c2), .val (.ref b2), .val (.int (0 : Int32)), .val (.ref b3)] [(.ref b3)])) rfl (by rw [hml]; rfl) (Steps.refl _) (argsL := []) (rest := []) (lenOf pd_4 rfl) rfl (by show 2 * 0 + _ ≤ _; exact Nat.le_of_eq rfl) (hb hby at_161) (fun _ _ => ⟨rfl, e6, (nle rfl), (nle rfl)⟩)
    dsimp only [Pt.U, Pt.locs, Pt.cells, Pt.slots] at X8 l8 y8 z8 st8 hQ8
    subst l8 y8 z8
    obtain ⟨rfl, N8q, K8⟩ := hQ8
    have N8 := Fr.app N6 N8q
    have e8 : T8.heap = T8.heap := rfl
    have O8 := O6.keep K8 (allS g_b4 all0)
    have hk := Nat.le_trans hk K8.1
    have sfw : ∀ x ∈ [b4], Safe Z own_EL T5.vm T6.heap x := (sfS SF_b4 sf0)
    have SF_b2 := Safe.keep K8 sfw hC.1 SF_b2
    have SF_b3 := Safe.keep K8 sfw hC.1 SF_b3
    have SF_b4 := Safe.keep K8 sfw hC.1 SF_b4
    have hC := hC.trans (CHr.keep K8 sfw hC.1)
    have E_b2 : Exa Z T8.heap b2 "[C" := E_b2.keep K8
    have V_b2 : Arv Z T8.heap b2 k2 .char (0 : Int32) [] (.int (0 : Int32)) := V_b2.keep K8 (ninS ne_b2_b4 nin0)
    have E_b3 : Exa Z T8.heap b3 "com/example/thingstead/thingstead/mimir/Treasure" := E_b3.keep K8
    have E_b4 : Exa Z T8.heap b4 "java/lang/String" := E_b4.keep K8
    have V_t5 : Arv Z T8.heap t5 kt5 .byte (0 : Int32) [] (.int (0 : Int32)) := V_t5.keep K8 (ninS (Ne.symm ne9) nin0)
    have F_material_b3 : Fld Z T8.heap b3 "com/example/thingstead/thingstead/mimir/Treasure" "material" "Ljava/lang/String;" (.ref b4) := F_material_b3.keep K8 (ninS ne_b3_b4 nin0)
    have F_points_b3 : Fld Z T8.heap b3 "com/example/thingstead/thingstead/mimir/Treasure" "points" "I" (.int p3) := F_points_b3.keep K8 (ninS ne_b3_b4 nin0)
    refine goT (n := 164) (Ls' := #[.val (.int p1), .val (.int p2), .val (.int p3), .val (.int (p2 &&& (3 : Int32))), .val (.int c0), .val (.int c1), .val (.int c2), .val (.ref b2), .val (.int (0 : Int32)), .val (.ref b3)]) (st' := [(.int (((31 : Int32) * (0 : Int32)) + p3))]) st8 ?_
    refine goS (n := 166) (Ls' := #[.val (.int p1), .val (.int p2), .val (.int p3), .val (.int (p2 &&& (3 : Int32))), .val (.int c0), .val (.int c1), .val (.int c2), .val (.ref b2), .val (.int (0 : Int32)), .val (.ref b3)]) (st' := [(.int (31 : Int32)), (.int (((31 : Int32) * (0 : Int32)) + p3))]) (fun _ kz => XS.bipush X8.here hx rfl (hb hby at_164) kz) ?_
    refine goS (n := 168) (Ls' := #[.val (.int p1), .val (.int p2), .val (.int p3), .val (.int (p2 &&& (3 : Int32))), .val (.int c0), .val (.int c1), .val (.int c2), .val (.ref b2), .val (.int (0 : Int32)), .val (.ref b3)]) (st' := [(.int (0 : Int32)), (.int (31 : Int32)), (.int (((31 : Int32) * (0 : Int32)) + p3))]) (fun _ kz => XS.iload X8.here hx rfl (hb hby at_166) rfl kz) ?_
    refine goS (n := 169) (Ls' := #[.val (.int p1), .val (.int p2), .val (.int p3), .val (.int (p2 &&& (3 : Int32))), .val (.int c0), .val (.int c1), .val (.int c2), .val (.ref b2), .val (.int (0 : Int32)), .val (.ref b3)]) (st' := [(.int ((31 : Int32) * (0 : Int32))), (.int (((31 : Int32) * (0 : Int32)) + p3))]) (fun _ kz => XS.imul X8.here hx rfl (hb hby at_168) rfl kz) ?_
    refine goS (n := 170) (Ls' := #[.val (.int p1), .val (.int p2), .val (.int p3), .val (.int (p2 &&& (3 : Int32))), .val (.int c0), .val (.int c1), .val (.int c2), .val (.ref b2), .val (.int (0 : Int32)), .val (.ref b3)]) (st' := [(.int p3), (.int ((31 : Int32) * (0 : Int32))), (.int (((31 : Int32) * (0 : Int32)) + p3))]) (fun _ kz => XS.iloadN X8.here hx rfl (hb hby at_169) rfl kz) ?_
    refine goS (n := 171) (Ls' := #[.val (.int p1), .val (.int p2), .val (.int p3), .val (.int (p2 &&& (3 : Int32))), .val (.int c0), .val (.int c1), .val (.int c2), .val (.ref b2), .val (.int (0 : Int32)), .val (.ref b3)]) (st' := [(.int (((31 : Int32) * (0 : Int32)) + p3)), (.int (((31 : Int32) * (0 : Int32)) + p3))]) (fun _ kz => XS.iadd X8.here hx rfl (hb hby at_170) rfl kz) ?_
    refine goS (n := 174) (Ls' := #[.val (.int p1), .val (.int p2), .val (.int p3), .val (.int (p2 &&& (3 : Int32))), .val (.int c0), .val (.int c1), .val (.int c2), .val (.ref b2), .val (.int (0 : Int32)), .val (.ref b3)]) (st' := []) (fun _ kz => XS.icmpNo X8.here hx rfl (hb hby at_171) rfl (teq rfl).2 kz) ?_
    refine goS (n := 175) (Ls' := #[.val (.int p1), .val (.int p2), .val (.int p3), .val (.int (p2 &&& (3 : Int32))), .val (.int c0), .val (.int c1), .val (.int c2), .val (.ref b2), .val (.int (0 : Int32)), .val (.ref b3)]) (st' := [(.int (1 : Int32))]) (fun _ kz => XS.iconst X8.here hx rfl (hb hby at_174) kz) ?_
    refine goS (n := 179) (Ls' := #[.val (.int p1), .val (.int p2), .val (.int p3), .val (.int (p2 &&& (3 : Int32))), .val (.int c0), .val (.int c1), .val (.int c2), .val (.ref b2), .val (.int (0 : Int32)), .val (.ref b3)]) (st' := [(.int (1 : Int32))]) (fun _ kz => XS.goto X8.here hx rfl (pc0 := 175) (pc' := 179) rfl (hb hby at_175) (by decide) (by decide) kz) ?_
    exact goRetH X8 hx hlk hS (by rw [e8]; exact hk) hZ hEL (by rw [hh, e8]; exact hC) Bd.returns (narZ (Or.inr rfl)) (Or.inl ⟨rfl, Or.inr (Or.inl rfl), _, rfl⟩) (hb hby at_179) (nle rfl) (nle rfl) (by rw [e8]; exact ⟨rfl, N8⟩)
  · refine goS (n := 49) (Ls' := #[.val (.int p1), .val (.int p2), .val (.int p3), .val (.int (p2 &&& (3 : Int32))), .val (.int c0), .val (.int c1), .val (.int c2), .unset, .unset, .unset]) (st' := []) (fun _ kz => XS.ifYes X0.here hx rfl (pc0 := 35) (pc' := 49) rfl (hb hby at_35) rfl ((if0 _ _).trans (feq hc1).2) (by decide) (by decide) kz) ?_
    refine goS (n := 50) (Ls' := #[.val (.int p1), .val (.int p2), .val (.int p3), .val (.int (p2 &&& (3 : Int32))), .val (.int c0), .val (.int c1), .val (.int c2), .unset, .unset, .unset]) (st' := [(.int (p2 &&& (3 : Int32)))]) (fun _ kz => XS.iloadN X0.here hx rfl (hb hby at_49) rfl kz) ?_
    refine goS (n := 51) (Ls' := #[.val (.int p1), .val (.int p2), .val (.int p3), .val (.int (p2 &&& (3 : Int32))), .val (.int c0), .val (.int c1), .val (.int c2), .unset, .unset, .unset]) (st' := [(.int (1 : Int32)), (.int (p2 &&& (3 : Int32)))]) (fun _ kz => XS.iconst X0.here hx rfl (hb hby at_50) kz) ?_
    by_cases hc10 : (p2 &&& (3 : Int32)) = (1 : Int32)
    · refine goS (n := 54) (Ls' := #[.val (.int p1), .val (.int p2), .val (.int p3), .val (.int (p2 &&& (3 : Int32))), .val (.int c0), .val (.int c1), .val (.int c2), .unset, .unset, .unset]) (st' := []) (fun _ kz => XS.icmpNo X0.here hx rfl (hb hby at_51) rfl (teq hc10).2 kz) ?_
      refine goS (n := 55) (Ls' := #[.val (.int p1), .val (.int p2), .val (.int p3), .val (.int (p2 &&& (3 : Int32))), .val (.int c0), .val (.int c1), .val (.int c2), .unset, .unset, .unset]) (st' := [(.int (1 : Int32))]) (fun _ kz => XS.iconst X0.here hx rfl (hb hby at_54) kz) ?_
      obtain ⟨T11, h11, k11, X11, e11, E11, A11, Ex11, st11⟩ := newPE X0 hx hZ (hw _ (List.mem_of_getElem? (i := 0) rfl)) e0 (g := (mkF m 55 #[.val (.int p1), .val (.int p2), .val (.int p3), .val (.int (p2 &&& (3 : Int32))), .val (.int c0), .val (.int c1), .val (.int c2), .unset, .unset, .unset] [(.int (1 : Int32))])) rfl (hb hby at_55) rfl (by decide) (cap := 1) (by decide) (by decide) (nle rfl) (nle rfl) (ad := "[C") (by decide +kernel)
      obtain ⟨b11, g11⟩ : ∃ z, z = h0.size := ⟨_, rfl⟩
      rw [← g11] at A11 st11 Ex11
      have g_b11 : n0 ≤ b11 := Nat.le_trans (O0.1 ▸ O0.2.1) (Nat.le_of_eq g11.symm)
      have SF_b11 : Safe Z own_EL s.vm h0 b11 := Safe.new (Nat.le_of_eq g11.symm)
      have hk := Nat.le_trans hk E11.1
      have SF_b11 := Safe.ext E11 hC.1 SF_b11
      have hC := hC.trans (CHr.ext E11 hC.1)
      have E_b11 : Exa Z h11 b11 "[C" := Ex11
      have V_b11 : Arv Z h11 b11 k11 .char (1 : Int32) [(.int (0 : Int32))] (.int (0 : Int32)) := (Arv.new A11 (by decide)).pad (pad_rep [] (.int (0 : Int32)) 1)
      have O11 := O0.ext E11
      refine goS (n := 57) (Ls' := #[.val (.int p1), .val (.int p2), .val (.int p3), .val (.int (p2 &&& (3 : Int32))), .val (.int c0), .val (.int c1), .val (.int c2), .unset, .unset, .unset]) (st' := [(.ref b11)]) st11 ?_
      refine goS (n := 58) (Ls' := #[.val (.int p1), .val (.int p2), .val (.int p3), .val (.int (p2 &&& (3 : Int32))), .val (.int c0), .val (.int c1), .val (.int c2), .unset, .unset, .unset]) (st' := [(.ref b11), (.ref b11)]) (fun _ kz => XS.dup X11.here hx rfl (hb hby at_57) rfl rfl kz) ?_
      refine goS (n := 59) (Ls' := #[.val (.int p1), .val (.int p2), .val (.int p3), .val (.int (p2 &&& (3 : Int32))), .val (.int c0), .val (.int c1), .val (.int c2), .unset, .unset, .unset]) (st' := [(.int (0 : Int32)), (.ref b11), (.ref b11)]) (fun _ kz => XS.iconst X11.here hx rfl (hb hby at_58) kz) ?_
      refine goS (n := 61) (Ls' := #[.val (.int p1), .val (.int p2), .val (.int p3), .val (.int (p2 &&& (3 : Int32))), .val (.int c0), .val (.int c1), .val (.int c2), .unset, .unset, .unset]) (st' := [(.int c0), (.int (0 : Int32)), (.ref b11), (.ref b11)]) (fun _ kz => XS.iload X11.here hx rfl (hb hby at_59) rfl kz) ?_
      obtain ⟨cl12, Ar12, q12, S12, Nn12, H12, G12⟩ := V_b11
      have hin12 : ¬ ((0 : Int32) < 0 ∨ cl12.slots.size ≤ ((0 : Int32)).toNatClampNeg) := inb_of S12 ⟨by decide, by decide⟩
      obtain ⟨T13, h13, X13, e13, W13, st13⟩ := stC X11 hx hZ e11 Ar12 (j := (0 : Int32)) hin12 (g := (mkF m 61 #[.val (.int p1), .val (.int p2), .val (.int p3), .val (.int (p2 &&& (3 : Int32))), .val (.int c0), .val (.int c1), .val (.int c2), .unset, .unset, .unset] [(.int c0), (.int (0 : Int32)), (.ref b11), (.ref b11)])) rfl rfl (hb hby at_61)
      rw [(own_narC _ r_c0)] at W13
      have fz13 : fits .char (.int c0) = true := by have q := fits_nar_char c0; rw [(own_narC _ r_c0)] at q; exact q
      have hk := Nat.le_trans hk (Keep.of_wr W13).1
      have sfw := SF_b11
      have SF_b11 := Safe.wr W13 sfw hC.1 SF_b11
      have hC := hC.trans (CHr.wr W13 sfw hC.1)
      have E_b11 : Exa Z h13 b11 "[C" := E_b11.wr W13
      have V_b11 : Arv Z h13 b11 k11 .char (1 : Int32) [(.int c0)] (.int (0 : Int32)) := Arv.set Ar12 q12 S12 Nn12 H12 G12 fz13 W13 0 rfl (Nat.le_of_ble_eq_true rfl)
      have N13 := Fr.snoc X13 N0 g_b11
      have O13 := O11.wr W13 g_b11
      refine goS (n := 62) (Ls' := #[.val (.int p1), .val (.int p2), .val (.int p3), .val (.int (p2 &&& (3 : Int32))), .val (.int c0), .val (.int c1), .val (.int c2), .unset, .unset, .unset]) (st' := [(.ref b11)]) st13 ?_
      refine goS (n := 64) (Ls' := #[.val (.int p1), .val (.int p2), .val (.int p3), .val (.int (p2 &&& (3 : Int32))), .val (.int c0), .val (.int c1), .val (.int c2), .val (.ref b11), .unset, .unset]) (st' := []) (fun _ kz => XS.astore X13.here hx rfl (hb hby at_62) rfl rfl (l' := #[.val (.int p1), .val (.int p2), .val (.int p3), .val (.int (p2 &&& (3 : Int32))), .val (.int c0), .val (.int c1), .val (.int c2), .val (.ref b11), .unset, .unset]) rfl kz) ?_
      refine goS (n := 66) (Ls' := #[.val (.int p1), .val (.int p2), .val (.int p3), .val (.int (p2 &&& (3 : Int32))), .val (.int c0), .val (.int c1), .val (.int c2), .val (.ref b11), .unset, .unset]) (st' := [(.int c0)]) (fun _ kz => XS.iload X13.here hx rfl (hb hby at_64) rfl kz) ?_
      refine goS (n := 68) (Ls' := #[.val (.int p1), .val (.int p2), .val (.int p3), .val (.int (p2 &&& (3 : Int32))), .val (.int c0), .val (.int c1), .val (.int c2), .val (.ref b11), .val (.int c0), .unset]) (st' := []) (fun _ kz => XS.istore X13.here hx rfl (hb hby at_66) rfl (l' := #[.val (.int p1), .val (.int p2), .val (.int p3), .val (.int (p2 &&& (3 : Int32))), .val (.int c0), .val (.int c1), .val (.int c2), .val (.ref b11), .val (.int c0), .unset]) rfl kz) ?_
      refine goS (n := 140) (Ls' := #[.val (.int p1), .val (.int p2), .val (.int p3), .val (.int (p2 &&& (3 : Int32))), .val (.int c0), .val (.int c1), .val (.int c2), .val (.ref b11), .val (.int c0), .unset]) (st' := []) (fun _ kz => XS.goto X13.here hx rfl (pc0 := 68) (pc' := 140) rfl (hb hby at_68) (by decide) (by decide) kz) ?_
      obtain ⟨T14, h14, X14, e14, E14, A14, D14, -, st14⟩ := newO X13 hx hZ hown (hw _ (List.mem_of_getElem? (i := 1) rfl)) (hw _ (List.mem_of_getElem? (i := 2) rfl)) (hw _ (List.mem_of_getElem? (i := 3) rfl)) e13 (g := (mkF m 140 #[.val (.int p1), .val (.int p2), .val (.int p3), .val (.int (p2 &&& (3 : Int32))), .val (.int c0), .val (.int c1), .val (.int c2), .val (.ref b11), .val (.int c0), .unset] [])) rfl (hb hby at_140) (nle rfl) (nle rfl)
      obtain ⟨b14, g14⟩ : ∃ z, z = h13.size := ⟨_, rfl⟩
      rw [← g14] at A14 D14 st14
      have g_b14 : n0 ≤ b14 := Nat.le_trans (O13.1 ▸ O13.2.1) (Nat.le_of_eq g14.symm)
      have SF_b14 : Safe Z own_EL s.vm h13 b14 := Safe.new (Nat.le_of_eq g14.symm)
      have ne_b11_b14 : b11 ≠ b14 := Nat.ne_of_lt (Nat.lt_of_lt_of_le E_b11.lt (Nat.le_of_eq g14.symm))
      have hk := Nat.le_trans hk E14.1
      have SF_b11 := Safe.ext E14 hC.1 SF_b11
      have SF_b14 := Safe.ext E14 hC.1 SF_b14
      have hC := hC.trans (CHr.ext E14 hC.1)
      have E_b11 : Exa Z h14 b11 "[C" := E_b11.ext E14
      have V_b11 : Arv Z h14 b11 k11 .char (1 : Int32) [(.int c0)] (.int (0 : Int32)) := V_b11.ext E14
      have F_material_b14 : Fld Z h14 b14 "com/example/thingstead/thingstead/mimir/Treasure" "material" "Ljava/lang/String;" .null := D14 (Or.inr (hw _ (List.mem_of_getElem? (i := 43) rfl))) (ty := (.object "java/lang/String")) (by decide)
      have F_points_b14 : Fld Z h14 b14 "com/example/thingstead/thingstead/mimir/Treasure" "points" "I" (.int (0 : Int32)) := D14 (Or.inr (hw _ (List.mem_of_getElem? (i := 45) rfl))) (ty := .int) (by decide)
      have E_b14 : Exa Z h14 b14 "com/example/thingstead/thingstead/mimir/Treasure" := A14
      have O14 := O13.ext E14
      refine goS (n := 143) (Ls' := #[.val (.int p1), .val (.int p2), .val (.int p3), .val (.int (p2 &&& (3 : Int32))), .val (.int c0), .val (.int c1), .val (.int c2), .val (.ref b11), .val (.int c0), .unset]) (st' := [(.ref b14)]) st14 ?_
      refine goS (n := 144) (Ls' := #[.val (.int p1), .val (.int p2), .val (.int p3), .val (.int (p2 &&& (3 : Int32))), .val (.int c0), .val (.int c1), .val (.int c2), .val (.ref b11), .val (.int c0), .unset]) (st' := [(.ref b14), (.ref b14)]) (fun _ kz => XS.dup X14.here hx rfl (hb hby at_143) rfl rfl kz) ?_
      obtain ⟨T15, h15, X15, e15, E15, A15, D15, -, st15⟩ := newO X14 hx hZ hown (hw _ (List.mem_of_getElem? (i := 4) rfl)) (hw _ (List.mem_of_getElem? (i := 5) rfl)) (hw _ (List.mem_of_getElem? (i := 6) rfl)) e14 (g := (mkF m 144 #[.val (.int p1), .val (.int p2), .val (.int p3), .val (.int (p2 &&& (3 : Int32))), .val (.int c0), .val (.int c1), .val (.int c2), .val (.ref b11), .val (.int c0), .unset] [(.ref b14), (.ref b14)])) rfl (hb hby at_144) (nle rfl) (nle rfl)
      obtain ⟨b15, g15⟩ : ∃ z, z = h14.size := ⟨_, rfl⟩
      rw [← g15] at A15 D15 st15
      have g_b15 : n0 ≤ b15 := Nat.le_trans (O14.1 ▸ O14.2.1) (Nat.le_of_eq g15.symm)
      have SF_b15 : Safe Z own_EL s.vm h14 b15 := Safe.new (Nat.le_of_eq g15.symm)
      have ne_b11_b15 : b11 ≠ b15 := Nat.ne_of_lt (Nat.lt_of_lt_of_le E_b11.lt (Nat.le_of_eq g15.symm))
      have ne_b14_b15 : b14 ≠ b15 := Nat.ne_of_lt (Nat.lt_of_lt_of_le E_b14.lt (Nat.le_of_eq g15.symm))
      have hk := Nat.le_trans hk E15.1
      have SF_b11 := Safe.ext E15 hC.1 SF_b11
      have SF_b14 := Safe.ext E15 hC.1 SF_b14
      have SF_b15 := Safe.ext E15 hC.1 SF_b15
      have hC := hC.trans (CHr.ext E15 hC.1)
      have E_b11 : Exa Z h15 b11 "[C" := E_b11.ext E15
      have V_b11 : Arv Z h15 b11 k11 .char (1 : Int32) [(.int c0)] (.int (0 : Int32)) := V_b11.ext E15
      have F_material_b14 : Fld Z h15 b14 "com/example/thingstead/thingstead/mimir/Treasure" "material" "Ljava/lang/String;" .null := F_material_b14.ext E15
      have F_points_b14 : Fld Z h15 b14 "com/example/thingstead/thingstead/mimir/Treasure" "points" "I" (.int (0 : Int32)) := F_points_b14.ext E15
      have E_b14 : Exa Z h15 b14 "com/example/thingstead/thingstead/mimir/Treasure" := E_b14.ext E15
      have F_coder_b15 : Fld Z h15 b15 "java/lang/String" "coder" "B" (.int (0 : Int32)) := D15 (Or.inr (hw _ (List.mem_of_getElem? (i := 30) rfl))) (ty := .byte) (by decide)
      have F_value_b15 : Fld Z h15 b15 "java/lang/String" "value" "[B" .null := D15 (Or.inr (hw _ (List.mem_of_getElem? (i := 32) rfl))) (ty := (.array .byte)) (by decide)
      have F_hash_b15 : Fld Z h15 b15 "java/lang/String" "hash" "I" (.int (0 : Int32)) := D15 (Or.inl (hw _ (List.mem_of_getElem? (i := 57) rfl))) (ty := .int) (by decide)
      have F_hashIsZero_b15 : Fld Z h15 b15 "java/lang/String" "hashIsZero" "Z" (.int (0 : Int32)) := D15 (Or.inl (hw _ (List.mem_of_getElem? (i := 59) rfl))) (ty := .boolean) (by decide)
      have E_b15 : Exa Z h15 b15 "java/lang/String" := A15
      have O15 := O14.ext E15
      refine goS (n := 147) (Ls' := #[.val (.int p1), .val (.int p2), .val (.int p3), .val (.int (p2 &&& (3 : Int32))), .val (.int c0), .val (.int c1), .val (.int c2), .val (.ref b11), .val (.int c0), .unset]) (st' := [(.ref b15), (.ref b14), (.ref b14)]) st15 ?_
      refine goS (n := 148) (Ls' := #[.val (.int p1), .val (.int p2), .val (.int p3), .val (.int (p2 &&& (3 : Int32))), .val (.int c0), .val (.int c1), .val (.int c2), .val (.ref b11), .val (.int c0), .unset]) (st' := [(.ref b15), (.ref b15), (.ref b14), (.ref b14)]) (fun _ kz => XS.dup X15.here hx rfl (hb hby at_147) rfl rfl kz) ?_
      refine goS (n := 150) (Ls' := #[.val (.int p1), .val (.int p2), .val (.int p3), .val (.int (p2 &&& (3 : Int32))), .val (.int c0), .val (.int c1), .val (.int c2), .val (.ref b11), .val (.int c0), .unset]) (st' := [(.ref b11), (.ref b15), (.ref b15), (.ref b14), (.ref b14)]) (fun _ kz => XS.aload X15.here hx rfl (hb hby at_148) rfl rfl kz) ?_
      obtain ⟨vr16, _, ⟨T16, L16, k16, n16⟩, -, X16, ⟨Lc16, hQ16, l16, y16, z16⟩, st16⟩ := X15.specialBack hx (y := (⟨"java/lang/String", "<init>", "([C)V"⟩ : MethodName)) rfl hown (mvT hZ (hw _ (List.mem_of_getElem? (i := 7) rfl))) (mvT hZ (hw _ (List.mem_of_getElem? (i := 8) rfl))) (mvT hZ (hw _ (List.mem_of_getElem? (i := 9) rfl))) (by decide) (StrChars.Road.backArv (W := 3) hZ (own_words hw) (kI := 4) (hw _ (List.mem_of_getElem? (i := 5) rfl)) (cs := [c0]) E_b15 F_value_b15 F_coder_b15 V_b11 (S_CS.ext O15.2) hcs rfl (nle rfl) (nle rfl) (by intro c hc; simp only [List.mem_cons, List.not_mem_nil, or_false] at hc; subst hc; exact r_c0.2) (by decide) (by decide)) (g := (mkF m 150 #[.val (.int p1), .val (.int p2), .val (.int p3), .val (.int (p2 &&& (3 : Int32))), .val (.int c0), .val (.int c1), .val (.int c2), .val (.ref b11), .val (.int c0), .unset] [(.ref b11), (.ref b15), (.ref b15), (.ref b14), (.ref b14)])) rfl (by rw [hml]; rfl) (Steps.refl _) (a := b15) (argsL := [(.ref b11)]) (rest := [(.ref b15), (.ref b14), (.ref b14)]) (lenOf pd_7 rfl) rfl (by show 2 * 0 + _ ≤ _; exact Nat.le_of_eq rfl) (hb hby at_150) (fun _ _ => ⟨rfl, e15, (nle rfl), (nle rfl)⟩)
      dsimp only [Pt.U, Pt.locs, Pt.cells, Pt.slots] at X16 l16 y16 z16 st16 hQ16
      subst l16 y16 z16
      obtain ⟨rfl, NL16, K16, -, -, F_value_b15, F_coder_b15, ⟨kt16, fcB16, V_t16⟩, ho16⟩ := hQ16
      have N16q : Fr n0 Lc16 := fun y hy => by rw [NL16 y hy]; exact g_b15
      obtain ⟨t16, gt16⟩ : ∃ z, z = h15.size := ⟨_, rfl⟩
      rw [← gt16] at F_value_b15 V_t16
      have zt16 : h15.size ≤ t16 := Nat.le_of_eq gt16.symm
      have F_hash_b15 := ho16 _ _ _ _ F_hash_b15 (slot_ne (Or.inl (hw _ (List.mem_of_getElem? (i := 57) rfl))) (Or.inr (hw _ (List.mem_of_getElem? (i := 32) rfl))) (by decide) (t := .int) (t' := .array .byte) (by decide) (by decide)) (slot_ne (Or.inl (hw _ (List.mem_of_getElem? (i := 57) rfl))) (Or.inr (hw _ (List.mem_of_getElem? (i := 30) rfl))) (by decide) (t := .int) (t' := .byte) (by decide) (by decide))
      have F_hashIsZero_b15 := ho16 _ _ _ _ F_hashIsZero_b15 (slot_ne (Or.inl (hw _ (List.mem_of_getElem? (i := 59) rfl))) (Or.inr (hw _ (List.mem_of_getElem? (i := 32) rfl))) (by decide) (t := .boolean) (t' := .array .byte) (by decide) (by decide)) (slot_ne (Or.inl (hw _ (List.mem_of_getElem? (i := 59) rfl))) (Or.inr (hw _ (List.mem_of_getElem? (i := 30) rfl))) (by decide) (t := .boolean) (t' := .byte) (by decide) (by decide))
      have ne_b11_t16 : b11 ≠ t16 := Nat.ne_of_lt (Nat.lt_of_lt_of_le E_b11.lt zt16)
      have ne_b14_t16 : b14 ≠ t16 := Nat.ne_of_lt (Nat.lt_of_lt_of_le E_b14.lt zt16)
      have ne_b15_t16 : b15 ≠ t16 := Nat.ne_of_lt (Nat.lt_of_lt_of_le E_b15.lt zt16)
      have V_t16 : Arv Z T16.heap t16 kt16 .byte (1 : Int32) [(.int (c0).toInt8.toInt32)] (.int (0 : Int32)) := V_t16
      have N16 := Fr.app N13 N16q
      have e16 : T16.heap = T16.heap := rfl
      have O16 := O15.keep K16 (allS g_b15 all0)
      have hk := Nat.le_trans hk K16.1
      have sfw : ∀ x ∈ [b15], Safe Z own_EL s.vm h15 x := (sfS SF_b15 sf0)
      have SF_b11 := Safe.keep K16 sfw hC.1 SF_b11
      have SF_b14 := Safe.keep K16 sfw hC.1 SF_b14
      have SF_b15 := Safe.keep K16 sfw hC.1 SF_b15
      have hC := hC.trans (CHr.keep K16 sfw hC.1)
      have E_b11 : Exa Z T16.heap b11 "[C" := E_b11.keep K16
      have V_b11 : Arv Z T16.heap b11 k11 .char (1 : Int32) [(.int c0)] (.int (0 : Int32)) := V_b11.keep K16 (ninS ne_b11_b15 nin0)
      have F_material_b14 : Fld Z T16.heap b14 "com/example/thingstead/thingstead/mimir/Treasure" "material" "Ljava/lang/String;" .null := F_material_b14.keep K16 (ninS ne_b14_b15 nin0)
      have F_points_b14 : Fld Z T16.heap b14 "com/example/thingstead/thingstead/mimir/Treasure" "points" "I" (.int (0 : Int32)) := F_points_b14.keep K16 (ninS ne_b14_b15 nin0)
      have E_b14 : Exa Z T16.heap b14 "com/example/thingstead/thingstead/mimir/Treasure" := E_b14.keep K16
      have E_b15 : Exa Z T16.heap b15 "java/lang/String" := E_b15.keep K16
      refine goT (n := 153) (Ls' := #[.val (.int p1), .val (.int p2), .val (.int p3), .val (.int (p2 &&& (3 : Int32))), .val (.int c0), .val (.int c1), .val (.int c2), .val (.ref b11), .val (.int c0), .unset]) (st' := [(.ref b15), (.ref b14), (.ref b14)]) st16 ?_
      refine goS (n := 154) (Ls' := #[.val (.int p1), .val (.int p2), .val (.int p3), .val (.int (p2 &&& (3 : Int32))), .val (.int c0), .val (.int c1), .val (.int c2), .val (.ref b11), .val (.int c0), .unset]) (st' := [(.int p3), (.ref b15), (.ref b14), (.ref b14)]) (fun _ kz => XS.iloadN X16.here hx rfl (hb hby at_153) rfl kz) ?_
      obtain ⟨vr17, _, ⟨T17, L17, k17, n17⟩, -, X17, ⟨Lc17, hQ17, l17, y17, z17⟩, st17⟩ := X16.specialBack hx (y := (⟨"com/example/thingstead/thingstead/mimir/Treasure", "<init>", "(Ljava/lang/String;I)V"⟩ : MethodName)) rfl hown (mvT hZ (hw _ (List.mem_of_getElem? (i := 33) rfl))) (mvT hZ (hw _ (List.mem_of_getElem? (i := 34) rfl))) (mvT hZ (hw _ (List.mem_of_getElem? (i := 35) rfl))) (by decide) (backOf (W := 1) (rm_init l Z a0 hw [] b14 b15 p3 T16.heap n0 O16 E_b14 F_material_b14 F_points_b14 g_b14) hZ (hw _ (List.mem_of_getElem? (i := 35) rfl)) (hw _ (List.mem_of_getElem? (i := 3) rfl)) (by decide) (by decide)) (g := (mkF m 154 #[.val (.int p1), .val (.int p2), .val (.int p3), .val (.int (p2 &&& (3 : Int32))), .val (.int c0), .val (.int c1), .val (.int c2), .val (.ref b11), .val (.int c0), .unset] [(.int p3), (.ref b15), (.ref b14), (.ref b14)])) rfl (by rw [hml]; rfl) (Steps.refl _) (a := b14) (argsL := [(.ref b15), (.int p3)]) (rest := [(.ref b14)]) (lenOf pd_8 rfl) rfl (by show 2 * 0 + _ ≤ _; exact Nat.le_of_eq rfl) (hb hby at_154) (fun _ _ => ⟨rfl, e16, (nle rfl), (nle rfl)⟩)
      dsimp only [Pt.U, Pt.locs, Pt.cells, Pt.slots] at X17 l17 y17 z17 st17 hQ17
      subst l17 y17 z17
      obtain ⟨rfl, N17q, K17, F_material_b14, F_points_b14⟩ := hQ17
      have N17 := Fr.app N16 N17q
      have e17 : T17.heap = T17.heap := rfl
      have O17 := O16.keep K17 (allS g_b14 all0)
      have hk := Nat.le_trans hk K17.1
      have sfw : ∀ x ∈ [b14], Safe Z own_EL s.vm T16.heap x := (sfS SF_b14 sf0)
      have SF_b11 := Safe.keep K17 sfw hC.1 SF_b11
      have SF_b14 := Safe.keep K17 sfw hC.1 SF_b14
      have SF_b15 := Safe.keep K17 sfw hC.1 SF_b15
      have hC := hC.trans (CHr.keep K17 sfw hC.1)
      have E_b11 : Exa Z T17.heap b11 "[C" := E_b11.keep K17
      have V_b11 : Arv Z T17.heap b11 k11 .char (1 : Int32) [(.int c0)] (.int (0 : Int32)) := V_b11.keep K17 (ninS ne_b11_b14 nin0)
      have E_b14 : Exa Z T17.heap b14 "com/example/thingstead/thingstead/mimir/Treasure" := E_b14.keep K17
      have E_b15 : Exa Z T17.heap b15 "java/lang/String" := E_b15.keep K17
      have F_value_b15 : Fld Z T17.heap b15 "java/lang/String" "value" "[B" (.ref t16) := F_value_b15.keep K17 (ninS (Ne.symm ne_b14_b15) nin0)
      have F_coder_b15 : Fld Z T17.heap b15 "java/lang/String" "coder" "B" (.int (0 : Int32)) := F_coder_b15.keep K17 (ninS (Ne.symm ne_b14_b15) nin0)
      have F_hash_b15 : Fld Z T17.heap b15 "java/lang/String" "hash" "I" (.int (0 : Int32)) := F_hash_b15.keep K17 (ninS (Ne.symm ne_b14_b15) nin0)
      have F_hashIsZero_b15 : Fld Z T17.heap b15 "java/lang/String" "hashIsZero" "Z" (.int (0 : Int32)) := F_hashIsZero_b15.keep K17 (ninS (Ne.symm ne_b14_b15) nin0)
      have V_t16 : Arv Z T17.heap t16 kt16 .byte (1 : Int32) [(.int (c0).toInt8.toInt32)] (.int (0 : Int32)) := V_t16.keep K17 (ninS (Ne.symm ne_b14_t16) nin0)
      refine goT (n := 157) (Ls' := #[.val (.int p1), .val (.int p2), .val (.int p3), .val (.int (p2 &&& (3 : Int32))), .val (.int c0), .val (.int c1), .val (.int c2), .val (.ref b11), .val (.int c0), .unset]) (st' := [(.ref b14)]) st17 ?_
      refine goS (n := 159) (Ls' := #[.val (.int p1), .val (.int p2), .val (.int p3), .val (.int (p2 &&& (3 : Int32))), .val (.int c0), .val (.int c1), .val (.int c2), .val (.ref b11), .val (.int c0), .val (.ref b14)]) (st' := []) (fun _ kz => XS.astore X17.here hx rfl (hb hby at_157) rfl rfl (l' := #[.val (.int p1), .val (.int p2), .val (.int p3), .val (.int (p2 &&& (3 : Int32))), .val (.int c0), .val (.int c1), .val (.int c2), .val (.ref b11), .val (.int c0), .val (.ref b14)]) rfl kz) ?_
      refine goS (n := 161) (Ls' := #[.val (.int p1), .val (.int p2), .val (.int p3), .val (.int (p2 &&& (3 : Int32))), .val (.int c0), .val (.int c1), .val (.int c2), .val (.ref b11), .val (.int c0), .val (.ref b14)]) (st' := [(.ref b14)]) (fun _ kz => XS.aload X17.here hx rfl (hb hby at_159) rfl rfl kz) ?_
      have hE18 : (((31 : Int32) * ((c0).toInt8.toInt32 &&& (255 : Int32))) + p3) = (((31 : Int32) * c0) + p3) := by simp only [own_b c0 r_c0, Int32.mul_zero, Int32.zero_add]
      obtain ⟨cq18, kq18, q18a, q18b, q18c⟩ := isOf hZ e17 E_b14
      obtain ⟨vr18, _, ⟨T18, L18, k18, n18⟩, -, X18, ⟨Lc18, hQ18, l18, y18, z18⟩, st18⟩ := X17.virtualBack hx (y := (⟨"com/example/thingstead/thingstead/mimir/Treasure", "hashCode", "()I"⟩ : MethodName)) (z := (⟨"com/example/thingstead/thingstead/mimir/Treasure", "hashCode", "()I"⟩ : MethodName)) hown (mvT hZ (hw _ (List.mem_of_getElem? (i := 46) rfl))) (mvT hZ (hw _ (List.mem_of_getElem? (i := 47) rfl))) (notFace_of_selects (args := #[]) (mvT hZ (hw _ (List.mem_of_getElem? (i := 49) rfl)))) (mvT hZ (hw _ (List.mem_of_getElem? (i := 49) rfl))) (mvT hZ (hw _ (List.mem_of_getElem? (i := 48) rfl))) (by decide) (backOf (W := 0) (rm_th1 l Z a0 hw [] b14 b15 p3 cs t16 kt16 ((c0).toInt8.toInt32) T17.heap n0 O17 S_CS hcs E_b14 F_material_b14 F_points_b14 E_b15 F_value_b15 F_coder_b15 F_hash_b15 F_hashIsZero_b15 V_t16 g_b15 ne_b14_b15) hZ (hw _ (List.mem_of_getElem? (i := 50) rfl)) (hw _ (List.mem_of_getElem? (i := 3) rfl)) (by decide) (by decide)) q18a q18c (g := (mkF m 161 #[.val (.int p1), .val (.int p2), .val (.int p3), .val (.int (p2 &&& (3 : Int32))), .val (.int c0), .val (.int c1), .val (.int c2), .val (.ref b11), .val (.int c0), .val (.ref b14)] [(.ref b14)])) rfl (by rw [hml]; rfl) (Steps.refl _) (argsL := []) (rest := []) (lenOf pd_4 rfl) rfl (by show 2 * 0 + _ ≤ _; exact Nat.le_of_eq rfl) (hb hby at_161) (fun _ _ => ⟨rfl, e17, (nle rfl), (nle rfl)⟩)
      dsimp only [Pt.U, Pt.locs, Pt.cells, Pt.slots] at X18 l18 y18 z18 st18 hQ18
      subst l18 y18 z18
      obtain ⟨rfl, N18q, K18⟩ := hQ18
      have N18 := Fr.app N17 N18q
      have e18 : T18.heap = T18.heap := rfl
      have O18 := O17.keep K18 (allS g_b15 all0)
      have hk := Nat.le_trans hk K18.1
      have sfw : ∀ x ∈ [b15], Safe Z own_EL s.vm T17.heap x := (sfS SF_b15 sf0)
      have SF_b11 := Safe.keep K18 sfw hC.1 SF_b11
      have SF_b14 := Safe.keep K18 sfw hC.1 SF_b14
      have SF_b15 := Safe.keep K18 sfw hC.1 SF_b15
      have hC := hC.trans (CHr.keep K18 sfw hC.1)
      have E_b11 : Exa Z T18.heap b11 "[C" := E_b11.keep K18
      have V_b11 : Arv Z T18.heap b11 k11 .char (1 : Int32) [(.int c0)] (.int (0 : Int32)) := V_b11.keep K18 (ninS ne_b11_b15 nin0)
      have E_b14 : Exa Z T18.heap b14 "com/example/thingstead/thingstead/mimir/Treasure" := E_b14.keep K18
      have E_b15 : Exa Z T18.heap b15 "java/lang/String" := E_b15.keep K18
      have V_t16 : Arv Z T18.heap t16 kt16 .byte (1 : Int32) [(.int (c0).toInt8.toInt32)] (.int (0 : Int32)) := V_t16.keep K18 (ninS (Ne.symm ne_b15_t16) nin0)
      have F_material_b14 : Fld Z T18.heap b14 "com/example/thingstead/thingstead/mimir/Treasure" "material" "Ljava/lang/String;" (.ref b15) := F_material_b14.keep K18 (ninS ne_b14_b15 nin0)
      have F_points_b14 : Fld Z T18.heap b14 "com/example/thingstead/thingstead/mimir/Treasure" "points" "I" (.int p3) := F_points_b14.keep K18 (ninS ne_b14_b15 nin0)
      refine goT (n := 164) (Ls' := #[.val (.int p1), .val (.int p2), .val (.int p3), .val (.int (p2 &&& (3 : Int32))), .val (.int c0), .val (.int c1), .val (.int c2), .val (.ref b11), .val (.int c0), .val (.ref b14)]) (st' := [(.int (((31 : Int32) * ((c0).toInt8.toInt32 &&& (255 : Int32))) + p3))]) st18 ?_
      refine goS (n := 166) (Ls' := #[.val (.int p1), .val (.int p2), .val (.int p3), .val (.int (p2 &&& (3 : Int32))), .val (.int c0), .val (.int c1), .val (.int c2), .val (.ref b11), .val (.int c0), .val (.ref b14)]) (st' := [(.int (31 : Int32)), (.int (((31 : Int32) * ((c0).toInt8.toInt32 &&& (255 : Int32))) + p3))]) (fun _ kz => XS.bipush X18.here hx rfl (hb hby at_164) kz) ?_
      refine goS (n := 168) (Ls' := #[.val (.int p1), .val (.int p2), .val (.int p3), .val (.int (p2 &&& (3 : Int32))), .val (.int c0), .val (.int c1), .val (.int c2), .val (.ref b11), .val (.int c0), .val (.ref b14)]) (st' := [(.int c0), (.int (31 : Int32)), (.int (((31 : Int32) * ((c0).toInt8.toInt32 &&& (255 : Int32))) + p3))]) (fun _ kz => XS.iload X18.here hx rfl (hb hby at_166) rfl kz) ?_
      refine goS (n := 169) (Ls' := #[.val (.int p1), .val (.int p2), .val (.int p3), .val (.int (p2 &&& (3 : Int32))), .val (.int c0), .val (.int c1), .val (.int c2), .val (.ref b11), .val (.int c0), .val (.ref b14)]) (st' := [(.int ((31 : Int32) * c0)), (.int (((31 : Int32) * ((c0).toInt8.toInt32 &&& (255 : Int32))) + p3))]) (fun _ kz => XS.imul X18.here hx rfl (hb hby at_168) rfl kz) ?_
      refine goS (n := 170) (Ls' := #[.val (.int p1), .val (.int p2), .val (.int p3), .val (.int (p2 &&& (3 : Int32))), .val (.int c0), .val (.int c1), .val (.int c2), .val (.ref b11), .val (.int c0), .val (.ref b14)]) (st' := [(.int p3), (.int ((31 : Int32) * c0)), (.int (((31 : Int32) * ((c0).toInt8.toInt32 &&& (255 : Int32))) + p3))]) (fun _ kz => XS.iloadN X18.here hx rfl (hb hby at_169) rfl kz) ?_
      refine goS (n := 171) (Ls' := #[.val (.int p1), .val (.int p2), .val (.int p3), .val (.int (p2 &&& (3 : Int32))), .val (.int c0), .val (.int c1), .val (.int c2), .val (.ref b11), .val (.int c0), .val (.ref b14)]) (st' := [(.int (((31 : Int32) * c0) + p3)), (.int (((31 : Int32) * ((c0).toInt8.toInt32 &&& (255 : Int32))) + p3))]) (fun _ kz => XS.iadd X18.here hx rfl (hb hby at_170) rfl kz) ?_
      refine goS (n := 174) (Ls' := #[.val (.int p1), .val (.int p2), .val (.int p3), .val (.int (p2 &&& (3 : Int32))), .val (.int c0), .val (.int c1), .val (.int c2), .val (.ref b11), .val (.int c0), .val (.ref b14)]) (st' := []) (fun _ kz => XS.icmpNo X18.here hx rfl (hb hby at_171) rfl (teq hE18).2 kz) ?_
      refine goS (n := 175) (Ls' := #[.val (.int p1), .val (.int p2), .val (.int p3), .val (.int (p2 &&& (3 : Int32))), .val (.int c0), .val (.int c1), .val (.int c2), .val (.ref b11), .val (.int c0), .val (.ref b14)]) (st' := [(.int (1 : Int32))]) (fun _ kz => XS.iconst X18.here hx rfl (hb hby at_174) kz) ?_
      refine goS (n := 179) (Ls' := #[.val (.int p1), .val (.int p2), .val (.int p3), .val (.int (p2 &&& (3 : Int32))), .val (.int c0), .val (.int c1), .val (.int c2), .val (.ref b11), .val (.int c0), .val (.ref b14)]) (st' := [(.int (1 : Int32))]) (fun _ kz => XS.goto X18.here hx rfl (pc0 := 175) (pc' := 179) rfl (hb hby at_175) (by decide) (by decide) kz) ?_
      exact goRetH X18 hx hlk hS (by rw [e18]; exact hk) hZ hEL (by rw [hh, e18]; exact hC) Bd.returns (narZ (Or.inr rfl)) (Or.inl ⟨rfl, Or.inr (Or.inl rfl), _, rfl⟩) (hb hby at_179) (nle rfl) (nle rfl) (by rw [e18]; exact ⟨rfl, N18⟩)
    · refine goS (n := 71) (Ls' := #[.val (.int p1), .val (.int p2), .val (.int p3), .val (.int (p2 &&& (3 : Int32))), .val (.int c0), .val (.int c1), .val (.int c2), .unset, .unset, .unset]) (st' := []) (fun _ kz => XS.icmpYes X0.here hx rfl (pc0 := 51) (pc' := 71) rfl (hb hby at_51) rfl (feq hc10).2 (by decide) (by decide) kz) ?_
      refine goS (n := 72) (Ls' := #[.val (.int p1), .val (.int p2), .val (.int p3), .val (.int (p2 &&& (3 : Int32))), .val (.int c0), .val (.int c1), .val (.int c2), .unset, .unset, .unset]) (st' := [(.int (p2 &&& (3 : Int32)))]) (fun _ kz => XS.iloadN X0.here hx rfl (hb hby at_71) rfl kz) ?_
      refine goS (n := 73) (Ls' := #[.val (.int p1), .val (.int p2), .val (.int p3), .val (.int (p2 &&& (3 : Int32))), .val (.int c0), .val (.int c1), .val (.int c2), .unset, .unset, .unset]) (st' := [(.int (2 : Int32)), (.int (p2 &&& (3 : Int32)))]) (fun _ kz => XS.iconst X0.here hx rfl (hb hby at_72) kz) ?_
      by_cases hc19 : (p2 &&& (3 : Int32)) = (2 : Int32)
      · refine goS (n := 76) (Ls' := #[.val (.int p1), .val (.int p2), .val (.int p3), .val (.int (p2 &&& (3 : Int32))), .val (.int c0), .val (.int c1), .val (.int c2), .unset, .unset, .unset]) (st' := []) (fun _ kz => XS.icmpNo X0.here hx rfl (hb hby at_73) rfl (teq hc19).2 kz) ?_
        refine goS (n := 77) (Ls' := #[.val (.int p1), .val (.int p2), .val (.int p3), .val (.int (p2 &&& (3 : Int32))), .val (.int c0), .val (.int c1), .val (.int c2), .unset, .unset, .unset]) (st' := [(.int (2 : Int32))]) (fun _ kz => XS.iconst X0.here hx rfl (hb hby at_76) kz) ?_
        obtain ⟨T20, h20, k20, X20, e20, E20, A20, Ex20, st20⟩ := newPE X0 hx hZ (hw _ (List.mem_of_getElem? (i := 0) rfl)) e0 (g := (mkF m 77 #[.val (.int p1), .val (.int p2), .val (.int p3), .val (.int (p2 &&& (3 : Int32))), .val (.int c0), .val (.int c1), .val (.int c2), .unset, .unset, .unset] [(.int (2 : Int32))])) rfl (hb hby at_77) rfl (by decide) (cap := 2) (by decide) (by decide) (nle rfl) (nle rfl) (ad := "[C") (by decide +kernel)
        obtain ⟨b20, g20⟩ : ∃ z, z = h0.size := ⟨_, rfl⟩
        rw [← g20] at A20 st20 Ex20
        have g_b20 : n0 ≤ b20 := Nat.le_trans (O0.1 ▸ O0.2.1) (Nat.le_of_eq g20.symm)
        have SF_b20 : Safe Z own_EL s.vm h0 b20 := Safe.new (Nat.le_of_eq g20.symm)
        have hk := Nat.le_trans hk E20.1
        have SF_b20 := Safe.ext E20 hC.1 SF_b20
        have hC := hC.trans (CHr.ext E20 hC.1)
        have E_b20 : Exa Z h20 b20 "[C" := Ex20
        have V_b20 : Arv Z h20 b20 k20 .char (2 : Int32) [(.int (0 : Int32)), (.int (0 : Int32))] (.int (0 : Int32)) := (Arv.new A20 (by decide)).pad (pad_rep [] (.int (0 : Int32)) 2)
        have O20 := O0.ext E20
        refine goS (n := 79) (Ls' := #[.val (.int p1), .val (.int p2), .val (.int p3), .val (.int (p2 &&& (3 : Int32))), .val (.int c0), .val (.int c1), .val (.int c2), .unset, .unset, .unset]) (st' := [(.ref b20)]) st20 ?_
        refine goS (n := 80) (Ls' := #[.val (.int p1), .val (.int p2), .val (.int p3), .val (.int (p2 &&& (3 : Int32))), .val (.int c0), .val (.int c1), .val (.int c2), .unset, .unset, .unset]) (st' := [(.ref b20), (.ref b20)]) (fun _ kz => XS.dup X20.here hx rfl (hb hby at_79) rfl rfl kz) ?_
        refine goS (n := 81) (Ls' := #[.val (.int p1), .val (.int p2), .val (.int p3), .val (.int (p2 &&& (3 : Int32))), .val (.int c0), .val (.int c1), .val (.int c2), .unset, .unset, .unset]) (st' := [(.int (0 : Int32)), (.ref b20), (.ref b20)]) (fun _ kz => XS.iconst X20.here hx rfl (hb hby at_80) kz) ?_
        refine goS (n := 83) (Ls' := #[.val (.int p1), .val (.int p2), .val (.int p3), .val (.int (p2 &&& (3 : Int32))), .val (.int c0), .val (.int c1), .val (.int c2), .unset, .unset, .unset]) (st' := [(.int c0), (.int (0 : Int32)), (.ref b20), (.ref b20)]) (fun _ kz => XS.iload X20.here hx rfl (hb hby at_81) rfl kz) ?_
        obtain ⟨cl21, Ar21, q21, S21, Nn21, H21, G21⟩ := V_b20
        have hin21 : ¬ ((0 : Int32) < 0 ∨ cl21.slots.size ≤ ((0 : Int32)).toNatClampNeg) := inb_of S21 ⟨by decide, by decide⟩
        obtain ⟨T22, h22, X22, e22, W22, st22⟩ := stC X20 hx hZ e20 Ar21 (j := (0 : Int32)) hin21 (g := (mkF m 83 #[.val (.int p1), .val (.int p2), .val (.int p3), .val (.int (p2 &&& (3 : Int32))), .val (.int c0), .val (.int c1), .val (.int c2), .unset, .unset, .unset] [(.int c0), (.int (0 : Int32)), (.ref b20), (.ref b20)])) rfl rfl (hb hby at_83)
        rw [(own_narC _ r_c0)] at W22
        have fz22 : fits .char (.int c0) = true := by have q := fits_nar_char c0; rw [(own_narC _ r_c0)] at q; exact q
        have hk := Nat.le_trans hk (Keep.of_wr W22).1
        have sfw := SF_b20
        have SF_b20 := Safe.wr W22 sfw hC.1 SF_b20
        have hC := hC.trans (CHr.wr W22 sfw hC.1)
        have E_b20 : Exa Z h22 b20 "[C" := E_b20.wr W22
        have V_b20 : Arv Z h22 b20 k20 .char (2 : Int32) [(.int c0), (.int (0 : Int32))] (.int (0 : Int32)) := Arv.set Ar21 q21 S21 Nn21 H21 G21 fz22 W22 0 rfl (Nat.le_of_ble_eq_true rfl)
        have N22 := Fr.snoc X22 N0 g_b20
        have O22 := O20.wr W22 g_b20
        refine goS (n := 84) (Ls' := #[.val (.int p1), .val (.int p2), .val (.int p3), .val (.int (p2 &&& (3 : Int32))), .val (.int c0), .val (.int c1), .val (.int c2), .unset, .unset, .unset]) (st' := [(.ref b20)]) st22 ?_
        refine goS (n := 85) (Ls' := #[.val (.int p1), .val (.int p2), .val (.int p3), .val (.int (p2 &&& (3 : Int32))), .val (.int c0), .val (.int c1), .val (.int c2), .unset, .unset, .unset]) (st' := [(.ref b20), (.ref b20)]) (fun _ kz => XS.dup X22.here hx rfl (hb hby at_84) rfl rfl kz) ?_
        refine goS (n := 86) (Ls' := #[.val (.int p1), .val (.int p2), .val (.int p3), .val (.int (p2 &&& (3 : Int32))), .val (.int c0), .val (.int c1), .val (.int c2), .unset, .unset, .unset]) (st' := [(.int (1 : Int32)), (.ref b20), (.ref b20)]) (fun _ kz => XS.iconst X22.here hx rfl (hb hby at_85) kz) ?_
        refine goS (n := 88) (Ls' := #[.val (.int p1), .val (.int p2), .val (.int p3), .val (.int (p2 &&& (3 : Int32))), .val (.int c0), .val (.int c1), .val (.int c2), .unset, .unset, .unset]) (st' := [(.int c1), (.int (1 : Int32)), (.ref b20), (.ref b20)]) (fun _ kz => XS.iload X22.here hx rfl (hb hby at_86) rfl kz) ?_
        obtain ⟨cl23, Ar23, q23, S23, Nn23, H23, G23⟩ := V_b20
        have hin23 : ¬ ((1 : Int32) < 0 ∨ cl23.slots.size ≤ ((1 : Int32)).toNatClampNeg) := inb_of S23 ⟨by decide, by decide⟩
        obtain ⟨T24, h24, X24, e24, W24, st24⟩ := stC X22 hx hZ e22 Ar23 (j := (1 : Int32)) hin23 (g := (mkF m 88 #[.val (.int p1), .val (.int p2), .val (.int p3), .val (.int (p2 &&& (3 : Int32))), .val (.int c0), .val (.int c1), .val (.int c2), .unset, .unset, .unset] [(.int c1), (.int (1 : Int32)), (.ref b20), (.ref b20)])) rfl rfl (hb hby at_88)
        rw [(own_narC _ r_c1)] at W24
        have fz24 : fits .char (.int c1) = true := by have q := fits_nar_char c1; rw [(own_narC _ r_c1)] at q; exact q
        have hk := Nat.le_trans hk (Keep.of_wr W24).1
        have sfw := SF_b20
        have SF_b20 := Safe.wr W24 sfw hC.1 SF_b20
        have hC := hC.trans (CHr.wr W24 sfw hC.1)
        have E_b20 : Exa Z h24 b20 "[C" := E_b20.wr W24
        have V_b20 : Arv Z h24 b20 k20 .char (2 : Int32) [(.int c0), (.int c1)] (.int (0 : Int32)) := Arv.set Ar23 q23 S23 Nn23 H23 G23 fz24 W24 1 rfl (Nat.le_of_ble_eq_true rfl)
        have N24 := Fr.snoc X24 N22 g_b20
        have O24 := O22.wr W24 g_b20
        refine goS (n := 89) (Ls' := #[.val (.int p1), .val (.int p2), .val (.int p3), .val (.int (p2 &&& (3 : Int32))), .val (.int c0), .val (.int c1), .val (.int c2), .unset, .unset, .unset]) (st' := [(.ref b20)]) st24 ?_
        refine goS (n := 91) (Ls' := #[.val (.int p1), .val (.int p2), .val (.int p3), .val (.int (p2 &&& (3 : Int32))), .val (.int c0), .val (.int c1), .val (.int c2), .val (.ref b20), .unset, .unset]) (st' := []) (fun _ kz => XS.astore X24.here hx rfl (hb hby at_89) rfl rfl (l' := #[.val (.int p1), .val (.int p2), .val (.int p3), .val (.int (p2 &&& (3 : Int32))), .val (.int c0), .val (.int c1), .val (.int c2), .val (.ref b20), .unset, .unset]) rfl kz) ?_
        refine goS (n := 93) (Ls' := #[.val (.int p1), .val (.int p2), .val (.int p3), .val (.int (p2 &&& (3 : Int32))), .val (.int c0), .val (.int c1), .val (.int c2), .val (.ref b20), .unset, .unset]) (st' := [(.int (31 : Int32))]) (fun _ kz => XS.bipush X24.here hx rfl (hb hby at_91) kz) ?_
        refine goS (n := 95) (Ls' := #[.val (.int p1), .val (.int p2), .val (.int p3), .val (.int (p2 &&& (3 : Int32))), .val (.int c0), .val (.int c1), .val (.int c2), .val (.ref b20), .unset, .unset]) (st' := [(.int c0), (.int (31 : Int32))]) (fun _ kz => XS.iload X24.here hx rfl (hb hby at_93) rfl kz) ?_
        refine goS (n := 96) (Ls' := #[.val (.int p1), .val (.int p2), .val (.int p3), .val (.int (p2 &&& (3 : Int32))), .val (.int c0), .val (.int c1), .val (.int c2), .val (.ref b20), .unset, .unset]) (st' := [(.int ((31 : Int32) * c0))]) (fun _ kz => XS.imul X24.here hx rfl (hb hby at_95) rfl kz) ?_
        refine goS (n := 98) (Ls' := #[.val (.int p1), .val (.int p2), .val (.int p3), .val (.int (p2 &&& (3 : Int32))), .val (.int c0), .val (.int c1), .val (.int c2), .val (.ref b20), .unset, .unset]) (st' := [(.int c1), (.int ((31 : Int32) * c0))]) (fun _ kz => XS.iload X24.here hx rfl (hb hby at_96) rfl kz) ?_
        refine goS (n := 99) (Ls' := #[.val (.int p1), .val (.int p2), .val (.int p3), .val (.int (p2 &&& (3 : Int32))), .val (.int c0), .val (.int c1), .val (.int c2), .val (.ref b20), .unset, .unset]) (st' := [(.int (((31 : Int32) * c0) + c1))]) (fun _ kz => XS.iadd X24.here hx rfl (hb hby at_98) rfl kz) ?_
        refine goS (n := 101) (Ls' := #[.val (.int p1), .val (.int p2), .val (.int p3), .val (.int (p2 &&& (3 : Int32))), .val (.int c0), .val (.int c1), .val (.int c2), .val (.ref b20), .val (.int (((31 : Int32) * c0) + c1)), .unset]) (st' := []) (fun _ kz => XS.istore X24.here hx rfl (hb hby at_99) rfl (l' := #[.val (.int p1), .val (.int p2), .val (.int p3), .val (.int (p2 &&& (3 : Int32))), .val (.int c0), .val (.int c1), .val (.int c2), .val (.ref b20), .val (.int (((31 : Int32) * c0) + c1)), .unset]) rfl kz) ?_
        refine goS (n := 140) (Ls' := #[.val (.int p1), .val (.int p2), .val (.int p3), .val (.int (p2 &&& (3 : Int32))), .val (.int c0), .val (.int c1), .val (.int c2), .val (.ref b20), .val (.int (((31 : Int32) * c0) + c1)), .unset]) (st' := []) (fun _ kz => XS.goto X24.here hx rfl (pc0 := 101) (pc' := 140) rfl (hb hby at_101) (by decide) (by decide) kz) ?_
        obtain ⟨T25, h25, X25, e25, E25, A25, D25, -, st25⟩ := newO X24 hx hZ hown (hw _ (List.mem_of_getElem? (i := 1) rfl)) (hw _ (List.mem_of_getElem? (i := 2) rfl)) (hw _ (List.mem_of_getElem? (i := 3) rfl)) e24 (g := (mkF m 140 #[.val (.int p1), .val (.int p2), .val (.int p3), .val (.int (p2 &&& (3 : Int32))), .val (.int c0), .val (.int c1), .val (.int c2), .val (.ref b20), .val (.int (((31 : Int32) * c0) + c1)), .unset] [])) rfl (hb hby at_140) (nle rfl) (nle rfl)
        obtain ⟨b25, g25⟩ : ∃ z, z = h24.size := ⟨_, rfl⟩
        rw [← g25] at A25 D25 st25
        have g_b25 : n0 ≤ b25 := Nat.le_trans (O24.1 ▸ O24.2.1) (Nat.le_of_eq g25.symm)
        have SF_b25 : Safe Z own_EL s.vm h24 b25 := Safe.new (Nat.le_of_eq g25.symm)
        have ne_b20_b25 : b20 ≠ b25 := Nat.ne_of_lt (Nat.lt_of_lt_of_le E_b20.lt (Nat.le_of_eq g25.symm))
        have hk := Nat.le_trans hk E25.1
        have SF_b20 := Safe.ext E25 hC.1 SF_b20
        have SF_b25 := Safe.ext E25 hC.1 SF_b25
        have hC := hC.trans (CHr.ext E25 hC.1)
        have E_b20 : Exa Z h25 b20 "[C" := E_b20.ext E25
        have V_b20 : Arv Z h25 b20 k20 .char (2 : Int32) [(.int c0), (.int c1)] (.int (0 : Int32)) := V_b20.ext E25
        have F_material_b25 : Fld Z h25 b25 "com/example/thingstead/thingstead/mimir/Treasure" "material" "Ljava/lang/String;" .null := D25 (Or.inr (hw _ (List.mem_of_getElem? (i := 43) rfl))) (ty := (.object "java/lang/String")) (by decide)
        have F_points_b25 : Fld Z h25 b25 "com/example/thingstead/thingstead/mimir/Treasure" "points" "I" (.int (0 : Int32)) := D25 (Or.inr (hw _ (List.mem_of_getElem? (i := 45) rfl))) (ty := .int) (by decide)
        have E_b25 : Exa Z h25 b25 "com/example/thingstead/thingstead/mimir/Treasure" := A25
        have O25 := O24.ext E25
        refine goS (n := 143) (Ls' := #[.val (.int p1), .val (.int p2), .val (.int p3), .val (.int (p2 &&& (3 : Int32))), .val (.int c0), .val (.int c1), .val (.int c2), .val (.ref b20), .val (.int (((31 : Int32) * c0) + c1)), .unset]) (st' := [(.ref b25)]) st25 ?_
        refine goS (n := 144) (Ls' := #[.val (.int p1), .val (.int p2), .val (.int p3), .val (.int (p2 &&& (3 : Int32))), .val (.int c0), .val (.int c1), .val (.int c2), .val (.ref b20), .val (.int (((31 : Int32) * c0) + c1)), .unset]) (st' := [(.ref b25), (.ref b25)]) (fun _ kz => XS.dup X25.here hx rfl (hb hby at_143) rfl rfl kz) ?_
        obtain ⟨T26, h26, X26, e26, E26, A26, D26, -, st26⟩ := newO X25 hx hZ hown (hw _ (List.mem_of_getElem? (i := 4) rfl)) (hw _ (List.mem_of_getElem? (i := 5) rfl)) (hw _ (List.mem_of_getElem? (i := 6) rfl)) e25 (g := (mkF m 144 #[.val (.int p1), .val (.int p2), .val (.int p3), .val (.int (p2 &&& (3 : Int32))), .val (.int c0), .val (.int c1), .val (.int c2), .val (.ref b20), .val (.int (((31 : Int32) * c0) + c1)), .unset] [(.ref b25), (.ref b25)])) rfl (hb hby at_144) (nle rfl) (nle rfl)
        obtain ⟨b26, g26⟩ : ∃ z, z = h25.size := ⟨_, rfl⟩
        rw [← g26] at A26 D26 st26
        have g_b26 : n0 ≤ b26 := Nat.le_trans (O25.1 ▸ O25.2.1) (Nat.le_of_eq g26.symm)
        have SF_b26 : Safe Z own_EL s.vm h25 b26 := Safe.new (Nat.le_of_eq g26.symm)
        have ne_b20_b26 : b20 ≠ b26 := Nat.ne_of_lt (Nat.lt_of_lt_of_le E_b20.lt (Nat.le_of_eq g26.symm))
        have ne_b25_b26 : b25 ≠ b26 := Nat.ne_of_lt (Nat.lt_of_lt_of_le E_b25.lt (Nat.le_of_eq g26.symm))
        have hk := Nat.le_trans hk E26.1
        have SF_b20 := Safe.ext E26 hC.1 SF_b20
        have SF_b25 := Safe.ext E26 hC.1 SF_b25
        have SF_b26 := Safe.ext E26 hC.1 SF_b26
        have hC := hC.trans (CHr.ext E26 hC.1)
        have E_b20 : Exa Z h26 b20 "[C" := E_b20.ext E26
        have V_b20 : Arv Z h26 b20 k20 .char (2 : Int32) [(.int c0), (.int c1)] (.int (0 : Int32)) := V_b20.ext E26
        have F_material_b25 : Fld Z h26 b25 "com/example/thingstead/thingstead/mimir/Treasure" "material" "Ljava/lang/String;" .null := F_material_b25.ext E26
        have F_points_b25 : Fld Z h26 b25 "com/example/thingstead/thingstead/mimir/Treasure" "points" "I" (.int (0 : Int32)) := F_points_b25.ext E26
        have E_b25 : Exa Z h26 b25 "com/example/thingstead/thingstead/mimir/Treasure" := E_b25.ext E26
        have F_coder_b26 : Fld Z h26 b26 "java/lang/String" "coder" "B" (.int (0 : Int32)) := D26 (Or.inr (hw _ (List.mem_of_getElem? (i := 30) rfl))) (ty := .byte) (by decide)
        have F_value_b26 : Fld Z h26 b26 "java/lang/String" "value" "[B" .null := D26 (Or.inr (hw _ (List.mem_of_getElem? (i := 32) rfl))) (ty := (.array .byte)) (by decide)
        have F_hash_b26 : Fld Z h26 b26 "java/lang/String" "hash" "I" (.int (0 : Int32)) := D26 (Or.inl (hw _ (List.mem_of_getElem? (i := 57) rfl))) (ty := .int) (by decide)
        have F_hashIsZero_b26 : Fld Z h26 b26 "java/lang/String" "hashIsZero" "Z" (.int (0 : Int32)) := D26 (Or.inl (hw _ (List.mem_of_getElem? (i := 59) rfl))) (ty := .boolean) (by decide)
        have E_b26 : Exa Z h26 b26 "java/lang/String" := A26
        have O26 := O25.ext E26
        refine goS (n := 147) (Ls' := #[.val (.int p1), .val (.int p2), .val (.int p3), .val (.int (p2 &&& (3 : Int32))), .val (.int c0), .val (.int c1), .val (.int c2), .val (.ref b20), .val (.int (((31 : Int32) * c0) + c1)), .unset]) (st' := [(.ref b26), (.ref b25), (.ref b25)]) st26 ?_
        refine goS (n := 148) (Ls' := #[.val (.int p1), .val (.int p2), .val (.int p3), .val (.int (p2 &&& (3 : Int32))), .val (.int c0), .val (.int c1), .val (.int c2), .val (.ref b20), .val (.int (((31 : Int32) * c0) + c1)), .unset]) (st' := [(.ref b26), (.ref b26), (.ref b25), (.ref b25)]) (fun _ kz => XS.dup X26.here hx rfl (hb hby at_147) rfl rfl kz) ?_
        refine goS (n := 150) (Ls' := #[.val (.int p1), .val (.int p2), .val (.int p3), .val (.int (p2 &&& (3 : Int32))), .val (.int c0), .val (.int c1), .val (.int c2), .val (.ref b20), .val (.int (((31 : Int32) * c0) + c1)), .unset]) (st' := [(.ref b20), (.ref b26), (.ref b26), (.ref b25), (.ref b25)]) (fun _ kz => XS.aload X26.here hx rfl (hb hby at_148) rfl rfl kz) ?_
        obtain ⟨vr27, _, ⟨T27, L27, k27, n27⟩, -, X27, ⟨Lc27, hQ27, l27, y27, z27⟩, st27⟩ := X26.specialBack hx (y := (⟨"java/lang/String", "<init>", "([C)V"⟩ : MethodName)) rfl hown (mvT hZ (hw _ (List.mem_of_getElem? (i := 7) rfl))) (mvT hZ (hw _ (List.mem_of_getElem? (i := 8) rfl))) (mvT hZ (hw _ (List.mem_of_getElem? (i := 9) rfl))) (by decide) (StrChars.Road.backArv (W := 3) hZ (own_words hw) (kI := 4) (hw _ (List.mem_of_getElem? (i := 5) rfl)) (cs := [c0, c1]) E_b26 F_value_b26 F_coder_b26 V_b20 (S_CS.ext O26.2) hcs rfl (nle rfl) (nle rfl) (by intro c hc; simp only [List.mem_cons, List.not_mem_nil, or_false] at hc; rcases hc with rfl | rfl <;> first | exact r_c0.2 | exact r_c1.2 | exact r_c2.2) (by decide) (by decide)) (g := (mkF m 150 #[.val (.int p1), .val (.int p2), .val (.int p3), .val (.int (p2 &&& (3 : Int32))), .val (.int c0), .val (.int c1), .val (.int c2), .val (.ref b20), .val (.int (((31 : Int32) * c0) + c1)), .unset] [(.ref b20), (.ref b26), (.ref b26), (.ref b25), (.ref b25)])) rfl (by rw [hml]; rfl) (Steps.refl _) (a := b26) (argsL := [(.ref b20)]) (rest := [(.ref b26), (.ref b25), (.ref b25)]) (lenOf pd_7 rfl) rfl (by show 2 * 0 + _ ≤ _; exact Nat.le_of_eq rfl) (hb hby at_150) (fun _ _ => ⟨rfl, e26, (nle rfl), (nle rfl)⟩)
        dsimp only [Pt.U, Pt.locs, Pt.cells, Pt.slots] at X27 l27 y27 z27 st27 hQ27
        subst l27 y27 z27
        obtain ⟨rfl, NL27, K27, -, -, F_value_b26, F_coder_b26, ⟨kt27, fcB27, V_t27⟩, ho27⟩ := hQ27
        have N27q : Fr n0 Lc27 := fun y hy => by rw [NL27 y hy]; exact g_b26
        obtain ⟨t27, gt27⟩ : ∃ z, z = h26.size := ⟨_, rfl⟩
        rw [← gt27] at F_value_b26 V_t27
        have zt27 : h26.size ≤ t27 := Nat.le_of_eq gt27.symm
        have F_hash_b26 := ho27 _ _ _ _ F_hash_b26 (slot_ne (Or.inl (hw _ (List.mem_of_getElem? (i := 57) rfl))) (Or.inr (hw _ (List.mem_of_getElem? (i := 32) rfl))) (by decide) (t := .int) (t' := .array .byte) (by decide) (by decide)) (slot_ne (Or.inl (hw _ (List.mem_of_getElem? (i := 57) rfl))) (Or.inr (hw _ (List.mem_of_getElem? (i := 30) rfl))) (by decide) (t := .int) (t' := .byte) (by decide) (by decide))
        have F_hashIsZero_b26 := ho27 _ _ _ _ F_hashIsZero_b26 (slot_ne (Or.inl (hw _ (List.mem_of_getElem? (i := 59) rfl))) (Or.inr (hw _ (List.mem_of_getElem? (i := 32) rfl))) (by decide) (t := .boolean) (t' := .array .byte) (by decide) (by decide)) (slot_ne (Or.inl (hw _ (List.mem_of_getElem? (i := 59) rfl))) (Or.inr (hw _ (List.mem_of_getElem? (i := 30) rfl))) (by decide) (t := .boolean) (t' := .byte) (by decide) (by decide))
        have ne_b20_t27 : b20 ≠ t27 := Nat.ne_of_lt (Nat.lt_of_lt_of_le E_b20.lt zt27)
        have ne_b25_t27 : b25 ≠ t27 := Nat.ne_of_lt (Nat.lt_of_lt_of_le E_b25.lt zt27)
        have ne_b26_t27 : b26 ≠ t27 := Nat.ne_of_lt (Nat.lt_of_lt_of_le E_b26.lt zt27)
        have V_t27 : Arv Z T27.heap t27 kt27 .byte (2 : Int32) [(.int (c0).toInt8.toInt32), (.int (c1).toInt8.toInt32)] (.int (0 : Int32)) := V_t27
        have N27 := Fr.app N24 N27q
        have e27 : T27.heap = T27.heap := rfl
        have O27 := O26.keep K27 (allS g_b26 all0)
        have hk := Nat.le_trans hk K27.1
        have sfw : ∀ x ∈ [b26], Safe Z own_EL s.vm h26 x := (sfS SF_b26 sf0)
        have SF_b20 := Safe.keep K27 sfw hC.1 SF_b20
        have SF_b25 := Safe.keep K27 sfw hC.1 SF_b25
        have SF_b26 := Safe.keep K27 sfw hC.1 SF_b26
        have hC := hC.trans (CHr.keep K27 sfw hC.1)
        have E_b20 : Exa Z T27.heap b20 "[C" := E_b20.keep K27
        have V_b20 : Arv Z T27.heap b20 k20 .char (2 : Int32) [(.int c0), (.int c1)] (.int (0 : Int32)) := V_b20.keep K27 (ninS ne_b20_b26 nin0)
        have F_material_b25 : Fld Z T27.heap b25 "com/example/thingstead/thingstead/mimir/Treasure" "material" "Ljava/lang/String;" .null := F_material_b25.keep K27 (ninS ne_b25_b26 nin0)
        have F_points_b25 : Fld Z T27.heap b25 "com/example/thingstead/thingstead/mimir/Treasure" "points" "I" (.int (0 : Int32)) := F_points_b25.keep K27 (ninS ne_b25_b26 nin0)
        have E_b25 : Exa Z T27.heap b25 "com/example/thingstead/thingstead/mimir/Treasure" := E_b25.keep K27
        have E_b26 : Exa Z T27.heap b26 "java/lang/String" := E_b26.keep K27
        refine goT (n := 153) (Ls' := #[.val (.int p1), .val (.int p2), .val (.int p3), .val (.int (p2 &&& (3 : Int32))), .val (.int c0), .val (.int c1), .val (.int c2), .val (.ref b20), .val (.int (((31 : Int32) * c0) + c1)), .unset]) (st' := [(.ref b26), (.ref b25), (.ref b25)]) st27 ?_
        refine goS (n := 154) (Ls' := #[.val (.int p1), .val (.int p2), .val (.int p3), .val (.int (p2 &&& (3 : Int32))), .val (.int c0), .val (.int c1), .val (.int c2), .val (.ref b20), .val (.int (((31 : Int32) * c0) + c1)), .unset]) (st' := [(.int p3), (.ref b26), (.ref b25), (.ref b25)]) (fun _ kz => XS.iloadN X27.here hx rfl (hb hby at_153) rfl kz) ?_
        obtain ⟨vr28, _, ⟨T28, L28, k28, n28⟩, -, X28, ⟨Lc28, hQ28, l28, y28, z28⟩, st28⟩ := X27.specialBack hx (y := (⟨"com/example/thingstead/thingstead/mimir/Treasure", "<init>", "(Ljava/lang/String;I)V"⟩ : MethodName)) rfl hown (mvT hZ (hw _ (List.mem_of_getElem? (i := 33) rfl))) (mvT hZ (hw _ (List.mem_of_getElem? (i := 34) rfl))) (mvT hZ (hw _ (List.mem_of_getElem? (i := 35) rfl))) (by decide) (backOf (W := 1) (rm_init l Z a0 hw [] b25 b26 p3 T27.heap n0 O27 E_b25 F_material_b25 F_points_b25 g_b25) hZ (hw _ (List.mem_of_getElem? (i := 35) rfl)) (hw _ (List.mem_of_getElem? (i := 3) rfl)) (by decide) (by decide)) (g := (mkF m 154 #[.val (.int p1), .val (.int p2), .val (.int p3), .val (.int (p2 &&& (3 : Int32))), .val (.int c0), .val (.int c1), .val (.int c2), .val (.ref b20), .val (.int (((31 : Int32) * c0) + c1)), .unset] [(.int p3), (.ref b26), (.ref b25), (.ref b25)])) rfl (by rw [hml]; rfl) (Steps.refl _) (a := b25) (argsL := [(.ref b26), (.int p3)]) (rest := [(.ref b25)]) (lenOf pd_8 rfl) rfl (by show 2 * 0 + _ ≤ _; exact Nat.le_of_eq rfl) (hb hby at_154) (fun _ _ => ⟨rfl, e27, (nle rfl), (nle rfl)⟩)
        dsimp only [Pt.U, Pt.locs, Pt.cells, Pt.slots] at X28 l28 y28 z28 st28 hQ28
        subst l28 y28 z28
        obtain ⟨rfl, N28q, K28, F_material_b25, F_points_b25⟩ := hQ28
        have N28 := Fr.app N27 N28q
        have e28 : T28.heap = T28.heap := rfl
        have O28 := O27.keep K28 (allS g_b25 all0)
        have hk := Nat.le_trans hk K28.1
        have sfw : ∀ x ∈ [b25], Safe Z own_EL s.vm T27.heap x := (sfS SF_b25 sf0)
        have SF_b20 := Safe.keep K28 sfw hC.1 SF_b20
        have SF_b25 := Safe.keep K28 sfw hC.1 SF_b25
        have SF_b26 := Safe.keep K28 sfw hC.1 SF_b26
        have hC := hC.trans (CHr.keep K28 sfw hC.1)
        have E_b20 : Exa Z T28.heap b20 "[C" := E_b20.keep K28
        have V_b20 : Arv Z T28.heap b20 k20 .char (2 : Int32) [(.int c0), (.int c1)] (.int (0 : Int32)) := V_b20.keep K28 (ninS ne_b20_b25 nin0)
        have E_b25 : Exa Z T28.heap b25 "com/example/thingstead/thingstead/mimir/Treasure" := E_b25.keep K28
        have E_b26 : Exa Z T28.heap b26 "java/lang/String" := E_b26.keep K28
        have F_value_b26 : Fld Z T28.heap b26 "java/lang/String" "value" "[B" (.ref t27) := F_value_b26.keep K28 (ninS (Ne.symm ne_b25_b26) nin0)
        have F_coder_b26 : Fld Z T28.heap b26 "java/lang/String" "coder" "B" (.int (0 : Int32)) := F_coder_b26.keep K28 (ninS (Ne.symm ne_b25_b26) nin0)
        have F_hash_b26 : Fld Z T28.heap b26 "java/lang/String" "hash" "I" (.int (0 : Int32)) := F_hash_b26.keep K28 (ninS (Ne.symm ne_b25_b26) nin0)
        have F_hashIsZero_b26 : Fld Z T28.heap b26 "java/lang/String" "hashIsZero" "Z" (.int (0 : Int32)) := F_hashIsZero_b26.keep K28 (ninS (Ne.symm ne_b25_b26) nin0)
        have V_t27 : Arv Z T28.heap t27 kt27 .byte (2 : Int32) [(.int (c0).toInt8.toInt32), (.int (c1).toInt8.toInt32)] (.int (0 : Int32)) := V_t27.keep K28 (ninS (Ne.symm ne_b25_t27) nin0)
        refine goT (n := 157) (Ls' := #[.val (.int p1), .val (.int p2), .val (.int p3), .val (.int (p2 &&& (3 : Int32))), .val (.int c0), .val (.int c1), .val (.int c2), .val (.ref b20), .val (.int (((31 : Int32) * c0) + c1)), .unset]) (st' := [(.ref b25)]) st28 ?_
        refine goS (n := 159) (Ls' := #[.val (.int p1), .val (.int p2), .val (.int p3), .val (.int (p2 &&& (3 : Int32))), .val (.int c0), .val (.int c1), .val (.int c2), .val (.ref b20), .val (.int (((31 : Int32) * c0) + c1)), .val (.ref b25)]) (st' := []) (fun _ kz => XS.astore X28.here hx rfl (hb hby at_157) rfl rfl (l' := #[.val (.int p1), .val (.int p2), .val (.int p3), .val (.int (p2 &&& (3 : Int32))), .val (.int c0), .val (.int c1), .val (.int c2), .val (.ref b20), .val (.int (((31 : Int32) * c0) + c1)), .val (.ref b25)]) rfl kz) ?_
        refine goS (n := 161) (Ls' := #[.val (.int p1), .val (.int p2), .val (.int p3), .val (.int (p2 &&& (3 : Int32))), .val (.int c0), .val (.int c1), .val (.int c2), .val (.ref b20), .val (.int (((31 : Int32) * c0) + c1)), .val (.ref b25)]) (st' := [(.ref b25)]) (fun _ kz => XS.aload X28.here hx rfl (hb hby at_159) rfl rfl kz) ?_
        have hE29 : (((31 : Int32) * (((31 : Int32) * (((31 : Int32) * (0 : Int32)) + ((c0).toInt8.toInt32 &&& (255 : Int32)))) + ((c1).toInt8.toInt32 &&& (255 : Int32)))) + p3) = (((31 : Int32) * (((31 : Int32) * c0) + c1)) + p3) := by simp only [own_b c0 r_c0, own_b c1 r_c1, Int32.mul_zero, Int32.zero_add]
        obtain ⟨cq29, kq29, q29a, q29b, q29c⟩ := isOf hZ e28 E_b25
        obtain ⟨vr29, _, ⟨T29, L29, k29, n29⟩, -, X29, ⟨Lc29, hQ29, l29, y29, z29⟩, st29⟩ := X28.virtualBack hx (y := (⟨"com/example/thingstead/thingstead/mimir/Treasure", "hashCode", "()I"⟩ : MethodName)) (z := (⟨"com/example/thingstead/thingstead/mimir/Treasure", "hashCode", "()I"⟩ : MethodName)) hown (mvT hZ (hw _ (List.mem_of_getElem? (i := 46) rfl))) (mvT hZ (hw _ (List.mem_of_getElem? (i := 47) rfl))) (notFace_of_selects (args := #[]) (mvT hZ (hw _ (List.mem_of_getElem? (i := 49) rfl)))) (mvT hZ (hw _ (List.mem_of_getElem? (i := 49) rfl))) (mvT hZ (hw _ (List.mem_of_getElem? (i := 48) rfl))) (by decide) (backOf (W := 0) (rm_th2 l Z a0 hw [] b25 b26 p3 cs t27 kt27 ((c0).toInt8.toInt32) ((c1).toInt8.toInt32) T28.heap n0 O28 S_CS hcs E_b25 F_material_b25 F_points_b25 E_b26 F_value_b26 F_coder_b26 F_hash_b26 F_hashIsZero_b26 V_t27 fcB27 g_b26 ne_b25_b26) hZ (hw _ (List.mem_of_getElem? (i := 50) rfl)) (hw _ (List.mem_of_getElem? (i := 3) rfl)) (by decide) (by decide)) q29a q29c (g := (mkF m 161 #[.val (.int p1), .val (.int p2), .val (.int p3), .val (.int (p2 &&& (3 : Int32))), .val (.int c0), .val (.int c1), .val (.int c2), .val (.ref b20), .val (.int (((31 : Int32) * c0) + c1)), .val (.ref b25)] [(.ref b25)])) rfl (by rw [hml]; rfl) (Steps.refl _) (argsL := []) (rest := []) (lenOf pd_4 rfl) rfl (by show 2 * 0 + _ ≤ _; exact Nat.le_of_eq rfl) (hb hby at_161) (fun _ _ => ⟨rfl, e28, (nle rfl), (nle rfl)⟩)
        dsimp only [Pt.U, Pt.locs, Pt.cells, Pt.slots] at X29 l29 y29 z29 st29 hQ29
        subst l29 y29 z29
        obtain ⟨rfl, N29q, K29⟩ := hQ29
        have N29 := Fr.app N28 N29q
        have e29 : T29.heap = T29.heap := rfl
        have O29 := O28.keep K29 (allS g_b26 all0)
        have hk := Nat.le_trans hk K29.1
        have sfw : ∀ x ∈ [b26], Safe Z own_EL s.vm T28.heap x := (sfS SF_b26 sf0)
        have SF_b20 := Safe.keep K29 sfw hC.1 SF_b20
        have SF_b25 := Safe.keep K29 sfw hC.1 SF_b25
        have SF_b26 := Safe.keep K29 sfw hC.1 SF_b26
        have hC := hC.trans (CHr.keep K29 sfw hC.1)
        have E_b20 : Exa Z T29.heap b20 "[C" := E_b20.keep K29
        have V_b20 : Arv Z T29.heap b20 k20 .char (2 : Int32) [(.int c0), (.int c1)] (.int (0 : Int32)) := V_b20.keep K29 (ninS ne_b20_b26 nin0)
        have E_b25 : Exa Z T29.heap b25 "com/example/thingstead/thingstead/mimir/Treasure" := E_b25.keep K29
        have E_b26 : Exa Z T29.heap b26 "java/lang/String" := E_b26.keep K29
        have V_t27 : Arv Z T29.heap t27 kt27 .byte (2 : Int32) [(.int (c0).toInt8.toInt32), (.int (c1).toInt8.toInt32)] (.int (0 : Int32)) := V_t27.keep K29 (ninS (Ne.symm ne_b26_t27) nin0)
        have F_material_b25 : Fld Z T29.heap b25 "com/example/thingstead/thingstead/mimir/Treasure" "material" "Ljava/lang/String;" (.ref b26) := F_material_b25.keep K29 (ninS ne_b25_b26 nin0)
        have F_points_b25 : Fld Z T29.heap b25 "com/example/thingstead/thingstead/mimir/Treasure" "points" "I" (.int p3) := F_points_b25.keep K29 (ninS ne_b25_b26 nin0)
        refine goT (n := 164) (Ls' := #[.val (.int p1), .val (.int p2), .val (.int p3), .val (.int (p2 &&& (3 : Int32))), .val (.int c0), .val (.int c1), .val (.int c2), .val (.ref b20), .val (.int (((31 : Int32) * c0) + c1)), .val (.ref b25)]) (st' := [(.int (((31 : Int32) * (((31 : Int32) * (((31 : Int32) * (0 : Int32)) + ((c0).toInt8.toInt32 &&& (255 : Int32)))) + ((c1).toInt8.toInt32 &&& (255 : Int32)))) + p3))]) st29 ?_
        refine goS (n := 166) (Ls' := #[.val (.int p1), .val (.int p2), .val (.int p3), .val (.int (p2 &&& (3 : Int32))), .val (.int c0), .val (.int c1), .val (.int c2), .val (.ref b20), .val (.int (((31 : Int32) * c0) + c1)), .val (.ref b25)]) (st' := [(.int (31 : Int32)), (.int (((31 : Int32) * (((31 : Int32) * (((31 : Int32) * (0 : Int32)) + ((c0).toInt8.toInt32 &&& (255 : Int32)))) + ((c1).toInt8.toInt32 &&& (255 : Int32)))) + p3))]) (fun _ kz => XS.bipush X29.here hx rfl (hb hby at_164) kz) ?_
        refine goS (n := 168) (Ls' := #[.val (.int p1), .val (.int p2), .val (.int p3), .val (.int (p2 &&& (3 : Int32))), .val (.int c0), .val (.int c1), .val (.int c2), .val (.ref b20), .val (.int (((31 : Int32) * c0) + c1)), .val (.ref b25)]) (st' := [(.int (((31 : Int32) * c0) + c1)), (.int (31 : Int32)), (.int (((31 : Int32) * (((31 : Int32) * (((31 : Int32) * (0 : Int32)) + ((c0).toInt8.toInt32 &&& (255 : Int32)))) + ((c1).toInt8.toInt32 &&& (255 : Int32)))) + p3))]) (fun _ kz => XS.iload X29.here hx rfl (hb hby at_166) rfl kz) ?_
        refine goS (n := 169) (Ls' := #[.val (.int p1), .val (.int p2), .val (.int p3), .val (.int (p2 &&& (3 : Int32))), .val (.int c0), .val (.int c1), .val (.int c2), .val (.ref b20), .val (.int (((31 : Int32) * c0) + c1)), .val (.ref b25)]) (st' := [(.int ((31 : Int32) * (((31 : Int32) * c0) + c1))), (.int (((31 : Int32) * (((31 : Int32) * (((31 : Int32) * (0 : Int32)) + ((c0).toInt8.toInt32 &&& (255 : Int32)))) + ((c1).toInt8.toInt32 &&& (255 : Int32)))) + p3))]) (fun _ kz => XS.imul X29.here hx rfl (hb hby at_168) rfl kz) ?_
        refine goS (n := 170) (Ls' := #[.val (.int p1), .val (.int p2), .val (.int p3), .val (.int (p2 &&& (3 : Int32))), .val (.int c0), .val (.int c1), .val (.int c2), .val (.ref b20), .val (.int (((31 : Int32) * c0) + c1)), .val (.ref b25)]) (st' := [(.int p3), (.int ((31 : Int32) * (((31 : Int32) * c0) + c1))), (.int (((31 : Int32) * (((31 : Int32) * (((31 : Int32) * (0 : Int32)) + ((c0).toInt8.toInt32 &&& (255 : Int32)))) + ((c1).toInt8.toInt32 &&& (255 : Int32)))) + p3))]) (fun _ kz => XS.iloadN X29.here hx rfl (hb hby at_169) rfl kz) ?_
        refine goS (n := 171) (Ls' := #[.val (.int p1), .val (.int p2), .val (.int p3), .val (.int (p2 &&& (3 : Int32))), .val (.int c0), .val (.int c1), .val (.int c2), .val (.ref b20), .val (.int (((31 : Int32) * c0) + c1)), .val (.ref b25)]) (st' := [(.int (((31 : Int32) * (((31 : Int32) * c0) + c1)) + p3)), (.int (((31 : Int32) * (((31 : Int32) * (((31 : Int32) * (0 : Int32)) + ((c0).toInt8.toInt32 &&& (255 : Int32)))) + ((c1).toInt8.toInt32 &&& (255 : Int32)))) + p3))]) (fun _ kz => XS.iadd X29.here hx rfl (hb hby at_170) rfl kz) ?_
        refine goS (n := 174) (Ls' := #[.val (.int p1), .val (.int p2), .val (.int p3), .val (.int (p2 &&& (3 : Int32))), .val (.int c0), .val (.int c1), .val (.int c2), .val (.ref b20), .val (.int (((31 : Int32) * c0) + c1)), .val (.ref b25)]) (st' := []) (fun _ kz => XS.icmpNo X29.here hx rfl (hb hby at_171) rfl (teq hE29).2 kz) ?_
        refine goS (n := 175) (Ls' := #[.val (.int p1), .val (.int p2), .val (.int p3), .val (.int (p2 &&& (3 : Int32))), .val (.int c0), .val (.int c1), .val (.int c2), .val (.ref b20), .val (.int (((31 : Int32) * c0) + c1)), .val (.ref b25)]) (st' := [(.int (1 : Int32))]) (fun _ kz => XS.iconst X29.here hx rfl (hb hby at_174) kz) ?_
        refine goS (n := 179) (Ls' := #[.val (.int p1), .val (.int p2), .val (.int p3), .val (.int (p2 &&& (3 : Int32))), .val (.int c0), .val (.int c1), .val (.int c2), .val (.ref b20), .val (.int (((31 : Int32) * c0) + c1)), .val (.ref b25)]) (st' := [(.int (1 : Int32))]) (fun _ kz => XS.goto X29.here hx rfl (pc0 := 175) (pc' := 179) rfl (hb hby at_175) (by decide) (by decide) kz) ?_
        exact goRetH X29 hx hlk hS (by rw [e29]; exact hk) hZ hEL (by rw [hh, e29]; exact hC) Bd.returns (narZ (Or.inr rfl)) (Or.inl ⟨rfl, Or.inr (Or.inl rfl), _, rfl⟩) (hb hby at_179) (nle rfl) (nle rfl) (by rw [e29]; exact ⟨rfl, N29⟩)
      · refine goS (n := 104) (Ls' := #[.val (.int p1), .val (.int p2), .val (.int p3), .val (.int (p2 &&& (3 : Int32))), .val (.int c0), .val (.int c1), .val (.int c2), .unset, .unset, .unset]) (st' := []) (fun _ kz => XS.icmpYes X0.here hx rfl (pc0 := 73) (pc' := 104) rfl (hb hby at_73) rfl (feq hc19).2 (by decide) (by decide) kz) ?_
        refine goS (n := 105) (Ls' := #[.val (.int p1), .val (.int p2), .val (.int p3), .val (.int (p2 &&& (3 : Int32))), .val (.int c0), .val (.int c1), .val (.int c2), .unset, .unset, .unset]) (st' := [(.int (3 : Int32))]) (fun _ kz => XS.iconst X0.here hx rfl (hb hby at_104) kz) ?_
        obtain ⟨T30, h30, k30, X30, e30, E30, A30, Ex30, st30⟩ := newPE X0 hx hZ (hw _ (List.mem_of_getElem? (i := 0) rfl)) e0 (g := (mkF m 105 #[.val (.int p1), .val (.int p2), .val (.int p3), .val (.int (p2 &&& (3 : Int32))), .val (.int c0), .val (.int c1), .val (.int c2), .unset, .unset, .unset] [(.int (3 : Int32))])) rfl (hb hby at_105) rfl (by decide) (cap := 3) (by decide) (by decide) (nle rfl) (nle rfl) (ad := "[C") (by decide +kernel)
        obtain ⟨b30, g30⟩ : ∃ z, z = h0.size := ⟨_, rfl⟩
        rw [← g30] at A30 st30 Ex30
        have g_b30 : n0 ≤ b30 := Nat.le_trans (O0.1 ▸ O0.2.1) (Nat.le_of_eq g30.symm)
        have SF_b30 : Safe Z own_EL s.vm h0 b30 := Safe.new (Nat.le_of_eq g30.symm)
        have hk := Nat.le_trans hk E30.1
        have SF_b30 := Safe.ext E30 hC.1 SF_b30
        have hC := hC.trans (CHr.ext E30 hC.1)
        have E_b30 : Exa Z h30 b30 "[C" := Ex30
        have V_b30 : Arv Z h30 b30 k30 .char (3 : Int32) [(.int (0 : Int32)), (.int (0 : Int32)), (.int (0 : Int32))] (.int (0 : Int32)) := (Arv.new A30 (by decide)).pad (pad_rep [] (.int (0 : Int32)) 3)
        have O30 := O0.ext E30
        refine goS (n := 107) (Ls' := #[.val (.int p1), .val (.int p2), .val (.int p3), .val (.int (p2 &&& (3 : Int32))), .val (.int c0), .val (.int c1), .val (.int c2), .unset, .unset, .unset]) (st' := [(.ref b30)]) st30 ?_
        refine goS (n := 108) (Ls' := #[.val (.int p1), .val (.int p2), .val (.int p3), .val (.int (p2 &&& (3 : Int32))), .val (.int c0), .val (.int c1), .val (.int c2), .unset, .unset, .unset]) (st' := [(.ref b30), (.ref b30)]) (fun _ kz => XS.dup X30.here hx rfl (hb hby at_107) rfl rfl kz) ?_
        refine goS (n := 109) (Ls' := #[.val (.int p1), .val (.int p2), .val (.int p3), .val (.int (p2 &&& (3 : Int32))), .val (.int c0), .val (.int c1), .val (.int c2), .unset, .unset, .unset]) (st' := [(.int (0 : Int32)), (.ref b30), (.ref b30)]) (fun _ kz => XS.iconst X30.here hx rfl (hb hby at_108) kz) ?_
        refine goS (n := 111) (Ls' := #[.val (.int p1), .val (.int p2), .val (.int p3), .val (.int (p2 &&& (3 : Int32))), .val (.int c0), .val (.int c1), .val (.int c2), .unset, .unset, .unset]) (st' := [(.int c0), (.int (0 : Int32)), (.ref b30), (.ref b30)]) (fun _ kz => XS.iload X30.here hx rfl (hb hby at_109) rfl kz) ?_
        obtain ⟨cl31, Ar31, q31, S31, Nn31, H31, G31⟩ := V_b30
        have hin31 : ¬ ((0 : Int32) < 0 ∨ cl31.slots.size ≤ ((0 : Int32)).toNatClampNeg) := inb_of S31 ⟨by decide, by decide⟩
        obtain ⟨T32, h32, X32, e32, W32, st32⟩ := stC X30 hx hZ e30 Ar31 (j := (0 : Int32)) hin31 (g := (mkF m 111 #[.val (.int p1), .val (.int p2), .val (.int p3), .val (.int (p2 &&& (3 : Int32))), .val (.int c0), .val (.int c1), .val (.int c2), .unset, .unset, .unset] [(.int c0), (.int (0 : Int32)), (.ref b30), (.ref b30)])) rfl rfl (hb hby at_111)
        rw [(own_narC _ r_c0)] at W32
        have fz32 : fits .char (.int c0) = true := by have q := fits_nar_char c0; rw [(own_narC _ r_c0)] at q; exact q
        have hk := Nat.le_trans hk (Keep.of_wr W32).1
        have sfw := SF_b30
        have SF_b30 := Safe.wr W32 sfw hC.1 SF_b30
        have hC := hC.trans (CHr.wr W32 sfw hC.1)
        have E_b30 : Exa Z h32 b30 "[C" := E_b30.wr W32
        have V_b30 : Arv Z h32 b30 k30 .char (3 : Int32) [(.int c0), (.int (0 : Int32)), (.int (0 : Int32))] (.int (0 : Int32)) := Arv.set Ar31 q31 S31 Nn31 H31 G31 fz32 W32 0 rfl (Nat.le_of_ble_eq_true rfl)
        have N32 := Fr.snoc X32 N0 g_b30
        have O32 := O30.wr W32 g_b30
        refine goS (n := 112) (Ls' := #[.val (.int p1), .val (.int p2), .val (.int p3), .val (.int (p2 &&& (3 : Int32))), .val (.int c0), .val (.int c1), .val (.int c2), .unset, .unset, .unset]) (st' := [(.ref b30)]) st32 ?_
        refine goS (n := 113) (Ls' := #[.val (.int p1), .val (.int p2), .val (.int p3), .val (.int (p2 &&& (3 : Int32))), .val (.int c0), .val (.int c1), .val (.int c2), .unset, .unset, .unset]) (st' := [(.ref b30), (.ref b30)]) (fun _ kz => XS.dup X32.here hx rfl (hb hby at_112) rfl rfl kz) ?_
        refine goS (n := 114) (Ls' := #[.val (.int p1), .val (.int p2), .val (.int p3), .val (.int (p2 &&& (3 : Int32))), .val (.int c0), .val (.int c1), .val (.int c2), .unset, .unset, .unset]) (st' := [(.int (1 : Int32)), (.ref b30), (.ref b30)]) (fun _ kz => XS.iconst X32.here hx rfl (hb hby at_113) kz) ?_
        refine goS (n := 116) (Ls' := #[.val (.int p1), .val (.int p2), .val (.int p3), .val (.int (p2 &&& (3 : Int32))), .val (.int c0), .val (.int c1), .val (.int c2), .unset, .unset, .unset]) (st' := [(.int c1), (.int (1 : Int32)), (.ref b30), (.ref b30)]) (fun _ kz => XS.iload X32.here hx rfl (hb hby at_114) rfl kz) ?_
        obtain ⟨cl33, Ar33, q33, S33, Nn33, H33, G33⟩ := V_b30
        have hin33 : ¬ ((1 : Int32) < 0 ∨ cl33.slots.size ≤ ((1 : Int32)).toNatClampNeg) := inb_of S33 ⟨by decide, by decide⟩
        obtain ⟨T34, h34, X34, e34, W34, st34⟩ := stC X32 hx hZ e32 Ar33 (j := (1 : Int32)) hin33 (g := (mkF m 116 #[.val (.int p1), .val (.int p2), .val (.int p3), .val (.int (p2 &&& (3 : Int32))), .val (.int c0), .val (.int c1), .val (.int c2), .unset, .unset, .unset] [(.int c1), (.int (1 : Int32)), (.ref b30), (.ref b30)])) rfl rfl (hb hby at_116)
        rw [(own_narC _ r_c1)] at W34
        have fz34 : fits .char (.int c1) = true := by have q := fits_nar_char c1; rw [(own_narC _ r_c1)] at q; exact q
        have hk := Nat.le_trans hk (Keep.of_wr W34).1
        have sfw := SF_b30
        have SF_b30 := Safe.wr W34 sfw hC.1 SF_b30
        have hC := hC.trans (CHr.wr W34 sfw hC.1)
        have E_b30 : Exa Z h34 b30 "[C" := E_b30.wr W34
        have V_b30 : Arv Z h34 b30 k30 .char (3 : Int32) [(.int c0), (.int c1), (.int (0 : Int32))] (.int (0 : Int32)) := Arv.set Ar33 q33 S33 Nn33 H33 G33 fz34 W34 1 rfl (Nat.le_of_ble_eq_true rfl)
        have N34 := Fr.snoc X34 N32 g_b30
        have O34 := O32.wr W34 g_b30
        refine goS (n := 117) (Ls' := #[.val (.int p1), .val (.int p2), .val (.int p3), .val (.int (p2 &&& (3 : Int32))), .val (.int c0), .val (.int c1), .val (.int c2), .unset, .unset, .unset]) (st' := [(.ref b30)]) st34 ?_
        refine goS (n := 118) (Ls' := #[.val (.int p1), .val (.int p2), .val (.int p3), .val (.int (p2 &&& (3 : Int32))), .val (.int c0), .val (.int c1), .val (.int c2), .unset, .unset, .unset]) (st' := [(.ref b30), (.ref b30)]) (fun _ kz => XS.dup X34.here hx rfl (hb hby at_117) rfl rfl kz) ?_
        refine goS (n := 119) (Ls' := #[.val (.int p1), .val (.int p2), .val (.int p3), .val (.int (p2 &&& (3 : Int32))), .val (.int c0), .val (.int c1), .val (.int c2), .unset, .unset, .unset]) (st' := [(.int (2 : Int32)), (.ref b30), (.ref b30)]) (fun _ kz => XS.iconst X34.here hx rfl (hb hby at_118) kz) ?_
        refine goS (n := 121) (Ls' := #[.val (.int p1), .val (.int p2), .val (.int p3), .val (.int (p2 &&& (3 : Int32))), .val (.int c0), .val (.int c1), .val (.int c2), .unset, .unset, .unset]) (st' := [(.int c2), (.int (2 : Int32)), (.ref b30), (.ref b30)]) (fun _ kz => XS.iload X34.here hx rfl (hb hby at_119) rfl kz) ?_
        obtain ⟨cl35, Ar35, q35, S35, Nn35, H35, G35⟩ := V_b30
        have hin35 : ¬ ((2 : Int32) < 0 ∨ cl35.slots.size ≤ ((2 : Int32)).toNatClampNeg) := inb_of S35 ⟨by decide, by decide⟩
        obtain ⟨T36, h36, X36, e36, W36, st36⟩ := stC X34 hx hZ e34 Ar35 (j := (2 : Int32)) hin35 (g := (mkF m 121 #[.val (.int p1), .val (.int p2), .val (.int p3), .val (.int (p2 &&& (3 : Int32))), .val (.int c0), .val (.int c1), .val (.int c2), .unset, .unset, .unset] [(.int c2), (.int (2 : Int32)), (.ref b30), (.ref b30)])) rfl rfl (hb hby at_121)
        rw [(own_narC _ r_c2)] at W36
        have fz36 : fits .char (.int c2) = true := by have q := fits_nar_char c2; rw [(own_narC _ r_c2)] at q; exact q
        have hk := Nat.le_trans hk (Keep.of_wr W36).1
        have sfw := SF_b30
        have SF_b30 := Safe.wr W36 sfw hC.1 SF_b30
        have hC := hC.trans (CHr.wr W36 sfw hC.1)
        have E_b30 : Exa Z h36 b30 "[C" := E_b30.wr W36
        have V_b30 : Arv Z h36 b30 k30 .char (3 : Int32) [(.int c0), (.int c1), (.int c2)] (.int (0 : Int32)) := Arv.set Ar35 q35 S35 Nn35 H35 G35 fz36 W36 2 rfl (Nat.le_of_ble_eq_true rfl)
        have N36 := Fr.snoc X36 N34 g_b30
        have O36 := O34.wr W36 g_b30
        refine goS (n := 122) (Ls' := #[.val (.int p1), .val (.int p2), .val (.int p3), .val (.int (p2 &&& (3 : Int32))), .val (.int c0), .val (.int c1), .val (.int c2), .unset, .unset, .unset]) (st' := [(.ref b30)]) st36 ?_
        refine goS (n := 124) (Ls' := #[.val (.int p1), .val (.int p2), .val (.int p3), .val (.int (p2 &&& (3 : Int32))), .val (.int c0), .val (.int c1), .val (.int c2), .val (.ref b30), .unset, .unset]) (st' := []) (fun _ kz => XS.astore X36.here hx rfl (hb hby at_122) rfl rfl (l' := #[.val (.int p1), .val (.int p2), .val (.int p3), .val (.int (p2 &&& (3 : Int32))), .val (.int c0), .val (.int c1), .val (.int c2), .val (.ref b30), .unset, .unset]) rfl kz) ?_
        refine goS (n := 126) (Ls' := #[.val (.int p1), .val (.int p2), .val (.int p3), .val (.int (p2 &&& (3 : Int32))), .val (.int c0), .val (.int c1), .val (.int c2), .val (.ref b30), .unset, .unset]) (st' := [(.int (31 : Int32))]) (fun _ kz => XS.bipush X36.here hx rfl (hb hby at_124) kz) ?_
        refine goS (n := 128) (Ls' := #[.val (.int p1), .val (.int p2), .val (.int p3), .val (.int (p2 &&& (3 : Int32))), .val (.int c0), .val (.int c1), .val (.int c2), .val (.ref b30), .unset, .unset]) (st' := [(.int (31 : Int32)), (.int (31 : Int32))]) (fun _ kz => XS.bipush X36.here hx rfl (hb hby at_126) kz) ?_
        refine goS (n := 130) (Ls' := #[.val (.int p1), .val (.int p2), .val (.int p3), .val (.int (p2 &&& (3 : Int32))), .val (.int c0), .val (.int c1), .val (.int c2), .val (.ref b30), .unset, .unset]) (st' := [(.int c0), (.int (31 : Int32)), (.int (31 : Int32))]) (fun _ kz => XS.iload X36.here hx rfl (hb hby at_128) rfl kz) ?_
        refine goS (n := 131) (Ls' := #[.val (.int p1), .val (.int p2), .val (.int p3), .val (.int (p2 &&& (3 : Int32))), .val (.int c0), .val (.int c1), .val (.int c2), .val (.ref b30), .unset, .unset]) (st' := [(.int ((31 : Int32) * c0)), (.int (31 : Int32))]) (fun _ kz => XS.imul X36.here hx rfl (hb hby at_130) rfl kz) ?_
        refine goS (n := 133) (Ls' := #[.val (.int p1), .val (.int p2), .val (.int p3), .val (.int (p2 &&& (3 : Int32))), .val (.int c0), .val (.int c1), .val (.int c2), .val (.ref b30), .unset, .unset]) (st' := [(.int c1), (.int ((31 : Int32) * c0)), (.int (31 : Int32))]) (fun _ kz => XS.iload X36.here hx rfl (hb hby at_131) rfl kz) ?_
        refine goS (n := 134) (Ls' := #[.val (.int p1), .val (.int p2), .val (.int p3), .val (.int (p2 &&& (3 : Int32))), .val (.int c0), .val (.int c1), .val (.int c2), .val (.ref b30), .unset, .unset]) (st' := [(.int (((31 : Int32) * c0) + c1)), (.int (31 : Int32))]) (fun _ kz => XS.iadd X36.here hx rfl (hb hby at_133) rfl kz) ?_
        refine goS (n := 135) (Ls' := #[.val (.int p1), .val (.int p2), .val (.int p3), .val (.int (p2 &&& (3 : Int32))), .val (.int c0), .val (.int c1), .val (.int c2), .val (.ref b30), .unset, .unset]) (st' := [(.int ((31 : Int32) * (((31 : Int32) * c0) + c1)))]) (fun _ kz => XS.imul X36.here hx rfl (hb hby at_134) rfl kz) ?_
        refine goS (n := 137) (Ls' := #[.val (.int p1), .val (.int p2), .val (.int p3), .val (.int (p2 &&& (3 : Int32))), .val (.int c0), .val (.int c1), .val (.int c2), .val (.ref b30), .unset, .unset]) (st' := [(.int c2), (.int ((31 : Int32) * (((31 : Int32) * c0) + c1)))]) (fun _ kz => XS.iload X36.here hx rfl (hb hby at_135) rfl kz) ?_
        refine goS (n := 138) (Ls' := #[.val (.int p1), .val (.int p2), .val (.int p3), .val (.int (p2 &&& (3 : Int32))), .val (.int c0), .val (.int c1), .val (.int c2), .val (.ref b30), .unset, .unset]) (st' := [(.int (((31 : Int32) * (((31 : Int32) * c0) + c1)) + c2))]) (fun _ kz => XS.iadd X36.here hx rfl (hb hby at_137) rfl kz) ?_
        refine goS (n := 140) (Ls' := #[.val (.int p1), .val (.int p2), .val (.int p3), .val (.int (p2 &&& (3 : Int32))), .val (.int c0), .val (.int c1), .val (.int c2), .val (.ref b30), .val (.int (((31 : Int32) * (((31 : Int32) * c0) + c1)) + c2)), .unset]) (st' := []) (fun _ kz => XS.istore X36.here hx rfl (hb hby at_138) rfl (l' := #[.val (.int p1), .val (.int p2), .val (.int p3), .val (.int (p2 &&& (3 : Int32))), .val (.int c0), .val (.int c1), .val (.int c2), .val (.ref b30), .val (.int (((31 : Int32) * (((31 : Int32) * c0) + c1)) + c2)), .unset]) rfl kz) ?_
        obtain ⟨T37, h37, X37, e37, E37, A37, D37, -, st37⟩ := newO X36 hx hZ hown (hw _ (List.mem_of_getElem? (i := 1) rfl)) (hw _ (List.mem_of_getElem? (i := 2) rfl)) (hw _ (List.mem_of_getElem? (i := 3) rfl)) e36 (g := (mkF m 140 #[.val (.int p1), .val (.int p2), .val (.int p3), .val (.int (p2 &&& (3 : Int32))), .val (.int c0), .val (.int c1), .val (.int c2), .val (.ref b30), .val (.int (((31 : Int32) * (((31 : Int32) * c0) + c1)) + c2)), .unset] [])) rfl (hb hby at_140) (nle rfl) (nle rfl)
        obtain ⟨b37, g37⟩ : ∃ z, z = h36.size := ⟨_, rfl⟩
        rw [← g37] at A37 D37 st37
        have g_b37 : n0 ≤ b37 := Nat.le_trans (O36.1 ▸ O36.2.1) (Nat.le_of_eq g37.symm)
        have SF_b37 : Safe Z own_EL s.vm h36 b37 := Safe.new (Nat.le_of_eq g37.symm)
        have ne_b30_b37 : b30 ≠ b37 := Nat.ne_of_lt (Nat.lt_of_lt_of_le E_b30.lt (Nat.le_of_eq g37.symm))
        have hk := Nat.le_trans hk E37.1
        have SF_b30 := Safe.ext E37 hC.1 SF_b30
        have SF_b37 := Safe.ext E37 hC.1 SF_b37
        have hC := hC.trans (CHr.ext E37 hC.1)
        have E_b30 : Exa Z h37 b30 "[C" := E_b30.ext E37
        have V_b30 : Arv Z h37 b30 k30 .char (3 : Int32) [(.int c0), (.int c1), (.int c2)] (.int (0 : Int32)) := V_b30.ext E37
        have F_material_b37 : Fld Z h37 b37 "com/example/thingstead/thingstead/mimir/Treasure" "material" "Ljava/lang/String;" .null := D37 (Or.inr (hw _ (List.mem_of_getElem? (i := 43) rfl))) (ty := (.object "java/lang/String")) (by decide)
        have F_points_b37 : Fld Z h37 b37 "com/example/thingstead/thingstead/mimir/Treasure" "points" "I" (.int (0 : Int32)) := D37 (Or.inr (hw _ (List.mem_of_getElem? (i := 45) rfl))) (ty := .int) (by decide)
        have E_b37 : Exa Z h37 b37 "com/example/thingstead/thingstead/mimir/Treasure" := A37
        have O37 := O36.ext E37
        refine goS (n := 143) (Ls' := #[.val (.int p1), .val (.int p2), .val (.int p3), .val (.int (p2 &&& (3 : Int32))), .val (.int c0), .val (.int c1), .val (.int c2), .val (.ref b30), .val (.int (((31 : Int32) * (((31 : Int32) * c0) + c1)) + c2)), .unset]) (st' := [(.ref b37)]) st37 ?_
        refine goS (n := 144) (Ls' := #[.val (.int p1), .val (.int p2), .val (.int p3), .val (.int (p2 &&& (3 : Int32))), .val (.int c0), .val (.int c1), .val (.int c2), .val (.ref b30), .val (.int (((31 : Int32) * (((31 : Int32) * c0) + c1)) + c2)), .unset]) (st' := [(.ref b37), (.ref b37)]) (fun _ kz => XS.dup X37.here hx rfl (hb hby at_143) rfl rfl kz) ?_
        obtain ⟨T38, h38, X38, e38, E38, A38, D38, -, st38⟩ := newO X37 hx hZ hown (hw _ (List.mem_of_getElem? (i := 4) rfl)) (hw _ (List.mem_of_getElem? (i := 5) rfl)) (hw _ (List.mem_of_getElem? (i := 6) rfl)) e37 (g := (mkF m 144 #[.val (.int p1), .val (.int p2), .val (.int p3), .val (.int (p2 &&& (3 : Int32))), .val (.int c0), .val (.int c1), .val (.int c2), .val (.ref b30), .val (.int (((31 : Int32) * (((31 : Int32) * c0) + c1)) + c2)), .unset] [(.ref b37), (.ref b37)])) rfl (hb hby at_144) (nle rfl) (nle rfl)
        obtain ⟨b38, g38⟩ : ∃ z, z = h37.size := ⟨_, rfl⟩
        rw [← g38] at A38 D38 st38
        have g_b38 : n0 ≤ b38 := Nat.le_trans (O37.1 ▸ O37.2.1) (Nat.le_of_eq g38.symm)
        have SF_b38 : Safe Z own_EL s.vm h37 b38 := Safe.new (Nat.le_of_eq g38.symm)
        have ne_b30_b38 : b30 ≠ b38 := Nat.ne_of_lt (Nat.lt_of_lt_of_le E_b30.lt (Nat.le_of_eq g38.symm))
        have ne_b37_b38 : b37 ≠ b38 := Nat.ne_of_lt (Nat.lt_of_lt_of_le E_b37.lt (Nat.le_of_eq g38.symm))
        have hk := Nat.le_trans hk E38.1
        have SF_b30 := Safe.ext E38 hC.1 SF_b30
        have SF_b37 := Safe.ext E38 hC.1 SF_b37
        have SF_b38 := Safe.ext E38 hC.1 SF_b38
        have hC := hC.trans (CHr.ext E38 hC.1)
        have E_b30 : Exa Z h38 b30 "[C" := E_b30.ext E38
        have V_b30 : Arv Z h38 b30 k30 .char (3 : Int32) [(.int c0), (.int c1), (.int c2)] (.int (0 : Int32)) := V_b30.ext E38
        have F_material_b37 : Fld Z h38 b37 "com/example/thingstead/thingstead/mimir/Treasure" "material" "Ljava/lang/String;" .null := F_material_b37.ext E38
        have F_points_b37 : Fld Z h38 b37 "com/example/thingstead/thingstead/mimir/Treasure" "points" "I" (.int (0 : Int32)) := F_points_b37.ext E38
        have E_b37 : Exa Z h38 b37 "com/example/thingstead/thingstead/mimir/Treasure" := E_b37.ext E38
        have F_coder_b38 : Fld Z h38 b38 "java/lang/String" "coder" "B" (.int (0 : Int32)) := D38 (Or.inr (hw _ (List.mem_of_getElem? (i := 30) rfl))) (ty := .byte) (by decide)
        have F_value_b38 : Fld Z h38 b38 "java/lang/String" "value" "[B" .null := D38 (Or.inr (hw _ (List.mem_of_getElem? (i := 32) rfl))) (ty := (.array .byte)) (by decide)
        have F_hash_b38 : Fld Z h38 b38 "java/lang/String" "hash" "I" (.int (0 : Int32)) := D38 (Or.inl (hw _ (List.mem_of_getElem? (i := 57) rfl))) (ty := .int) (by decide)
        have F_hashIsZero_b38 : Fld Z h38 b38 "java/lang/String" "hashIsZero" "Z" (.int (0 : Int32)) := D38 (Or.inl (hw _ (List.mem_of_getElem? (i := 59) rfl))) (ty := .boolean) (by decide)
        have E_b38 : Exa Z h38 b38 "java/lang/String" := A38
        have O38 := O37.ext E38
        refine goS (n := 147) (Ls' := #[.val (.int p1), .val (.int p2), .val (.int p3), .val (.int (p2 &&& (3 : Int32))), .val (.int c0), .val (.int c1), .val (.int c2), .val (.ref b30), .val (.int (((31 : Int32) * (((31 : Int32) * c0) + c1)) + c2)), .unset]) (st' := [(.ref b38), (.ref b37), (.ref b37)]) st38 ?_
        refine goS (n := 148) (Ls' := #[.val (.int p1), .val (.int p2), .val (.int p3), .val (.int (p2 &&& (3 : Int32))), .val (.int c0), .val (.int c1), .val (.int c2), .val (.ref b30), .val (.int (((31 : Int32) * (((31 : Int32) * c0) + c1)) + c2)), .unset]) (st' := [(.ref b38), (.ref b38), (.ref b37), (.ref b37)]) (fun _ kz => XS.dup X38.here hx rfl (hb hby at_147) rfl rfl kz) ?_
        refine goS (n := 150) (Ls' := #[.val (.int p1), .val (.int p2), .val (.int p3), .val (.int (p2 &&& (3 : Int32))), .val (.int c0), .val (.int c1), .val (.int c2), .val (.ref b30), .val (.int (((31 : Int32) * (((31 : Int32) * c0) + c1)) + c2)), .unset]) (st' := [(.ref b30), (.ref b38), (.ref b38), (.ref b37), (.ref b37)]) (fun _ kz => XS.aload X38.here hx rfl (hb hby at_148) rfl rfl kz) ?_
        obtain ⟨vr39, _, ⟨T39, L39, k39, n39⟩, -, X39, ⟨Lc39, hQ39, l39, y39, z39⟩, st39⟩ := X38.specialBack hx (y := (⟨"java/lang/String", "<init>", "([C)V"⟩ : MethodName)) rfl hown (mvT hZ (hw _ (List.mem_of_getElem? (i := 7) rfl))) (mvT hZ (hw _ (List.mem_of_getElem? (i := 8) rfl))) (mvT hZ (hw _ (List.mem_of_getElem? (i := 9) rfl))) (by decide) (StrChars.Road.backArv (W := 3) hZ (own_words hw) (kI := 4) (hw _ (List.mem_of_getElem? (i := 5) rfl)) (cs := [c0, c1, c2]) E_b38 F_value_b38 F_coder_b38 V_b30 (S_CS.ext O38.2) hcs rfl (nle rfl) (nle rfl) (by intro c hc; simp only [List.mem_cons, List.not_mem_nil, or_false] at hc; rcases hc with rfl | rfl | rfl <;> first | exact r_c0.2 | exact r_c1.2 | exact r_c2.2) (by decide) (by decide)) (g := (mkF m 150 #[.val (.int p1), .val (.int p2), .val (.int p3), .val (.int (p2 &&& (3 : Int32))), .val (.int c0), .val (.int c1), .val (.int c2), .val (.ref b30), .val (.int (((31 : Int32) * (((31 : Int32) * c0) + c1)) + c2)), .unset] [(.ref b30), (.ref b38), (.ref b38), (.ref b37), (.ref b37)])) rfl (by rw [hml]; rfl) (Steps.refl _) (a := b38) (argsL := [(.ref b30)]) (rest := [(.ref b38), (.ref b37), (.ref b37)]) (lenOf pd_7 rfl) rfl (by show 2 * 0 + _ ≤ _; exact Nat.le_of_eq rfl) (hb hby at_150) (fun _ _ => ⟨rfl, e38, (nle rfl), (nle rfl)⟩)
        dsimp only [Pt.U, Pt.locs, Pt.cells, Pt.slots] at X39 l39 y39 z39 st39 hQ39
        subst l39 y39 z39
        obtain ⟨rfl, NL39, K39, -, -, F_value_b38, F_coder_b38, ⟨kt39, fcB39, V_t39⟩, ho39⟩ := hQ39
        have N39q : Fr n0 Lc39 := fun y hy => by rw [NL39 y hy]; exact g_b38
        obtain ⟨t39, gt39⟩ : ∃ z, z = h38.size := ⟨_, rfl⟩
        rw [← gt39] at F_value_b38 V_t39
        have zt39 : h38.size ≤ t39 := Nat.le_of_eq gt39.symm
        have F_hash_b38 := ho39 _ _ _ _ F_hash_b38 (slot_ne (Or.inl (hw _ (List.mem_of_getElem? (i := 57) rfl))) (Or.inr (hw _ (List.mem_of_getElem? (i := 32) rfl))) (by decide) (t := .int) (t' := .array .byte) (by decide) (by decide)) (slot_ne (Or.inl (hw _ (List.mem_of_getElem? (i := 57) rfl))) (Or.inr (hw _ (List.mem_of_getElem? (i := 30) rfl))) (by decide) (t := .int) (t' := .byte) (by decide) (by decide))
        have F_hashIsZero_b38 := ho39 _ _ _ _ F_hashIsZero_b38 (slot_ne (Or.inl (hw _ (List.mem_of_getElem? (i := 59) rfl))) (Or.inr (hw _ (List.mem_of_getElem? (i := 32) rfl))) (by decide) (t := .boolean) (t' := .array .byte) (by decide) (by decide)) (slot_ne (Or.inl (hw _ (List.mem_of_getElem? (i := 59) rfl))) (Or.inr (hw _ (List.mem_of_getElem? (i := 30) rfl))) (by decide) (t := .boolean) (t' := .byte) (by decide) (by decide))
        have ne_b30_t39 : b30 ≠ t39 := Nat.ne_of_lt (Nat.lt_of_lt_of_le E_b30.lt zt39)
        have ne_b37_t39 : b37 ≠ t39 := Nat.ne_of_lt (Nat.lt_of_lt_of_le E_b37.lt zt39)
        have ne_b38_t39 : b38 ≠ t39 := Nat.ne_of_lt (Nat.lt_of_lt_of_le E_b38.lt zt39)
        have V_t39 : Arv Z T39.heap t39 kt39 .byte (3 : Int32) [(.int (c0).toInt8.toInt32), (.int (c1).toInt8.toInt32), (.int (c2).toInt8.toInt32)] (.int (0 : Int32)) := V_t39
        have N39 := Fr.app N36 N39q
        have e39 : T39.heap = T39.heap := rfl
        have O39 := O38.keep K39 (allS g_b38 all0)
        have hk := Nat.le_trans hk K39.1
        have sfw : ∀ x ∈ [b38], Safe Z own_EL s.vm h38 x := (sfS SF_b38 sf0)
        have SF_b30 := Safe.keep K39 sfw hC.1 SF_b30
        have SF_b37 := Safe.keep K39 sfw hC.1 SF_b37
        have SF_b38 := Safe.keep K39 sfw hC.1 SF_b38
        have hC := hC.trans (CHr.keep K39 sfw hC.1)
        have E_b30 : Exa Z T39.heap b30 "[C" := E_b30.keep K39
        have V_b30 : Arv Z T39.heap b30 k30 .char (3 : Int32) [(.int c0), (.int c1), (.int c2)] (.int (0 : Int32)) := V_b30.keep K39 (ninS ne_b30_b38 nin0)
        have F_material_b37 : Fld Z T39.heap b37 "com/example/thingstead/thingstead/mimir/Treasure" "material" "Ljava/lang/String;" .null := F_material_b37.keep K39 (ninS ne_b37_b38 nin0)
        have F_points_b37 : Fld Z T39.heap b37 "com/example/thingstead/thingstead/mimir/Treasure" "points" "I" (.int (0 : Int32)) := F_points_b37.keep K39 (ninS ne_b37_b38 nin0)
        have E_b37 : Exa Z T39.heap b37 "com/example/thingstead/thingstead/mimir/Treasure" := E_b37.keep K39
        have E_b38 : Exa Z T39.heap b38 "java/lang/String" := E_b38.keep K39
        refine goT (n := 153) (Ls' := #[.val (.int p1), .val (.int p2), .val (.int p3), .val (.int (p2 &&& (3 : Int32))), .val (.int c0), .val (.int c1), .val (.int c2), .val (.ref b30), .val (.int (((31 : Int32) * (((31 : Int32) * c0) + c1)) + c2)), .unset]) (st' := [(.ref b38), (.ref b37), (.ref b37)]) st39 ?_
        refine goS (n := 154) (Ls' := #[.val (.int p1), .val (.int p2), .val (.int p3), .val (.int (p2 &&& (3 : Int32))), .val (.int c0), .val (.int c1), .val (.int c2), .val (.ref b30), .val (.int (((31 : Int32) * (((31 : Int32) * c0) + c1)) + c2)), .unset]) (st' := [(.int p3), (.ref b38), (.ref b37), (.ref b37)]) (fun _ kz => XS.iloadN X39.here hx rfl (hb hby at_153) rfl kz) ?_
        obtain ⟨vr40, _, ⟨T40, L40, k40, n40⟩, -, X40, ⟨Lc40, hQ40, l40, y40, z40⟩, st40⟩ := X39.specialBack hx (y := (⟨"com/example/thingstead/thingstead/mimir/Treasure", "<init>", "(Ljava/lang/String;I)V"⟩ : MethodName)) rfl hown (mvT hZ (hw _ (List.mem_of_getElem? (i := 33) rfl))) (mvT hZ (hw _ (List.mem_of_getElem? (i := 34) rfl))) (mvT hZ (hw _ (List.mem_of_getElem? (i := 35) rfl))) (by decide) (backOf (W := 1) (rm_init l Z a0 hw [] b37 b38 p3 T39.heap n0 O39 E_b37 F_material_b37 F_points_b37 g_b37) hZ (hw _ (List.mem_of_getElem? (i := 35) rfl)) (hw _ (List.mem_of_getElem? (i := 3) rfl)) (by decide) (by decide)) (g := (mkF m 154 #[.val (.int p1), .val (.int p2), .val (.int p3), .val (.int (p2 &&& (3 : Int32))), .val (.int c0), .val (.int c1), .val (.int c2), .val (.ref b30), .val (.int (((31 : Int32) * (((31 : Int32) * c0) + c1)) + c2)), .unset] [(.int p3), (.ref b38), (.ref b37), (.ref b37)])) rfl (by rw [hml]; rfl) (Steps.refl _) (a := b37) (argsL := [(.ref b38), (.int p3)]) (rest := [(.ref b37)]) (lenOf pd_8 rfl) rfl (by show 2 * 0 + _ ≤ _; exact Nat.le_of_eq rfl) (hb hby at_154) (fun _ _ => ⟨rfl, e39, (nle rfl), (nle rfl)⟩)
        dsimp only [Pt.U, Pt.locs, Pt.cells, Pt.slots] at X40 l40 y40 z40 st40 hQ40
        subst l40 y40 z40
        obtain ⟨rfl, N40q, K40, F_material_b37, F_points_b37⟩ := hQ40
        have N40 := Fr.app N39 N40q
        have e40 : T40.heap = T40.heap := rfl
        have O40 := O39.keep K40 (allS g_b37 all0)
        have hk := Nat.le_trans hk K40.1
        have sfw : ∀ x ∈ [b37], Safe Z own_EL s.vm T39.heap x := (sfS SF_b37 sf0)
        have SF_b30 := Safe.keep K40 sfw hC.1 SF_b30
        have SF_b37 := Safe.keep K40 sfw hC.1 SF_b37
        have SF_b38 := Safe.keep K40 sfw hC.1 SF_b38
        have hC := hC.trans (CHr.keep K40 sfw hC.1)
        have E_b30 : Exa Z T40.heap b30 "[C" := E_b30.keep K40
        have V_b30 : Arv Z T40.heap b30 k30 .char (3 : Int32) [(.int c0), (.int c1), (.int c2)] (.int (0 : Int32)) := V_b30.keep K40 (ninS ne_b30_b37 nin0)
        have E_b37 : Exa Z T40.heap b37 "com/example/thingstead/thingstead/mimir/Treasure" := E_b37.keep K40
        have E_b38 : Exa Z T40.heap b38 "java/lang/String" := E_b38.keep K40
        have F_value_b38 : Fld Z T40.heap b38 "java/lang/String" "value" "[B" (.ref t39) := F_value_b38.keep K40 (ninS (Ne.symm ne_b37_b38) nin0)
        have F_coder_b38 : Fld Z T40.heap b38 "java/lang/String" "coder" "B" (.int (0 : Int32)) := F_coder_b38.keep K40 (ninS (Ne.symm ne_b37_b38) nin0)
        have F_hash_b38 : Fld Z T40.heap b38 "java/lang/String" "hash" "I" (.int (0 : Int32)) := F_hash_b38.keep K40 (ninS (Ne.symm ne_b37_b38) nin0)
        have F_hashIsZero_b38 : Fld Z T40.heap b38 "java/lang/String" "hashIsZero" "Z" (.int (0 : Int32)) := F_hashIsZero_b38.keep K40 (ninS (Ne.symm ne_b37_b38) nin0)
        have V_t39 : Arv Z T40.heap t39 kt39 .byte (3 : Int32) [(.int (c0).toInt8.toInt32), (.int (c1).toInt8.toInt32), (.int (c2).toInt8.toInt32)] (.int (0 : Int32)) := V_t39.keep K40 (ninS (Ne.symm ne_b37_t39) nin0)
        refine goT (n := 157) (Ls' := #[.val (.int p1), .val (.int p2), .val (.int p3), .val (.int (p2 &&& (3 : Int32))), .val (.int c0), .val (.int c1), .val (.int c2), .val (.ref b30), .val (.int (((31 : Int32) * (((31 : Int32) * c0) + c1)) + c2)), .unset]) (st' := [(.ref b37)]) st40 ?_
        refine goS (n := 159) (Ls' := #[.val (.int p1), .val (.int p2), .val (.int p3), .val (.int (p2 &&& (3 : Int32))), .val (.int c0), .val (.int c1), .val (.int c2), .val (.ref b30), .val (.int (((31 : Int32) * (((31 : Int32) * c0) + c1)) + c2)), .val (.ref b37)]) (st' := []) (fun _ kz => XS.astore X40.here hx rfl (hb hby at_157) rfl rfl (l' := #[.val (.int p1), .val (.int p2), .val (.int p3), .val (.int (p2 &&& (3 : Int32))), .val (.int c0), .val (.int c1), .val (.int c2), .val (.ref b30), .val (.int (((31 : Int32) * (((31 : Int32) * c0) + c1)) + c2)), .val (.ref b37)]) rfl kz) ?_
        refine goS (n := 161) (Ls' := #[.val (.int p1), .val (.int p2), .val (.int p3), .val (.int (p2 &&& (3 : Int32))), .val (.int c0), .val (.int c1), .val (.int c2), .val (.ref b30), .val (.int (((31 : Int32) * (((31 : Int32) * c0) + c1)) + c2)), .val (.ref b37)]) (st' := [(.ref b37)]) (fun _ kz => XS.aload X40.here hx rfl (hb hby at_159) rfl rfl kz) ?_
        have hE41 : (((31 : Int32) * (((31 : Int32) * (((31 : Int32) * (((31 : Int32) * (0 : Int32)) + ((c0).toInt8.toInt32 &&& (255 : Int32)))) + ((c1).toInt8.toInt32 &&& (255 : Int32)))) + ((c2).toInt8.toInt32 &&& (255 : Int32)))) + p3) = (((31 : Int32) * (((31 : Int32) * (((31 : Int32) * c0) + c1)) + c2)) + p3) := by simp only [own_b c0 r_c0, own_b c1 r_c1, own_b c2 r_c2, Int32.mul_zero, Int32.zero_add]
        obtain ⟨cq41, kq41, q41a, q41b, q41c⟩ := isOf hZ e40 E_b37
        obtain ⟨vr41, _, ⟨T41, L41, k41, n41⟩, -, X41, ⟨Lc41, hQ41, l41, y41, z41⟩, st41⟩ := X40.virtualBack hx (y := (⟨"com/example/thingstead/thingstead/mimir/Treasure", "hashCode", "()I"⟩ : MethodName)) (z := (⟨"com/example/thingstead/thingstead/mimir/Treasure", "hashCode", "()I"⟩ : MethodName)) hown (mvT hZ (hw _ (List.mem_of_getElem? (i := 46) rfl))) (mvT hZ (hw _ (List.mem_of_getElem? (i := 47) rfl))) (notFace_of_selects (args := #[]) (mvT hZ (hw _ (List.mem_of_getElem? (i := 49) rfl)))) (mvT hZ (hw _ (List.mem_of_getElem? (i := 49) rfl))) (mvT hZ (hw _ (List.mem_of_getElem? (i := 48) rfl))) (by decide) (backOf (W := 0) (rm_th3 l Z a0 hw [] b37 b38 p3 cs t39 kt39 ((c0).toInt8.toInt32) ((c1).toInt8.toInt32) ((c2).toInt8.toInt32) T40.heap n0 O40 S_CS hcs E_b37 F_material_b37 F_points_b37 E_b38 F_value_b38 F_coder_b38 F_hash_b38 F_hashIsZero_b38 V_t39 fcB39 g_b38 ne_b37_b38) hZ (hw _ (List.mem_of_getElem? (i := 50) rfl)) (hw _ (List.mem_of_getElem? (i := 3) rfl)) (by decide) (by decide)) q41a q41c (g := (mkF m 161 #[.val (.int p1), .val (.int p2), .val (.int p3), .val (.int (p2 &&& (3 : Int32))), .val (.int c0), .val (.int c1), .val (.int c2), .val (.ref b30), .val (.int (((31 : Int32) * (((31 : Int32) * c0) + c1)) + c2)), .val (.ref b37)] [(.ref b37)])) rfl (by rw [hml]; rfl) (Steps.refl _) (argsL := []) (rest := []) (lenOf pd_4 rfl) rfl (by show 2 * 0 + _ ≤ _; exact Nat.le_of_eq rfl) (hb hby at_161) (fun _ _ => ⟨rfl, e40, (nle rfl), (nle rfl)⟩)
        dsimp only [Pt.U, Pt.locs, Pt.cells, Pt.slots] at X41 l41 y41 z41 st41 hQ41
        subst l41 y41 z41
        obtain ⟨rfl, N41q, K41⟩ := hQ41
        have N41 := Fr.app N40 N41q
        have e41 : T41.heap = T41.heap := rfl
        have O41 := O40.keep K41 (allS g_b38 all0)
        have hk := Nat.le_trans hk K41.1
        have sfw : ∀ x ∈ [b38], Safe Z own_EL s.vm T40.heap x := (sfS SF_b38 sf0)
        have SF_b30 := Safe.keep K41 sfw hC.1 SF_b30
        have SF_b37 := Safe.keep K41 sfw hC.1 SF_b37
        have SF_b38 := Safe.keep K41 sfw hC.1 SF_b38
        have hC := hC.trans (CHr.keep K41 sfw hC.1)
        have E_b30 : Exa Z T41.heap b30 "[C" := E_b30.keep K41
        have V_b30 : Arv Z T41.heap b30 k30 .char (3 : Int32) [(.int c0), (.int c1), (.int c2)] (.int (0 : Int32)) := V_b30.keep K41 (ninS ne_b30_b38 nin0)
        have E_b37 : Exa Z T41.heap b37 "com/example/thingstead/thingstead/mimir/Treasure" := E_b37.keep K41
        have E_b38 : Exa Z T41.heap b38 "java/lang/String" := E_b38.keep K41
        have V_t39 : Arv Z T41.heap t39 kt39 .byte (3 : Int32) [(.int (c0).toInt8.toInt32), (.int (c1).toInt8.toInt32), (.int (c2).toInt8.toInt32)] (.int (0 : Int32)) := V_t39.keep K41 (ninS (Ne.symm ne_b38_t39) nin0)
        have F_material_b37 : Fld Z T41.heap b37 "com/example/thingstead/thingstead/mimir/Treasure" "material" "Ljava/lang/String;" (.ref b38) := F_material_b37.keep K41 (ninS ne_b37_b38 nin0)
        have F_points_b37 : Fld Z T41.heap b37 "com/example/thingstead/thingstead/mimir/Treasure" "points" "I" (.int p3) := F_points_b37.keep K41 (ninS ne_b37_b38 nin0)
        refine goT (n := 164) (Ls' := #[.val (.int p1), .val (.int p2), .val (.int p3), .val (.int (p2 &&& (3 : Int32))), .val (.int c0), .val (.int c1), .val (.int c2), .val (.ref b30), .val (.int (((31 : Int32) * (((31 : Int32) * c0) + c1)) + c2)), .val (.ref b37)]) (st' := [(.int (((31 : Int32) * (((31 : Int32) * (((31 : Int32) * (((31 : Int32) * (0 : Int32)) + ((c0).toInt8.toInt32 &&& (255 : Int32)))) + ((c1).toInt8.toInt32 &&& (255 : Int32)))) + ((c2).toInt8.toInt32 &&& (255 : Int32)))) + p3))]) st41 ?_
        refine goS (n := 166) (Ls' := #[.val (.int p1), .val (.int p2), .val (.int p3), .val (.int (p2 &&& (3 : Int32))), .val (.int c0), .val (.int c1), .val (.int c2), .val (.ref b30), .val (.int (((31 : Int32) * (((31 : Int32) * c0) + c1)) + c2)), .val (.ref b37)]) (st' := [(.int (31 : Int32)), (.int (((31 : Int32) * (((31 : Int32) * (((31 : Int32) * (((31 : Int32) * (0 : Int32)) + ((c0).toInt8.toInt32 &&& (255 : Int32)))) + ((c1).toInt8.toInt32 &&& (255 : Int32)))) + ((c2).toInt8.toInt32 &&& (255 : Int32)))) + p3))]) (fun _ kz => XS.bipush X41.here hx rfl (hb hby at_164) kz) ?_
        refine goS (n := 168) (Ls' := #[.val (.int p1), .val (.int p2), .val (.int p3), .val (.int (p2 &&& (3 : Int32))), .val (.int c0), .val (.int c1), .val (.int c2), .val (.ref b30), .val (.int (((31 : Int32) * (((31 : Int32) * c0) + c1)) + c2)), .val (.ref b37)]) (st' := [(.int (((31 : Int32) * (((31 : Int32) * c0) + c1)) + c2)), (.int (31 : Int32)), (.int (((31 : Int32) * (((31 : Int32) * (((31 : Int32) * (((31 : Int32) * (0 : Int32)) + ((c0).toInt8.toInt32 &&& (255 : Int32)))) + ((c1).toInt8.toInt32 &&& (255 : Int32)))) + ((c2).toInt8.toInt32 &&& (255 : Int32)))) + p3))]) (fun _ kz => XS.iload X41.here hx rfl (hb hby at_166) rfl kz) ?_
        refine goS (n := 169) (Ls' := #[.val (.int p1), .val (.int p2), .val (.int p3), .val (.int (p2 &&& (3 : Int32))), .val (.int c0), .val (.int c1), .val (.int c2), .val (.ref b30), .val (.int (((31 : Int32) * (((31 : Int32) * c0) + c1)) + c2)), .val (.ref b37)]) (st' := [(.int ((31 : Int32) * (((31 : Int32) * (((31 : Int32) * c0) + c1)) + c2))), (.int (((31 : Int32) * (((31 : Int32) * (((31 : Int32) * (((31 : Int32) * (0 : Int32)) + ((c0).toInt8.toInt32 &&& (255 : Int32)))) + ((c1).toInt8.toInt32 &&& (255 : Int32)))) + ((c2).toInt8.toInt32 &&& (255 : Int32)))) + p3))]) (fun _ kz => XS.imul X41.here hx rfl (hb hby at_168) rfl kz) ?_
        refine goS (n := 170) (Ls' := #[.val (.int p1), .val (.int p2), .val (.int p3), .val (.int (p2 &&& (3 : Int32))), .val (.int c0), .val (.int c1), .val (.int c2), .val (.ref b30), .val (.int (((31 : Int32) * (((31 : Int32) * c0) + c1)) + c2)), .val (.ref b37)]) (st' := [(.int p3), (.int ((31 : Int32) * (((31 : Int32) * (((31 : Int32) * c0) + c1)) + c2))), (.int (((31 : Int32) * (((31 : Int32) * (((31 : Int32) * (((31 : Int32) * (0 : Int32)) + ((c0).toInt8.toInt32 &&& (255 : Int32)))) + ((c1).toInt8.toInt32 &&& (255 : Int32)))) + ((c2).toInt8.toInt32 &&& (255 : Int32)))) + p3))]) (fun _ kz => XS.iloadN X41.here hx rfl (hb hby at_169) rfl kz) ?_
        refine goS (n := 171) (Ls' := #[.val (.int p1), .val (.int p2), .val (.int p3), .val (.int (p2 &&& (3 : Int32))), .val (.int c0), .val (.int c1), .val (.int c2), .val (.ref b30), .val (.int (((31 : Int32) * (((31 : Int32) * c0) + c1)) + c2)), .val (.ref b37)]) (st' := [(.int (((31 : Int32) * (((31 : Int32) * (((31 : Int32) * c0) + c1)) + c2)) + p3)), (.int (((31 : Int32) * (((31 : Int32) * (((31 : Int32) * (((31 : Int32) * (0 : Int32)) + ((c0).toInt8.toInt32 &&& (255 : Int32)))) + ((c1).toInt8.toInt32 &&& (255 : Int32)))) + ((c2).toInt8.toInt32 &&& (255 : Int32)))) + p3))]) (fun _ kz => XS.iadd X41.here hx rfl (hb hby at_170) rfl kz) ?_
        refine goS (n := 174) (Ls' := #[.val (.int p1), .val (.int p2), .val (.int p3), .val (.int (p2 &&& (3 : Int32))), .val (.int c0), .val (.int c1), .val (.int c2), .val (.ref b30), .val (.int (((31 : Int32) * (((31 : Int32) * c0) + c1)) + c2)), .val (.ref b37)]) (st' := []) (fun _ kz => XS.icmpNo X41.here hx rfl (hb hby at_171) rfl (teq hE41).2 kz) ?_
        refine goS (n := 175) (Ls' := #[.val (.int p1), .val (.int p2), .val (.int p3), .val (.int (p2 &&& (3 : Int32))), .val (.int c0), .val (.int c1), .val (.int c2), .val (.ref b30), .val (.int (((31 : Int32) * (((31 : Int32) * c0) + c1)) + c2)), .val (.ref b37)]) (st' := [(.int (1 : Int32))]) (fun _ kz => XS.iconst X41.here hx rfl (hb hby at_174) kz) ?_
        refine goS (n := 179) (Ls' := #[.val (.int p1), .val (.int p2), .val (.int p3), .val (.int (p2 &&& (3 : Int32))), .val (.int c0), .val (.int c1), .val (.int c2), .val (.ref b30), .val (.int (((31 : Int32) * (((31 : Int32) * c0) + c1)) + c2)), .val (.ref b37)]) (st' := [(.int (1 : Int32))]) (fun _ kz => XS.goto X41.here hx rfl (pc0 := 175) (pc' := 179) rfl (hb hby at_175) (by decide) (by decide) kz) ?_
        exact goRetH X41 hx hlk hS (by rw [e41]; exact hk) hZ hEL (by rw [hh, e41]; exact hC) Bd.returns (narZ (Or.inr rfl)) (Or.inl ⟨rfl, Or.inr (Or.inl rfl), _, rfl⟩) (hb hby at_179) (nle rfl) (nle rfl) (by rw [e41]; exact ⟨rfl, N41⟩)
set_option maxRecDepth 65536 in
set_option maxHeartbeats 40000000 in
theorem comes_1 {Post : Tables → Env → Array Value → State → Outcome → State → Prop} (hpost : ∀ tb e args s v u, (limb_1_1.after args s (.returned v) u = true ∧ limb_1_2.after args s (.returned v) u = true ∧ True) → ReturnedEndW s (.returned v) u (Jvm.fieldLocs frame_1_writes args s ++ Jvm.arrayLocs frame_1_arrays args s ++ Jvm.staticLocs frame_1_statics s) 24 1152 → Post tb e args s (.returned v) u) :
    ArmFor flags0 classFile x code maxLocals ret World_1 tables_1 room_1 Calls_1 rest_1 Pre_1 Post := by
  intro l hfl _ _ p e ha hc hk s m args below hf hA hF happ hP
  obtain ⟨hcalls, hrest, hpre⟩ := hP
  obtain ⟨-, -, -, hnamed, -, -, -, hat⟩ := (Spec.applies_iff hf).mp happ
  obtain ⟨hg, hn⟩ := and_e (Cond.before_iff.mp (show (Jvm.Cond.and given_1 narrow_1).before args s = true from hpre))
  obtain ⟨g1, g2⟩ := and_e hg
  obtain ⟨g3, g4⟩ := and_e g2
  obtain ⟨g5, g6⟩ := and_e g4
  obtain ⟨w0, w1, w2, rfl⟩ : ∃ w0 w1 w2 : Value, args = #[w0, w1, w2] := by
    have hs : args.size = 3 := by simpa [Cond.value, given_1] using g1
    obtain ⟨L⟩ := args
    match L, hs with
    | [w0, w1, w2], _ => exact ⟨w0, w1, w2, rfl⟩
  have hw := fun d (hd : d ∈ tables_1) => atoms_spec (ws := Jvm.Cond.code x code maxLocals ret :: tables_1) hat d (List.mem_cons_of_mem _ hd)
  have hfit : Fit s := fun {y c} hc i hi => by
    obtain ⟨ha, rfl⟩ := Array.getElem?_eq_some_iff.mp hc
    have q := List.all_eq_true.mp ((Array.all_eq_true_iff_forall_mem.mp hF) _ (Array.getElem_mem ha)) i (List.mem_range.mpr hi)
    simpa [Array.getElem?_eq_getElem hi] using q
  obtain ⟨hsets, hown0⟩ := atoms_of _ (rest_1_c_eq ▸ (show rest_1_c.before _ s = true from hrest))
  have hr0 := Cond.before_iff.mp hown0
  obtain ⟨i0, ei0⟩ := is_v g3
  obtain rfl : w0 = (.int i0) := Option.some.inj ei0
  obtain ⟨i1, ei1⟩ := is_v g5
  obtain rfl : w1 = (.int i1) := Option.some.inj ei1
  obtain ⟨i2, ei2⟩ := is_v g6
  obtain rfl : w2 = (.int i2) := Option.some.inj ei2
  obtain ⟨cs, ecs⟩ := is_v (Cond.before_iff.mp (hsets _ (List.mem_of_getElem? (i := 1) rfl)))
  have S_CS : Sta s s.heap "java/lang/String" "COMPACT_STRINGS" "Z" (.int cs) := Sta.start ecs (Or.inl (hsets _ (List.mem_of_getElem? (i := 0) rfl)))
  have hcs : ¬ cs = (0 : Int32) := gotF (Cond.eq_ints ecs (Term.int_eval _)) (not_v (Cond.before_iff.mp (hsets _ (List.mem_of_getElem? (i := 2) rfl))))
  have hCs : CHv s own_EL s.vm s.heap := CHv.start (own_EW hw) (fun p hp => hcalls.1 p hp) (by exact (hsets _ (List.mem_of_getElem? (i := 2) rfl))) (hw _ (List.mem_of_getElem? (i := 22) rfl)) (hw _ (List.mem_of_getElem? (i := 5) rfl))
  obtain ⟨n, o, h1, h2, h3, _, L, rfl, ⟨rfl, N⟩, -, hq⟩ := rm_law l s _ hw tables_1 i0 i1 i2 cs s.heap s.heap.size (Old.start s) S_CS hcs p e ha hc hk s m _ below hf ((Spec.applies_iff_loose hf).mp happ).1 ⟨rfl, State.Warmed39.refl s, rfl, hCs⟩ trivial
  refine ⟨n, _, h1, h2, h3, hpost _ _ _ _ _ _ ⟨Cond.after_iff.mpr rfl, Cond.after_iff.mpr (eq_i res_at (Term.int_eval (1)) rfl), trivial⟩ ⟨hq.1, hq.2.1, hq.2.2.1, (hq.2.2.2.sift fun y hy => Or.inr (N y hy)).mono (by decide) (by decide)⟩⟩
theorem main_1_1 : Claimed_1_1 := comes_1 fun _ _ _ _ _ _ h hF => ⟨h.1, hF⟩
theorem main_1_2 : Claimed_1_2 := comes_1 fun _ _ _ _ _ _ h hF => ⟨h.2.1, hF⟩
end Jvm.Pilot.@@N@@
namespace Jvm.Pilot.@@N@@
open Jvm Jvm.ClassFile Sem Op Lib Jvm.Free Jvm.Stand Jvm.Pilot.@@N@@.Jvm.D
/-! MADE BY PROGRAM (witnessworld.py) out of the Statement's table words and the real class files: 21 classes; the members and pool entries that the words name. The judged class is class 1, her method 1. -/
namespace start1
open Jvm.ClassFile
def u (s : String) : CpInfo := .utf8 (stringToUtf16 s)
/-- a pool by its gaps: so many unusable entries, then the entry; so many at the end -/
def gap : Nat → List CpInfo → List CpInfo
  | 0, r => r
  | n + 1, r => .unusable :: gap n r
def poolList (es : List (Nat × CpInfo)) (last : Nat) : List CpInfo := es.foldr (fun e r => gap e.1 (e.2 :: r)) (gap last [])
def pool (es : List (Nat × CpInfo)) (last : Nat) : Array CpInfo := ⟨poolList es last⟩
def fileOf (pool : Array CpInfo) (this : Nat) (attrs : Array Attribute := #[]) (ms : Array MethodInfo := #[]) (fl : Nat := 33) (sup : Nat := 0) (ifs : Array Nat := #[]) (fds : Array FieldInfo := #[]) : ClassFile where
  minorVersion := 0
  majorVersion := 65
  constantPool := pool
  accessFlags := fl
  thisClass := this
  superClass := sup
  interfaces := ifs
  fields := fds
  methods := ms
  attributes := attrs
def plain (name : String) (sup : Option ClassId) : Class where
  name := name
  kind := .ordinary
  loader := none
  accessFlags := 33
  super := sup
  interfaces := #[]
  cf := none
  fields := #[]
  methods := #[]
  instanceTypes := #[]
  staticTypes := #[]
  resolved := #[]
  callSites := []
  init := .initialized
  statics := none
  mirror := none

def pool0 : Array CpInfo := pool [(5, u "<init>"), (0, u "()V"), (1, .class_ 10), (1, u "java/lang/Object")] 113

def k0c0 : Code := { maxStack := 0, maxLocals := 1, code := object_method_1_code, exceptionTable := #[], attributes := #[] }
def k0m0 : Method := { name := "<init>", desc := "()V", sig := { parameters := [], returnType := none }, accessFlags := 1, code := some k0c0 }
/-- java/lang/Object -/
def k0 : Class := { plain "java/lang/Object" none with
  accessFlags := 33
  interfaces := #[]
  cf := some (fileOf pool0 8 #[] #[{ accessFlags := 1, nameIndex := 5, descriptorIndex := 6, attributes := #[] }] 33 0 #[] #[])
  fields := #[]
  methods := #[k0m0]
  instanceTypes := #[]
  staticTypes := #[]
  resolved := Array.replicate 124 none
  statics := none }

def pool1 : Array CpInfo := pool [(2, .class_ 4), (1, u "java/lang/Object"), (0, u "<init>"), (0, u "()V"), (0, .class_ 8), (0, u "com/example/thingstead/thingstead/mimir/Treasure"), (0, .class_ 10), (0, u "java/lang/String"), (0, .methodref 9 12), (0, .nameAndType 5 13), (0, u "([C)V"), (0, .methodref 7 15), (0, .nameAndType 5 16), (0, u "(Ljava/lang/String;I)V"), (0, .methodref 7 18), (0, .nameAndType 19 20), (0, u "hashCode"), (0, u "()I"), (0, .class_ 22), (0, u "com/example/thingstead/thingstead/mimir/TreasureHashCodePinLaw"), (2, u "law"), (0, u "(III)Z")] 5

def k1m0 : Method := { name := "<init>", desc := "()V", sig := { parameters := [], returnType := none }, accessFlags := 1, code := none }
def k1c1 : Code := { maxStack := 5, maxLocals := 10, code := code, exceptionTable := #[], attributes := #[] }
def k1m1 : Method := { name := "law", desc := "(III)Z", sig := { parameters := [.int, .int, .int], returnType := some .boolean }, accessFlags := 9, code := some k1c1 }
/-- com/example/thingstead/thingstead/mimir/TreasureHashCodePinLaw -/
def k1 : Class := { plain "com/example/thingstead/thingstead/mimir/TreasureHashCodePinLaw" (some 0) with
  accessFlags := 49
  interfaces := #[]
  cf := some (fileOf pool1 21 #[] #[{ accessFlags := 1, nameIndex := 5, descriptorIndex := 6, attributes := #[] }, { accessFlags := 9, nameIndex := 25, descriptorIndex := 26, attributes := #[] }] 49 2 #[] #[])
  fields := #[]
  methods := #[k1m0, k1m1]
  instanceTypes := #[]
  staticTypes := #[]
  resolved := Array.replicate 32 none
  statics := none }

def pool2 : Array CpInfo := pool [(1, .methodref 2 3), (0, .class_ 4), (0, .nameAndType 5 6), (0, u "java/lang/Object"), (0, u "<init>"), (0, u "()V"), (0, .class_ 8), (0, u "java/lang/Record")] 13

def k2c0 : Code := { maxStack := 1, maxLocals := 1, code := jdk_30_method_1_code, exceptionTable := #[], attributes := #[] }
def k2m0 : Method := { name := "<init>", desc := "()V", sig := { parameters := [], returnType := none }, accessFlags := 4, code := some k2c0 }
/-- java/lang/Record -/
def k2 : Class := { plain "java/lang/Record" (some 0) with
  accessFlags := 1057
  interfaces := #[]
  cf := some (fileOf pool2 7 #[] #[{ accessFlags := 4, nameIndex := 5, descriptorIndex := 6, attributes := #[] }] 1057 2 #[] #[])
  fields := #[]
  methods := #[k2m0]
  instanceTypes := #[]
  staticTypes := #[]
  resolved := Array.replicate 22 none
  statics := none }

def pool3 : Array CpInfo := pool [(1, .methodref 2 3), (0, .class_ 4), (0, .nameAndType 5 6), (0, u "java/lang/Record"), (0, u "<init>"), (0, u "()V"), (0, .fieldref 8 9), (0, .class_ 10), (0, .nameAndType 11 12), (0, u "com/example/thingstead/thingstead/mimir/Treasure"), (0, u "material"), (0, u "Ljava/lang/String;"), (0, .fieldref 8 14), (0, .nameAndType 15 16), (0, u "points"), (0, u "I"), (1, .class_ 20), (1, u "java/lang/String"), (2, .methodref 18 24), (0, .nameAndType 25 26), (0, u "hashCode"), (0, u "()I"), (4, u "(Ljava/lang/String;I)V")] 26

def k3c0 : Code := { maxStack := 2, maxLocals := 3, code := prog_8_method_1_code, exceptionTable := #[], attributes := #[] }
def k3m0 : Method := { name := "<init>", desc := "(Ljava/lang/String;I)V", sig := { parameters := [(.object "java/lang/String"), .int], returnType := none }, accessFlags := 1, code := some k3c0 }
def k3c1 : Code := { maxStack := 2, maxLocals := 1, code := prog_8_method_3_code, exceptionTable := #[], attributes := #[] }
def k3m1 : Method := { name := "hashCode", desc := "()I", sig := { parameters := [], returnType := some .int }, accessFlags := 1, code := some k3c1 }
/-- com/example/thingstead/thingstead/mimir/Treasure -/
def k3 : Class := { plain "com/example/thingstead/thingstead/mimir/Treasure" (some 2) with
  accessFlags := 49
  interfaces := #[]
  cf := some (fileOf pool3 8 #[] #[{ accessFlags := 1, nameIndex := 5, descriptorIndex := 31, attributes := #[] }, { accessFlags := 1, nameIndex := 25, descriptorIndex := 26, attributes := #[] }] 49 2 #[] #[{ accessFlags := 18, nameIndex := 11, descriptorIndex := 12, attributes := #[] }, { accessFlags := 18, nameIndex := 15, descriptorIndex := 16, attributes := #[] }])
  fields := #[{ name := "material", type := (.object "java/lang/String"), accessFlags := 18, slot := 0, constantValue := 0 }, { name := "points", type := .int, accessFlags := 18, slot := 1, constantValue := 0 }]
  methods := #[k3m0, k3m1]
  instanceTypes := #[(.object "java/lang/String"), .int]
  staticTypes := #[]
  resolved := Array.replicate 58 none
  statics := none }

def pool4 : Array CpInfo := pool [(1, .class_ 2), (0, u "java/io/Serializable"), (0, .class_ 4), (0, u "java/lang/Object")] 2

/-- java/io/Serializable -/
def k4 : Class := { plain "java/io/Serializable" (some 0) with
  accessFlags := 1537
  interfaces := #[]
  cf := some (fileOf pool4 1 #[] #[] 1537 3 #[] #[])
  fields := #[]
  methods := #[]
  instanceTypes := #[]
  staticTypes := #[]
  resolved := Array.replicate 7 none
  statics := none }

def pool5 : Array CpInfo := pool [(1, .class_ 2), (0, u "java/lang/Comparable"), (0, .class_ 4), (0, u "java/lang/Object")] 7

/-- java/lang/Comparable -/
def k5 : Class := { plain "java/lang/Comparable" (some 0) with
  accessFlags := 1537
  interfaces := #[]
  cf := some (fileOf pool5 1 #[] #[] 1537 3 #[] #[])
  fields := #[]
  methods := #[]
  instanceTypes := #[]
  staticTypes := #[]
  resolved := Array.replicate 12 none
  statics := none }

def pool6 : Array CpInfo := pool [(2, .class_ 4), (1, u "java/lang/CharSequence"), (42, .class_ 48), (0, u "java/lang/CharSequence$1CodePointIterator"), (10, .class_ 60), (0, u "java/lang/CharSequence$1CharIterator"), (5, .class_ 67), (0, u "java/lang/Object")] 63

/-- java/lang/CharSequence -/
def k6 : Class := { plain "java/lang/CharSequence" (some 0) with
  accessFlags := 1537
  interfaces := #[]
  cf := some (fileOf pool6 2 #[.nestMembers #[47, 59]] #[] 1537 66 #[] #[])
  fields := #[]
  methods := #[]
  instanceTypes := #[]
  staticTypes := #[]
  resolved := Array.replicate 131 none
  statics := none }

def pool7 : Array CpInfo := pool [(1, .class_ 2), (0, u "java/lang/constant/Constable"), (0, .class_ 4), (0, u "java/lang/Object")] 6

/-- java/lang/constant/Constable -/
def k7 : Class := { plain "java/lang/constant/Constable" (some 0) with
  accessFlags := 1537
  interfaces := #[]
  cf := some (fileOf pool7 1 #[] #[] 1537 3 #[] #[])
  fields := #[]
  methods := #[]
  instanceTypes := #[]
  staticTypes := #[]
  resolved := Array.replicate 11 none
  statics := none }

def pool8 : Array CpInfo := pool [(1, .class_ 2), (0, u "java/lang/constant/ConstantDesc"), (0, .class_ 4), (0, u "java/lang/Object")] 32

/-- java/lang/constant/ConstantDesc -/
def k8 : Class := { plain "java/lang/constant/ConstantDesc" (some 0) with
  accessFlags := 1537
  interfaces := #[]
  cf := some (fileOf pool8 1 #[] #[] 1537 3 #[] #[])
  fields := #[]
  methods := #[]
  instanceTypes := #[]
  staticTypes := #[]
  resolved := Array.replicate 37 none
  statics := none }

def pool9 : Array CpInfo := pool [(1, .methodref 2 3), (0, .class_ 4), (0, .nameAndType 5 6), (0, u "java/lang/Object"), (0, u "<init>"), (0, u "()V"), (0, .string 8), (0, u ""), (0, .fieldref 10 11), (0, .class_ 12), (0, .nameAndType 13 14), (0, u "java/lang/String"), (0, u "value"), (0, u "[B"), (0, .fieldref 10 16), (0, .nameAndType 17 18), (0, u "coder"), (0, u "B"), (0, .fieldref 10 20), (0, .nameAndType 21 22), (0, u "hash"), (0, u "I"), (0, .fieldref 10 24), (0, .nameAndType 25 26), (0, u "hashIsZero"), (0, u "Z"), (0, .methodref 10 28), (0, .nameAndType 5 29), (0, u "([CIILjava/lang/Void;)V"), (8, .fieldref 10 39), (0, .nameAndType 40 26), (0, u "COMPACT_STRINGS"), (1, .class_ 44), (1, u "java/lang/StringUTF16"), (0, u "compress"), (1, .methodref 42 48), (0, .nameAndType 49 50), (0, u "coderFromArrayLen"), (0, u "([BI)B"), (56, .class_ 109), (1, u "java/lang/StringLatin1"), (32, u "()Z"), (34, .methodref 42 178), (0, .nameAndType 45 179), (0, u "([CII)[B"), (154, u "()I"), (157, .methodref 10 493), (0, .nameAndType 494 142), (0, u "isLatin1"), (80, .class_ 576), (0, u "java/lang/CharSequence"), (22, u "CASE_INSENSITIVE_ORDER"), (0, u "Ljava/util/Comparator;"), (27, .methodref 107 629), (0, .nameAndType 630 631), (0, u "hashCode"), (0, u "([B)I"), (378, u "([C)V"), (90, u "serialPersistentFields"), (0, u "[Ljava/io/ObjectStreamField;"), (0, .class_ 1104), (0, u "java/lang/String$CaseInsensitiveComparator"), (1, .class_ 1107), (0, u "java/io/Serializable"), (0, .class_ 1109), (0, u "java/lang/Comparable"), (0, .class_ 1111), (0, u "java/lang/constant/Constable"), (0, .class_ 1113), (0, u "java/lang/constant/ConstantDesc"), (2, u "serialVersionUID"), (0, u "J"), (3, u "REPL"), (0, u "C"), (2, u "LATIN1"), (1, u "UTF16")] 323

def k9m0 : Method := { name := "<init>", desc := "()V", sig := { parameters := [], returnType := none }, accessFlags := 1, code := none }
def k9c1 : Code := { maxStack := 5, maxLocals := 2, code := jdk_42_method_3_code, exceptionTable := #[], attributes := #[] }
def k9m1 : Method := { name := "<init>", desc := "([C)V", sig := { parameters := [(.array .char)], returnType := none }, accessFlags := 1, code := some k9c1 }
def k9c2 : Code := { maxStack := 2, maxLocals := 2, code := jdk_42_method_78_code, exceptionTable := #[], attributes := #[] }
def k9m2 : Method := { name := "hashCode", desc := "()I", sig := { parameters := [], returnType := some .int }, accessFlags := 1, code := some k9c2 }
def k9c3 : Code := { maxStack := 4, maxLocals := 6, code := jdk_42_method_149_code, exceptionTable := #[], attributes := #[] }
def k9m3 : Method := { name := "<init>", desc := "([CIILjava/lang/Void;)V", sig := { parameters := [(.array .char), .int, .int, (.object "java/lang/Void")], returnType := none }, accessFlags := 2, code := some k9c3 }
def k9c4 : Code := { maxStack := 1, maxLocals := 1, code := jdk_42_method_154_code, exceptionTable := #[], attributes := #[] }
def k9m4 : Method := { name := "isLatin1", desc := "()Z", sig := { parameters := [], returnType := some .boolean }, accessFlags := 0, code := some k9c4 }
/-- java/lang/String -/
def k9 : Class := { plain "java/lang/String" (some 0) with
  accessFlags := 49
  interfaces := #[4, 5, 6, 7, 8]
  cf := some (fileOf pool9 10 #[.nestMembers #[1103]] #[{ accessFlags := 1, nameIndex := 5, descriptorIndex := 6, attributes := #[] }, { accessFlags := 1, nameIndex := 5, descriptorIndex := 1010, attributes := #[] }, { accessFlags := 1, nameIndex := 630, descriptorIndex := 334, attributes := #[] }, { accessFlags := 2, nameIndex := 5, descriptorIndex := 29, attributes := #[] }, { accessFlags := 0, nameIndex := 494, descriptorIndex := 142, attributes := #[] }] 49 2 #[1106, 1108, 575, 1110, 1112] #[{ accessFlags := 18, nameIndex := 13, descriptorIndex := 14, attributes := #[] }, { accessFlags := 18, nameIndex := 17, descriptorIndex := 18, attributes := #[] }, { accessFlags := 2, nameIndex := 21, descriptorIndex := 22, attributes := #[] }, { accessFlags := 2, nameIndex := 25, descriptorIndex := 26, attributes := #[] }, { accessFlags := 26, nameIndex := 1116, descriptorIndex := 1117, attributes := #[] }, { accessFlags := 24, nameIndex := 40, descriptorIndex := 26, attributes := #[] }, { accessFlags := 26, nameIndex := 1101, descriptorIndex := 1102, attributes := #[] }, { accessFlags := 26, nameIndex := 1121, descriptorIndex := 1122, attributes := #[] }, { accessFlags := 25, nameIndex := 599, descriptorIndex := 600, attributes := #[] }, { accessFlags := 24, nameIndex := 1125, descriptorIndex := 18, attributes := #[] }, { accessFlags := 24, nameIndex := 1127, descriptorIndex := 18, attributes := #[] }])
  fields := #[{ name := "value", type := (.array .byte), accessFlags := 18, slot := 0, constantValue := 0 }, { name := "coder", type := .byte, accessFlags := 18, slot := 1, constantValue := 0 }, { name := "hash", type := .int, accessFlags := 2, slot := 2, constantValue := 0 }, { name := "hashIsZero", type := .boolean, accessFlags := 2, slot := 3, constantValue := 0 }, { name := "serialVersionUID", type := .long, accessFlags := 26, slot := 0, constantValue := 0 }, { name := "COMPACT_STRINGS", type := .boolean, accessFlags := 24, slot := 1, constantValue := 0 }, { name := "serialPersistentFields", type := (.array (.object "java/io/ObjectStreamField")), accessFlags := 26, slot := 2, constantValue := 0 }, { name := "REPL", type := .char, accessFlags := 26, slot := 3, constantValue := 0 }, { name := "CASE_INSENSITIVE_ORDER", type := (.object "java/util/Comparator"), accessFlags := 25, slot := 4, constantValue := 0 }, { name := "LATIN1", type := .byte, accessFlags := 24, slot := 5, constantValue := 0 }, { name := "UTF16", type := .byte, accessFlags := 24, slot := 6, constantValue := 0 }]
  methods := #[k9m0, k9m1, k9m2, k9m3, k9m4]
  instanceTypes := #[(.array .byte), .byte, .int, .boolean]
  staticTypes := #[.long, .boolean, (.array (.object "java/io/ObjectStreamField")), .char, (.object "java/util/Comparator"), .byte, .byte]
  resolved := Array.replicate 1451 none
  statics := some 0 }

def pool10 : Array CpInfo := pool [(6, .class_ 8), (1, u "java/lang/Object"), (0, u "<init>"), (0, u "()V"), (1, .class_ 14), (1, u "java/lang/StringUTF16"), (31, u "$assertionsDisabled"), (0, u "Z"), (13, u "HI_BYTE_SHIFT"), (0, u "I"), (2, u "LO_BYTE_SHIFT"), (49, .methodref 12 116), (0, .nameAndType 117 118), (0, u "compress"), (0, u "([CI[BII)I"), (3, u "([CII)[B"), (138, u "coderFromArrayLen"), (0, u "([BI)B"), (106, .class_ 371), (1, u "java/lang/StringUTF16$LinesSpliterator"), (58, u "MAX_LENGTH"), (196, .class_ 628), (0, u "java/lang/StringUTF16$CodePointsSpliterator"), (0, .class_ 630), (0, u "java/lang/StringUTF16$CharsSpliterator")] 4

def k10m0 : Method := { name := "<init>", desc := "()V", sig := { parameters := [], returnType := none }, accessFlags := 0, code := none }
def k10c1 : Code := { maxStack := 2, maxLocals := 2, code := jdk_52_method_15_code, exceptionTable := #[], attributes := #[] }
def k10m1 : Method := { name := "coderFromArrayLen", desc := "([BI)B", sig := { parameters := [(.array .byte), .int], returnType := some .byte }, accessFlags := 8, code := some k10c1 }
def k10c2 : Code := { maxStack := 5, maxLocals := 6, code := jdk_52_method_16_code, exceptionTable := #[], attributes := #[] }
def k10m2 : Method := { name := "compress", desc := "([CII)[B", sig := { parameters := [(.array .char), .int, .int], returnType := some (.array .byte) }, accessFlags := 9, code := some k10c2 }
def k10c3 : Code := { maxStack := 3, maxLocals := 7, code := jdk_52_method_21_code, exceptionTable := #[], attributes := #[] }
def k10m3 : Method := { name := "compress", desc := "([CI[BII)I", sig := { parameters := [(.array .char), .int, (.array .byte), .int, .int], returnType := some .int }, accessFlags := 9, code := some k10c3 }
/-- java/lang/StringUTF16 -/
def k10 : Class := { plain "java/lang/StringUTF16" (some 0) with
  accessFlags := 48
  interfaces := #[]
  cf := some (fileOf pool10 12 #[.nestMembers #[627, 629, 369]] #[{ accessFlags := 0, nameIndex := 9, descriptorIndex := 10, attributes := #[] }, { accessFlags := 8, nameIndex := 261, descriptorIndex := 262, attributes := #[] }, { accessFlags := 9, nameIndex := 117, descriptorIndex := 122, attributes := #[] }, { accessFlags := 9, nameIndex := 117, descriptorIndex := 118, attributes := #[] }] 48 6 #[] #[{ accessFlags := 26, nameIndex := 61, descriptorIndex := 62, attributes := #[] }, { accessFlags := 26, nameIndex := 65, descriptorIndex := 62, attributes := #[] }, { accessFlags := 24, nameIndex := 430, descriptorIndex := 62, attributes := #[] }, { accessFlags := 4120, nameIndex := 46, descriptorIndex := 47, attributes := #[] }])
  fields := #[{ name := "HI_BYTE_SHIFT", type := .int, accessFlags := 26, slot := 0, constantValue := 0 }, { name := "LO_BYTE_SHIFT", type := .int, accessFlags := 26, slot := 1, constantValue := 0 }, { name := "MAX_LENGTH", type := .int, accessFlags := 24, slot := 2, constantValue := 0 }, { name := "$assertionsDisabled", type := .boolean, accessFlags := 4120, slot := 3, constantValue := 0 }]
  methods := #[k10m0, k10m1, k10m2, k10m3]
  instanceTypes := #[]
  staticTypes := #[.int, .int, .int, .boolean]
  resolved := Array.replicate 635 none
  statics := none }

def pool11 : Array CpInfo := pool [(4, .class_ 6), (1, u "java/lang/Object"), (0, u "<init>"), (0, u "()V"), (5, .class_ 16), (1, u "java/lang/StringLatin1"), (28, .class_ 47), (1, u "jdk/internal/util/ArraysSupport"), (9, u "([B)I"), (26, .methodref 45 85), (0, .nameAndType 86 87), (0, u "vectorizedHashCode"), (0, u "(Ljava/lang/Object;IIII)I"), (33, u "$assertionsDisabled"), (0, u "Z"), (98, .class_ 223), (1, u "java/lang/StringLatin1$LinesSpliterator"), (74, u "hashCode"), (91, .class_ 391), (0, u "java/lang/StringLatin1$CharsSpliterator")] 3

def k11m0 : Method := { name := "<init>", desc := "()V", sig := { parameters := [], returnType := none }, accessFlags := 0, code := none }
def k11c1 : Code := { maxStack := 5, maxLocals := 1, code := jdk_43_method_21_code, exceptionTable := #[], attributes := #[] }
def k11m1 : Method := { name := "hashCode", desc := "([B)I", sig := { parameters := [(.array .byte)], returnType := some .int }, accessFlags := 9, code := some k11c1 }
/-- java/lang/StringLatin1 -/
def k11 : Class := { plain "java/lang/StringLatin1" (some 0) with
  accessFlags := 48
  interfaces := #[]
  cf := some (fileOf pool11 14 #[.nestMembers #[390, 221]] #[{ accessFlags := 0, nameIndex := 7, descriptorIndex := 8, attributes := #[] }, { accessFlags := 9, nameIndex := 298, descriptorIndex := 57, attributes := #[] }] 48 4 #[] #[{ accessFlags := 4120, nameIndex := 121, descriptorIndex := 122, attributes := #[] }])
  fields := #[{ name := "$assertionsDisabled", type := .boolean, accessFlags := 4120, slot := 0, constantValue := 0 }]
  methods := #[k11m0, k11m1]
  instanceTypes := #[]
  staticTypes := #[.boolean]
  resolved := Array.replicate 395 none
  statics := none }

def pool12 : Array CpInfo := pool [(9, u "<init>"), (6, .class_ 18), (1, u "java/lang/Object"), (0, u "()V"), (1, .class_ 23), (1, u "jdk/internal/util/ArraysSupport"), (0, u "LOG2_ARRAY_LONG_INDEX_SCALE"), (0, u "I"), (2, u "U"), (0, u "Ljdk/internal/misc/Unsafe;"), (8, u "BIG_ENDIAN"), (0, u "Z"), (8, u "LOG2_BYTE_BIT_SIZE"), (4, u "LOG2_ARRAY_INT_INDEX_SCALE"), (6, .class_ 61), (0, u "[B"), (0, .methodref 21 63), (0, .nameAndType 64 65), (0, u "signedHashCode"), (0, u "(I[BII)I"), (42, u "JLA"), (0, u "Ljdk/internal/access/JavaLangAccess;"), (11, u "LOG2_ARRAY_BOOLEAN_INDEX_SCALE"), (9, u "LOG2_ARRAY_BYTE_INDEX_SCALE"), (5, u "LOG2_ARRAY_CHAR_INDEX_SCALE"), (5, u "LOG2_ARRAY_SHORT_INDEX_SCALE"), (18, u "LOG2_ARRAY_FLOAT_INDEX_SCALE"), (24, u "LOG2_ARRAY_DOUBLE_INDEX_SCALE"), (89, u "T_BOOLEAN"), (2, u "T_CHAR"), (1, u "T_FLOAT"), (1, u "T_DOUBLE"), (1, u "T_BYTE"), (1, u "T_SHORT"), (1, u "T_INT"), (1, u "T_LONG"), (1, u "SOFT_MAX_ARRAY_LENGTH"), (26, u "vectorizedHashCode"), (0, u "(Ljava/lang/Object;IIII)I")] 55

def k12m0 : Method := { name := "<init>", desc := "()V", sig := { parameters := [], returnType := none }, accessFlags := 2, code := none }
def k12c1 : Code := { maxStack := 4, maxLocals := 5, code := jdk_48_method_4_code, exceptionTable := #[], attributes := #[] }
def k12m1 : Method := { name := "vectorizedHashCode", desc := "(Ljava/lang/Object;IIII)I", sig := { parameters := [(.object "java/lang/Object"), .int, .int, .int, .int], returnType := some .int }, accessFlags := 9, code := some k12c1 }
def k12c2 : Code := { maxStack := 3, maxLocals := 6, code := jdk_48_method_5_code, exceptionTable := #[], attributes := #[] }
def k12m2 : Method := { name := "signedHashCode", desc := "(I[BII)I", sig := { parameters := [.int, (.array .byte), .int, .int], returnType := some .int }, accessFlags := 10, code := some k12c2 }
/-- jdk/internal/util/ArraysSupport -/
def k12 : Class := { plain "jdk/internal/util/ArraysSupport" (some 0) with
  accessFlags := 33
  interfaces := #[]
  cf := some (fileOf pool12 21 #[] #[{ accessFlags := 2, nameIndex := 9, descriptorIndex := 19, attributes := #[] }, { accessFlags := 9, nameIndex := 321, descriptorIndex := 322, attributes := #[] }, { accessFlags := 10, nameIndex := 64, descriptorIndex := 65, attributes := #[] }] 33 16 #[] #[{ accessFlags := 24, nameIndex := 28, descriptorIndex := 29, attributes := #[] }, { accessFlags := 26, nameIndex := 38, descriptorIndex := 39, attributes := #[] }, { accessFlags := 25, nameIndex := 121, descriptorIndex := 25, attributes := #[] }, { accessFlags := 25, nameIndex := 131, descriptorIndex := 25, attributes := #[] }, { accessFlags := 25, nameIndex := 137, descriptorIndex := 25, attributes := #[] }, { accessFlags := 25, nameIndex := 143, descriptorIndex := 25, attributes := #[] }, { accessFlags := 25, nameIndex := 53, descriptorIndex := 25, attributes := #[] }, { accessFlags := 25, nameIndex := 24, descriptorIndex := 25, attributes := #[] }, { accessFlags := 25, nameIndex := 162, descriptorIndex := 25, attributes := #[] }, { accessFlags := 25, nameIndex := 187, descriptorIndex := 25, attributes := #[] }, { accessFlags := 26, nameIndex := 48, descriptorIndex := 25, attributes := #[] }, { accessFlags := 25, nameIndex := 277, descriptorIndex := 25, attributes := #[] }, { accessFlags := 25, nameIndex := 280, descriptorIndex := 25, attributes := #[] }, { accessFlags := 25, nameIndex := 282, descriptorIndex := 25, attributes := #[] }, { accessFlags := 25, nameIndex := 284, descriptorIndex := 25, attributes := #[] }, { accessFlags := 25, nameIndex := 286, descriptorIndex := 25, attributes := #[] }, { accessFlags := 25, nameIndex := 288, descriptorIndex := 25, attributes := #[] }, { accessFlags := 25, nameIndex := 290, descriptorIndex := 25, attributes := #[] }, { accessFlags := 25, nameIndex := 292, descriptorIndex := 25, attributes := #[] }, { accessFlags := 26, nameIndex := 108, descriptorIndex := 109, attributes := #[] }, { accessFlags := 25, nameIndex := 294, descriptorIndex := 25, attributes := #[] }])
  fields := #[{ name := "U", type := (.object "jdk/internal/misc/Unsafe"), accessFlags := 24, slot := 0, constantValue := 0 }, { name := "BIG_ENDIAN", type := .boolean, accessFlags := 26, slot := 1, constantValue := 0 }, { name := "LOG2_ARRAY_BOOLEAN_INDEX_SCALE", type := .int, accessFlags := 25, slot := 2, constantValue := 0 }, { name := "LOG2_ARRAY_BYTE_INDEX_SCALE", type := .int, accessFlags := 25, slot := 3, constantValue := 0 }, { name := "LOG2_ARRAY_CHAR_INDEX_SCALE", type := .int, accessFlags := 25, slot := 4, constantValue := 0 }, { name := "LOG2_ARRAY_SHORT_INDEX_SCALE", type := .int, accessFlags := 25, slot := 5, constantValue := 0 }, { name := "LOG2_ARRAY_INT_INDEX_SCALE", type := .int, accessFlags := 25, slot := 6, constantValue := 0 }, { name := "LOG2_ARRAY_LONG_INDEX_SCALE", type := .int, accessFlags := 25, slot := 7, constantValue := 0 }, { name := "LOG2_ARRAY_FLOAT_INDEX_SCALE", type := .int, accessFlags := 25, slot := 8, constantValue := 0 }, { name := "LOG2_ARRAY_DOUBLE_INDEX_SCALE", type := .int, accessFlags := 25, slot := 9, constantValue := 0 }, { name := "LOG2_BYTE_BIT_SIZE", type := .int, accessFlags := 26, slot := 10, constantValue := 0 }, { name := "T_BOOLEAN", type := .int, accessFlags := 25, slot := 11, constantValue := 0 }, { name := "T_CHAR", type := .int, accessFlags := 25, slot := 12, constantValue := 0 }, { name := "T_FLOAT", type := .int, accessFlags := 25, slot := 13, constantValue := 0 }, { name := "T_DOUBLE", type := .int, accessFlags := 25, slot := 14, constantValue := 0 }, { name := "T_BYTE", type := .int, accessFlags := 25, slot := 15, constantValue := 0 }, { name := "T_SHORT", type := .int, accessFlags := 25, slot := 16, constantValue := 0 }, { name := "T_INT", type := .int, accessFlags := 25, slot := 17, constantValue := 0 }, { name := "T_LONG", type := .int, accessFlags := 25, slot := 18, constantValue := 0 }, { name := "JLA", type := (.object "jdk/internal/access/JavaLangAccess"), accessFlags := 26, slot := 19, constantValue := 0 }, { name := "SOFT_MAX_ARRAY_LENGTH", type := .int, accessFlags := 25, slot := 20, constantValue := 0 }]
  methods := #[k12m0, k12m1, k12m2]
  instanceTypes := #[]
  staticTypes := #[(.object "jdk/internal/misc/Unsafe"), .boolean, .int, .int, .int, .int, .int, .int, .int, .int, .int, .int, .int, .int, .int, .int, .int, .int, .int, (.object "jdk/internal/access/JavaLangAccess"), .int]
  resolved := Array.replicate 378 none
  statics := none }

def pool13 : Array CpInfo := pool [(2, .class_ 4), (1, u "java/lang/Object"), (0, u "<init>"), (0, u "()V"), (17, .class_ 26), (1, u "jdk/internal/util/Preconditions"), (28, .class_ 56), (0, u "jdk/internal/util/Preconditions$4"), (57, .class_ 115), (0, u "jdk/internal/util/Preconditions$1"), (7, u "SIOOBE_FORMATTER"), (0, u "Ljava/util/function/BiFunction;"), (0, .class_ 126), (0, u "jdk/internal/util/Preconditions$2"), (3, u "AIOOBE_FORMATTER"), (0, .class_ 132), (0, u "jdk/internal/util/Preconditions$3"), (3, u "IOOBE_FORMATTER")] 57

def k13m0 : Method := { name := "<init>", desc := "()V", sig := { parameters := [], returnType := none }, accessFlags := 1, code := none }
/-- jdk/internal/util/Preconditions -/
def k13 : Class := { plain "jdk/internal/util/Preconditions" (some 0) with
  accessFlags := 33
  interfaces := #[]
  cf := some (fileOf pool13 24 #[.nestMembers #[55, 131, 125, 114]] #[{ accessFlags := 1, nameIndex := 5, descriptorIndex := 6, attributes := #[] }] 33 2 #[] #[{ accessFlags := 25, nameIndex := 123, descriptorIndex := 124, attributes := #[] }, { accessFlags := 25, nameIndex := 130, descriptorIndex := 124, attributes := #[] }, { accessFlags := 25, nameIndex := 136, descriptorIndex := 124, attributes := #[] }])
  fields := #[{ name := "SIOOBE_FORMATTER", type := (.object "java/util/function/BiFunction"), accessFlags := 25, slot := 0, constantValue := 0 }, { name := "AIOOBE_FORMATTER", type := (.object "java/util/function/BiFunction"), accessFlags := 25, slot := 1, constantValue := 0 }, { name := "IOOBE_FORMATTER", type := (.object "java/util/function/BiFunction"), accessFlags := 25, slot := 2, constantValue := 0 }]
  methods := #[k13m0]
  instanceTypes := #[]
  staticTypes := #[(.object "java/util/function/BiFunction"), (.object "java/util/function/BiFunction"), (.object "java/util/function/BiFunction")]
  resolved := Array.replicate 194 none
  statics := some 1 }

def pool14 : Array CpInfo := pool [(1, u "java/lang/Cloneable"), (0, .class_ 1), (0, u "java/lang/Object"), (0, .class_ 3)] 3

/-- java/lang/Cloneable -/
def k14 : Class := { plain "java/lang/Cloneable" (some 0) with
  accessFlags := 1537
  interfaces := #[]
  cf := some (fileOf pool14 2 #[] #[] 1537 4 #[] #[])
  fields := #[]
  methods := #[]
  instanceTypes := #[]
  staticTypes := #[]
  resolved := Array.replicate 8 none
  statics := none }

/-- the primitive byte -/
def k15 : Class := { plain "byte" none with kind := .primitive 'B', accessFlags := 0x411 }
/-- [B -/
def k16 : Class := { plain "[B" (some 0) with kind := .array 15 .byte, interfaces := #[14, 4], accessFlags := 1041 }

/-- the primitive char -/
def k17 : Class := { plain "char" none with kind := .primitive 'C', accessFlags := 0x411 }
/-- [C -/
def k18 : Class := { plain "[C" (some 0) with kind := .array 17 .char, interfaces := #[14, 4], accessFlags := 1041 }

/-- the primitive int -/
def k19 : Class := { plain "int" none with kind := .primitive 'I', accessFlags := 0x411 }
/-- [I -/
def k20 : Class := { plain "[I" (some 0) with kind := .array 19 .int, interfaces := #[14, 4], accessFlags := 1041 }

def heap : Heap := #[{ cls := 9, slots := #[.long 0, .int 1, .null, .int 0, .null, .int 0, .int 0], vm := .statics 9 },
  { cls := 13, slots := #[.null, .null, .null], vm := .statics 13 }]
def classes : Array Class := #[k0, k1, k2, k3, k4, k5, k6, k7, k8, k9, k10, k11, k12, k13, k14, k15, k16, k17, k18, k19, k20]
def interned : List (Array UInt16 × Addr) := []
def slotsUsed : Nat := 10
def theMethod : MethodId := ⟨1, 1⟩
def args0 : Array Value := #[.int 5, .int 9, .int 3]
def aboutOver (below : List Frame) : State where
  vm := { classes := classes, interned := interned.toArray }
  heap := heap
  slotsUsed := slotsUsed
  threads := #[{ frames := .invoking theMethod args0 :: below }]
def below0 : List Frame := [.native { method := ⟨0, 0⟩, args := #[] }]
def about1 : State := aboutOver below0
def p0 : Program := .bare "" "" ""
def e0 : Env := launch0.env 0 0 0
theorem w_frames : about1.frames = Frame.invoking theMethod args0 :: below0 := rfl
set_option maxRecDepth 65536 in
theorem w_args : argsFit about1.vm theMethod args0 = true := by decide +kernel
set_option maxRecDepth 65536 in
theorem w_heap : heapFits about1 = true := by decide +kernel
set_option maxRecDepth 65536 in
theorem w_runnable : about1.curStatus? = some .runnable := by decide +kernel
set_option maxRecDepth 65536 in
theorem w_alone : about1.alone = true := by decide +kernel
set_option maxRecDepth 65536 in
theorem w_named : about1.methodNamed? x = some theMethod := by decide +kernel
set_option maxRecDepth 65536 in
theorem w_hears : about1.hears theMethod below0 = true := by decide +kernel
set_option maxRecDepth 65536 in
theorem w_ripe : about1.ripe theMethod args0 below0 = true := by decide +kernel
theorem w_running : about1.status = .running := rfl
set_option maxRecDepth 65536 in
theorem w_room : about1.hasRoom e0.platform room_1 = true :=
  launch0.hasRoom_least _ room_1 (by decide +kernel) (by decide +kernel) (by decide +kernel) (by decide +kernel) (by decide +kernel) (by decide +kernel)
theorem allAtoms_all (ts : List Jvm.Cond) (a : Array Jvm.Value) (st : Jvm.State) : (allAtoms ts).before a st = ts.all (fun c => c.before a st) := by
  induction ts with
  | nil => rfl
  | cons c t ih =>
    show (Jvm.Cond.and c (allAtoms t)).before a st = _
    rw [Jvm.Cond.before_and, ih, List.all_cons]
def words1 : List Jvm.Cond := Jvm.Cond.code x code maxLocals ret :: tables_1
/-- a 'code' word, met by the world's own term for the bytes: nothing is compared byte by byte -/
theorem code_word {y : MethodName} {bytes : ByteArray} {mx : Nat} {rt : Option FieldType} {a : Array Value} {s : State} {m : MethodId} {meth : Method} {c : Code} (h1 : s.methodNamed? y = some m) (h2 : s.vm.method? m = some meth) (h3 : meth.code = some c) (h4 : c.code = bytes)
    (h5 : (c.maxLocals == mx && c.exceptionTable.isEmpty && decide (c.maxStack ≤ mostOperands) && decide (meth.sig.returnType = rt) && !meth.locks && decide (parseMethodDescriptor y.desc = some meth.sig)) = true) : (Jvm.Cond.code y bytes mx rt).before a s = true := by
  simp only [Bool.and_eq_true, beq_iff_eq, Bool.not_eq_true', decide_eq_true_eq] at h5
  obtain ⟨⟨⟨⟨⟨g1, g2⟩, g3⟩, g4⟩, g5⟩, g6⟩ := h5
  simp [Cond.before, Cond.holds, Cond.value, h1, h2, h3, h4, g1, g2, g3, g4, g5, g6]
def isCode : Jvm.Cond → Bool
  | .code _ _ _ _ => true
  | _ => false
theorem all_split {L : List Jvm.Cond} {P : Jvm.Cond → Bool} (h1 : L.all (fun c => isCode c || P c) = true) (h2 : ∀ c ∈ L.filter isCode, P c = true) : L.all P = true := by
  refine List.all_eq_true.mpr fun c hc => ?_
  have h := List.all_eq_true.mp h1 c hc
  rcases Bool.eq_false_or_eq_true (isCode c) with hi | hi
  · exact h2 c (List.mem_filter.mpr ⟨hc, hi⟩)
  · simpa [hi] using h
set_option maxRecDepth 65536 in
theorem w_c0 : (Jvm.Cond.code x code maxLocals ret).before args0 about1 = true := code_word (m := ⟨1, 1⟩) (meth := k1m1) (c := k1c1) (by decide +kernel) rfl rfl rfl (by decide +kernel)
set_option maxRecDepth 65536 in
theorem w_c1 : (Jvm.Cond.code ({ cls := "java/lang/String", name := "<init>", desc := "([C)V" } : Jvm.MethodName) jdk_42_method_3_code (2 : Nat) (Option.none : Option Jvm.ClassFile.FieldType)).before args0 about1 = true := code_word (m := ⟨9, 1⟩) (meth := k9m1) (c := k9c1) (by decide +kernel) rfl rfl rfl (by decide +kernel)
set_option maxRecDepth 65536 in
theorem w_c2 : (Jvm.Cond.code ({ cls := "java/lang/String", name := "<init>", desc := "([CIILjava/lang/Void;)V" } : Jvm.MethodName) jdk_42_method_149_code (6 : Nat) (Option.none : Option Jvm.ClassFile.FieldType)).before args0 about1 = true := code_word (m := ⟨9, 3⟩) (meth := k9m3) (c := k9c3) (by decide +kernel) rfl rfl rfl (by decide +kernel)
set_option maxRecDepth 65536 in
theorem w_c3 : (Jvm.Cond.code ({ cls := "java/lang/Object", name := "<init>", desc := "()V" } : Jvm.MethodName) object_method_1_code (1 : Nat) (Option.none : Option Jvm.ClassFile.FieldType)).before args0 about1 = true := code_word (m := ⟨0, 0⟩) (meth := k0m0) (c := k0c0) (by decide +kernel) rfl rfl rfl (by decide +kernel)
set_option maxRecDepth 65536 in
theorem w_c4 : (Jvm.Cond.code ({ cls := "java/lang/StringUTF16", name := "compress", desc := "([CII)[B" } : Jvm.MethodName) jdk_52_method_16_code (6 : Nat) (Option.some (Jvm.ClassFile.FieldType.array Jvm.ClassFile.FieldType.byte))).before args0 about1 = true := code_word (m := ⟨10, 2⟩) (meth := k10m2) (c := k10c2) (by decide +kernel) rfl rfl rfl (by decide +kernel)
set_option maxRecDepth 65536 in
theorem w_c5 : (Jvm.Cond.code ({ cls := "java/lang/StringUTF16", name := "compress", desc := "([CI[BII)I" } : Jvm.MethodName) jdk_52_method_21_code (7 : Nat) (Option.some Jvm.ClassFile.FieldType.int)).before args0 about1 = true := code_word (m := ⟨10, 3⟩) (meth := k10m3) (c := k10c3) (by decide +kernel) rfl rfl rfl (by decide +kernel)
set_option maxRecDepth 65536 in
theorem w_c6 : (Jvm.Cond.code ({ cls := "java/lang/StringUTF16", name := "coderFromArrayLen", desc := "([BI)B" } : Jvm.MethodName) jdk_52_method_15_code (2 : Nat) (Option.some Jvm.ClassFile.FieldType.byte)).before args0 about1 = true := code_word (m := ⟨10, 1⟩) (meth := k10m1) (c := k10c1) (by decide +kernel) rfl rfl rfl (by decide +kernel)
set_option maxRecDepth 65536 in
theorem w_c7 : (Jvm.Cond.code ({ cls := "com/example/thingstead/thingstead/mimir/Treasure", name := "<init>", desc := "(Ljava/lang/String;I)V" } : Jvm.MethodName) prog_8_method_1_code (3 : Nat) (Option.none : Option Jvm.ClassFile.FieldType)).before args0 about1 = true := code_word (m := ⟨3, 0⟩) (meth := k3m0) (c := k3c0) (by decide +kernel) rfl rfl rfl (by decide +kernel)
set_option maxRecDepth 65536 in
theorem w_c8 : (Jvm.Cond.code ({ cls := "java/lang/Record", name := "<init>", desc := "()V" } : Jvm.MethodName) jdk_30_method_1_code (1 : Nat) (Option.none : Option Jvm.ClassFile.FieldType)).before args0 about1 = true := code_word (m := ⟨2, 0⟩) (meth := k2m0) (c := k2c0) (by decide +kernel) rfl rfl rfl (by decide +kernel)
set_option maxRecDepth 65536 in
theorem w_c9 : (Jvm.Cond.code ({ cls := "com/example/thingstead/thingstead/mimir/Treasure", name := "hashCode", desc := "()I" } : Jvm.MethodName) prog_8_method_3_code (1 : Nat) (Option.some Jvm.ClassFile.FieldType.int)).before args0 about1 = true := code_word (m := ⟨3, 1⟩) (meth := k3m1) (c := k3c1) (by decide +kernel) rfl rfl rfl (by decide +kernel)
set_option maxRecDepth 65536 in
theorem w_c10 : (Jvm.Cond.code ({ cls := "java/lang/String", name := "hashCode", desc := "()I" } : Jvm.MethodName) jdk_42_method_78_code (2 : Nat) (Option.some Jvm.ClassFile.FieldType.int)).before args0 about1 = true := code_word (m := ⟨9, 2⟩) (meth := k9m2) (c := k9c2) (by decide +kernel) rfl rfl rfl (by decide +kernel)
set_option maxRecDepth 65536 in
theorem w_c11 : (Jvm.Cond.code ({ cls := "java/lang/String", name := "isLatin1", desc := "()Z" } : Jvm.MethodName) jdk_42_method_154_code (1 : Nat) (Option.some Jvm.ClassFile.FieldType.boolean)).before args0 about1 = true := code_word (m := ⟨9, 4⟩) (meth := k9m4) (c := k9c4) (by decide +kernel) rfl rfl rfl (by decide +kernel)
set_option maxRecDepth 65536 in
theorem w_c12 : (Jvm.Cond.code ({ cls := "java/lang/StringLatin1", name := "hashCode", desc := "([B)I" } : Jvm.MethodName) jdk_43_method_21_code (1 : Nat) (Option.some Jvm.ClassFile.FieldType.int)).before args0 about1 = true := code_word (m := ⟨11, 1⟩) (meth := k11m1) (c := k11c1) (by decide +kernel) rfl rfl rfl (by decide +kernel)
set_option maxRecDepth 65536 in
theorem w_c13 : (Jvm.Cond.code ({ cls := "jdk/internal/util/ArraysSupport", name := "vectorizedHashCode", desc := "(Ljava/lang/Object;IIII)I" } : Jvm.MethodName) jdk_48_method_4_code (5 : Nat) (Option.some Jvm.ClassFile.FieldType.int)).before args0 about1 = true := code_word (m := ⟨12, 1⟩) (meth := k12m1) (c := k12c1) (by decide +kernel) rfl rfl rfl (by decide +kernel)
set_option maxRecDepth 65536 in
theorem w_c14 : (Jvm.Cond.code ({ cls := "jdk/internal/util/ArraysSupport", name := "signedHashCode", desc := "(I[BII)I" } : Jvm.MethodName) jdk_48_method_5_code (6 : Nat) (Option.some Jvm.ClassFile.FieldType.int)).before args0 about1 = true := code_word (m := ⟨12, 2⟩) (meth := k12m2) (c := k12c2) (by decide +kernel) rfl rfl rfl (by decide +kernel)
def codes1 : List Jvm.Cond := [Jvm.Cond.code x code maxLocals ret, Jvm.Cond.code ({ cls := "java/lang/String", name := "<init>", desc := "([C)V" } : Jvm.MethodName) jdk_42_method_3_code (2 : Nat) (Option.none : Option Jvm.ClassFile.FieldType), Jvm.Cond.code ({ cls := "java/lang/String", name := "<init>", desc := "([CIILjava/lang/Void;)V" } : Jvm.MethodName) jdk_42_method_149_code (6 : Nat) (Option.none : Option Jvm.ClassFile.FieldType), Jvm.Cond.code ({ cls := "java/lang/Object", name := "<init>", desc := "()V" } : Jvm.MethodName) object_method_1_code (1 : Nat) (Option.none : Option Jvm.ClassFile.FieldType), Jvm.Cond.code ({ cls := "java/lang/StringUTF16", name := "compress", desc := "([CII)[B" } : Jvm.MethodName) jdk_52_method_16_code (6 : Nat) (Option.some (Jvm.ClassFile.FieldType.array Jvm.ClassFile.FieldType.byte)), Jvm.Cond.code ({ cls := "java/lang/StringUTF16", name := "compress", desc := "([CI[BII)I" } : Jvm.MethodName) jdk_52_method_21_code (7 : Nat) (Option.some Jvm.ClassFile.FieldType.int), Jvm.Cond.code ({ cls := "java/lang/StringUTF16", name := "coderFromArrayLen", desc := "([BI)B" } : Jvm.MethodName) jdk_52_method_15_code (2 : Nat) (Option.some Jvm.ClassFile.FieldType.byte), Jvm.Cond.code ({ cls := "com/example/thingstead/thingstead/mimir/Treasure", name := "<init>", desc := "(Ljava/lang/String;I)V" } : Jvm.MethodName) prog_8_method_1_code (3 : Nat) (Option.none : Option Jvm.ClassFile.FieldType), Jvm.Cond.code ({ cls := "java/lang/Record", name := "<init>", desc := "()V" } : Jvm.MethodName) jdk_30_method_1_code (1 : Nat) (Option.none : Option Jvm.ClassFile.FieldType), Jvm.Cond.code ({ cls := "com/example/thingstead/thingstead/mimir/Treasure", name := "hashCode", desc := "()I" } : Jvm.MethodName) prog_8_method_3_code (1 : Nat) (Option.some Jvm.ClassFile.FieldType.int), Jvm.Cond.code ({ cls := "java/lang/String", name := "hashCode", desc := "()I" } : Jvm.MethodName) jdk_42_method_78_code (2 : Nat) (Option.some Jvm.ClassFile.FieldType.int), Jvm.Cond.code ({ cls := "java/lang/String", name := "isLatin1", desc := "()Z" } : Jvm.MethodName) jdk_42_method_154_code (1 : Nat) (Option.some Jvm.ClassFile.FieldType.boolean), Jvm.Cond.code ({ cls := "java/lang/StringLatin1", name := "hashCode", desc := "([B)I" } : Jvm.MethodName) jdk_43_method_21_code (1 : Nat) (Option.some Jvm.ClassFile.FieldType.int), Jvm.Cond.code ({ cls := "jdk/internal/util/ArraysSupport", name := "vectorizedHashCode", desc := "(Ljava/lang/Object;IIII)I" } : Jvm.MethodName) jdk_48_method_4_code (5 : Nat) (Option.some Jvm.ClassFile.FieldType.int), Jvm.Cond.code ({ cls := "jdk/internal/util/ArraysSupport", name := "signedHashCode", desc := "(I[BII)I" } : Jvm.MethodName) jdk_48_method_5_code (6 : Nat) (Option.some Jvm.ClassFile.FieldType.int)]
set_option maxRecDepth 65536 in
theorem codes_eq : words1.filter isCode = codes1 := rfl
theorem w_codes : ∀ c ∈ words1.filter isCode, c.before args0 about1 = true := by
  rw [codes_eq]
  intro c hc
  simp only [codes1, List.mem_cons, List.not_mem_nil, or_false] at hc
  rcases hc with rfl | rfl | rfl | rfl | rfl | rfl | rfl | rfl | rfl | rfl | rfl | rfl | rfl | rfl | rfl
  · exact w_c0
  · exact w_c1
  · exact w_c2
  · exact w_c3
  · exact w_c4
  · exact w_c5
  · exact w_c6
  · exact w_c7
  · exact w_c8
  · exact w_c9
  · exact w_c10
  · exact w_c11
  · exact w_c12
  · exact w_c13
  · exact w_c14
set_option maxRecDepth 65536 in
theorem w_t1 : (words1.take 24).all (fun c => isCode c || c.before args0 about1) = true := by decide +kernel
set_option maxRecDepth 65536 in
theorem w_t2 : ((words1.drop 24).take 24).all (fun c => isCode c || c.before args0 about1) = true := by decide +kernel
set_option maxRecDepth 65536 in
theorem w_t3 : (((words1.drop 24).drop 24).take 24).all (fun c => isCode c || c.before args0 about1) = true := by decide +kernel
set_option maxRecDepth 65536 in
theorem w_t4 : (((words1.drop 24).drop 24).drop 24).all (fun c => isCode c || c.before args0 about1) = true := by decide +kernel
theorem w_tables : (allAtoms (Jvm.Cond.code x code maxLocals ret :: tables_1)).before args0 about1 = true := by
  rw [allAtoms_all]
  show words1.all (fun c => c.before args0 about1) = true
  refine all_split ?_ w_codes
  rw [← List.take_append_drop 24 words1, List.all_append, w_t1, ← List.take_append_drop 24 (words1.drop 24), List.all_append, w_t2, ← List.take_append_drop 24 ((words1.drop 24).drop 24), List.all_append, w_t3, w_t4]
  rfl
set_option maxRecDepth 65536 in
theorem w_rest : rest_1_c.before args0 about1 = true := by decide +kernel
set_option maxRecDepth 65536 in
theorem w_case : (Jvm.Cond.and given_1 narrow_1).before args0 about1 = true := by decide +kernel
set_option maxRecDepth 65536 in
theorem w_consts : constsHeld consts_1 about1 := Jvm.Lit.constsHeldB_iff.mp (by decide +kernel)
theorem w_applies : (headSpec (Jvm.Cond.code x code maxLocals ret :: tables_1) room_1).applies x e0.platform about1 = true :=
  (Spec.applies_iff w_frames).mpr ⟨w_running, w_runnable, w_alone, w_named, w_hears, w_ripe, w_room, w_tables⟩
theorem atStart : AtStart classFile x code maxLocals ret World_1 tables_1 room_1 Calls_1 rest_1 Pre_1 launch0 p0 e0 about1 theMethod args0 below0 :=
  ⟨lists_1, trivial, launch0.admits_env _ _ _, launch0.least_env, fairChoices_fair.cas, fairChoices_fair.clock, w_frames, w_args, w_heap, w_applies, ⟨w_consts, trivial⟩, w_rest, w_case⟩
end start1
theorem witness_1 : WitnessClaimed_1 := ⟨start1.p0, start1.e0, start1.about1, start1.theMethod, start1.args0, start1.below0, start1.atStart⟩
end Jvm.Pilot.@@N@@
