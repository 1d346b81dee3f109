import JvmDerived
import JvmDerived.Pilot.@@N@@Statement
import JvmDerived.Pilot.@@N@@Code
set_option linter.unusedVariables false
set_option linter.unusedSimpArgs false
/- laws to paste: Road.backV, Road.eqW, Road.codOf (cut by pick.py; bodies as the Statement names them) -/
namespace Jvm.Pilot.@@N@@
namespace StrChars
open Jvm Sem ClassFile Op Lib Jvm.Stand Jvm.Free.XT Jvm.Free.ALB Jvm.Free.JM Jvm.Free
open Jvm.Lib.Cold (StaticIs)
/-- a char array whose places are chars -/
def Ch (a : Addr) (A : Cell) (U : State) : Prop := Arr .char a A U ∧ Typed .char A
theorem Ch.mv {a : Addr} {A : Cell} {U U' : State} (h : Ch a A U) (hal : U.vm.Alike U'.vm) (hh : U'.heap = U.heap) : Ch a A U' := ⟨h.1.mv hal hh, h.2⟩
theorem Ch.keep {a : Addr} {A : Cell} {U U' : State} (h : Ch a A U) (hal : U.vm.Alike U'.vm) (hk : U'.heap[a]? = some A) : Ch a A U' := ⟨h.1.keep hal hk, h.2⟩
/-- what place i of a char[]'s cell holds -/
def cv (A : Cell) (i : Nat) : Int32 := match A.slots[i]? with | some (.int x) => x | _ => 0
theorem Ch.get {a : Addr} {A : Cell} {U : State} (h : Ch a A U) {i : Nat} (hi : i < A.slots.size) : A.slots[i]? = some (.int (cv A i)) := by
  have e := Array.getElem?_eq_getElem hi
  have f := h.2 i _ e
  unfold cv; rw [e]
  generalize A.slots[i] = v at f
  cases v <;> simp [fits] at f ⊢
/-- the byte that i2b leaves of a char -/
def lo8 (x : Int32) : Int32 := x.toInt8.toInt32
theorem fits_lo8 (y : Int32) : fits .byte (.int (lo8 y)) = true := by
  have h1 := y.toInt8.le_toInt
  have h2 := y.toInt8.toInt_lt
  simp only [lo8, fits, Bool.and_eq_true, decide_eq_true_eq, Int32.le_iff_toInt_le, Int8.toInt_toInt32, show (-128 : Int32).toInt = -128 from by decide, show (127 : Int32).toInt = 127 from by decide]
  omega
/-- A' is A but that each place j of lo .. hi - 1 holds f j -/
def Laid (A A' : Cell) (lo hi : Nat) (f : Nat → Value) : Prop := A'.cls = A.cls ∧ A'.vm = A.vm ∧ A'.slots.size = A.slots.size ∧ ∀ i, A'.slots[i]? = if lo ≤ i ∧ i < hi then some (f i) else A.slots[i]?
theorem Laid.zero (A : Cell) (lo : Nat) (f : Nat → Value) : Laid A A lo (lo + 0) f := ⟨rfl, rfl, rfl, fun i => by rw [if_neg (by omega)]⟩
theorem Laid.step {A Ak : Cell} {lo k : Nat} {f : Nat → Value} {v : Value} (h : Laid A Ak lo k f) (hlo : lo ≤ k) (hk : k < Ak.slots.size) (hv : v = f k) : Laid A (Ak.setSlot k v) lo (k + 1) f := by
  refine ⟨h.1, h.2.1, by simpa [Cell.setSlot] using h.2.2.1, fun i => ?_⟩
  by_cases e : k = i
  · subst e; rw [Cell.slots_setSlot_self v hk, if_pos (by omega), hv]
  · rw [Cell.slots_setSlot_ne v e, h.2.2.2 i]
    by_cases q : lo ≤ i ∧ i < k
    · rw [if_pos q, if_pos (by omega)]
    · rw [if_neg q, if_neg (by omega)]
def U16 : String := "java/lang/StringUTF16"
namespace Cmp5
def yN : MethodName := ⟨"java/lang/StringUTF16", "compress", "([CI[BII)I"⟩
abbrev yB : ByteArray := jdk_52_method_21_code
theorem d0 : decode yB 0 = .ok (.iconst 0, 1) := by decide +kernel
theorem d1 : decode yB 1 = .ok (.istore 5, 2) := by decide +kernel
theorem d3 : decode yB 3 = .ok (.iload 5, 2) := by decide +kernel
theorem d5 : decode yB 5 = .ok (.iload 4, 2) := by decide +kernel
theorem d7 : decode yB 7 = .ok (.if_icmp (.ge) 37, 3) := by decide +kernel
theorem d10 : decode yB 10 = .ok (.aload_n 0, 1) := by decide +kernel
theorem d11 : decode yB 11 = .ok (.iload_n 1, 1) := by decide +kernel
theorem d12 : decode yB 12 = .ok (.caload, 1) := by decide +kernel
theorem d13 : decode yB 13 = .ok (.istore 6, 2) := by decide +kernel
theorem d15 : decode yB 15 = .ok (.iload 6, 2) := by decide +kernel
theorem d17 : decode yB 17 = .ok (.sipush 255, 3) := by decide +kernel
theorem d20 : decode yB 20 = .ok (.if_icmp (.le) 6, 3) := by decide +kernel
theorem d26 : decode yB 26 = .ok (.aload_n 2, 1) := by decide +kernel
theorem d27 : decode yB 27 = .ok (.iload_n 3, 1) := by decide +kernel
theorem d28 : decode yB 28 = .ok (.iload 6, 2) := by decide +kernel
theorem d30 : decode yB 30 = .ok (.i2b, 1) := by decide +kernel
theorem d31 : decode yB 31 = .ok (.bastore, 1) := by decide +kernel
theorem d32 : decode yB 32 = .ok (.iinc 1 1, 3) := by decide +kernel
theorem d35 : decode yB 35 = .ok (.iinc 3 1, 3) := by decide +kernel
theorem d38 : decode yB 38 = .ok (.iinc 5 1, 3) := by decide +kernel
theorem d41 : decode yB 41 = .ok (.goto (-38), 3) := by decide +kernel
theorem d44 : decode yB 44 = .ok (.iload 4, 2) := by decide +kernel
theorem d46 : decode yB 46 = .ok (.ireturn, 1) := by decide +kernel
def site : List Cond := []
def tab : Cond := tabOf yN yB 7 (some .int) site
def P (b : Addr) (A : Cell) (d : Addr) (B : Cell) (o q len : Nat) (args : Array Value) (s : State) : Prop := args = #[.ref b, .int (Int32.ofNat o), .ref d, .int (Int32.ofNat q), .int (Int32.ofNat len)] ∧ Ch b A s ∧ Arr .byte d B s ∧ b ≠ d ∧ o + len ≤ A.slots.size ∧ q + len ≤ B.slots.size ∧ ∀ i, i < len → ¬ 255 < cv A (o + i)
def E (b : Addr) (A : Cell) (d : Addr) (B : Cell) (o q len : Nat) (r : Option Value) (s u : State) : Prop := r = some (.int (Int32.ofNat len)) ∧ ∃ B', Put d B' s u ∧ Laid B B' q (q + len) (fun j => Value.int (lo8 (cv A (o + (j - q)))))
/-- no char of the range above 255: len; the places written hold each char's low byte -/
theorem law (l : Launch) (b : Addr) (A : Cell) (d : Addr) (B : Cell) (o q len : Nat) : Law l yN 5 5 0 0 yB 7 (some .int) site (P b A d B o q len) (E b A d B o q len) (copyLocs d q len) 0 0 := by
  refine Law.of_walk (plainFor_of_name (by decide +kernel)) (by decide +kernel) (by decide +kernel) (by decide) (fun _ _ h => by rw [h.1]; rfl) (fun _ U U' hal hh h => ⟨h.1, h.2.1.mv hal hh, h.2.2.1.mv hal hh, h.2.2.2⟩) (fun r U U' V V' h1 hal h2 h => ⟨h.1, h.2.elim fun B' q => ⟨B', q.1.mv h1 h2, q.2⟩⟩) ?_
  intro p e s m args below meth c s₁ X0 hexec hbytes hml hret hlk hnm hown hh0 W hP
  obtain ⟨rfl, hA, hB, hne, l1, l2, hp⟩ := hP
  have c1 : Steps p.tables e below (s₁.setTop (entryFrame m #[.ref b, .int (Int32.ofNat o), .ref d, .int (Int32.ofNat q), .int (Int32.ofNat len)] 7)) (s₁.setTop (mkF m 0 #[.val (.ref b), .val (.int (Int32.ofNat o)), .val (.ref d), .val (.int (Int32.ofNat q)), .val (.int (Int32.ofNat len)), .unset, .unset] [])) := entry rfl
  have hA0 := hA.1.mv X0.warmed.alike hh0
  have hB0 := hB.mv X0.warmed.alike hh0
  have a31 := hA.1.2.2.2
  have c2 : Steps p.tables e below (s₁.setTop (entryFrame m #[.ref b, .int (Int32.ofNat o), .ref d, .int (Int32.ofNat q), .int (Int32.ofNat len)] 7)) (s₁.setTop (mkF m 3 #[.val (.ref b), .val (.int (Int32.ofNat o)), .val (.ref d), .val (.int (Int32.ofNat q)), .val (.int (Int32.ofNat len)), .val (.int 0), .unset] [])) := c1.trans (by
    refine iconstV X0.here hexec rfl 0 (hb hbytes d0) (by decide) ?_
    refine XS.istore X0.here hexec rfl (hb hbytes d1) rfl rfl ?_
    exact Steps.refl _)
  have loop : ∀ (r i : Nat), i + r = len → ∀ (z : Slot), (z = .unset ∨ ∃ w, z = .val w ∧ w.category = 1) → ∀ (Tl : State) (Bk : Cell), Stand p l e { frames := 0, locals := 0, cells := 0, slots := 0 } s m #[.ref b, .int (Int32.ofNat o), .ref d, .int (Int32.ofNat q), .int (Int32.ofNat len)] below meth c Tl ([] ++ copyLocs d q i) 0 0 → Put d Bk s₁ Tl → Laid B Bk q (q + i) (fun j => Value.int (lo8 (cv A (o + (j - q))))) →
      Steps p.tables e below (s₁.setTop (entryFrame m #[.ref b, .int (Int32.ofNat o), .ref d, .int (Int32.ofNat q), .int (Int32.ofNat len)] 7)) (Tl.setTop (mkF m 3 #[.val (.ref b), .val (.int (Int32.ofNat (o + i))), .val (.ref d), .val (.int (Int32.ofNat (q + i))), .val (.int (Int32.ofNat len)), .val (.int (Int32.ofNat i)), z] [])) → ∃ (T' : State) (B' : Cell) (z' : Slot), Stand p l e { frames := 0, locals := 0, cells := 0, slots := 0 } s m #[.ref b, .int (Int32.ofNat o), .ref d, .int (Int32.ofNat q), .int (Int32.ofNat len)] below meth c T' ([] ++ copyLocs d q len) 0 0 ∧ Put d B' s₁ T' ∧ Laid B B' q (q + len) (fun j => Value.int (lo8 (cv A (o + (j - q))))) ∧
      Steps p.tables e below (s₁.setTop (entryFrame m #[.ref b, .int (Int32.ofNat o), .ref d, .int (Int32.ofNat q), .int (Int32.ofNat len)] 7)) (T'.setTop (mkF m 3 #[.val (.ref b), .val (.int (Int32.ofNat (o + len))), .val (.ref d), .val (.int (Int32.ofNat (q + len))), .val (.int (Int32.ofNat len)), .val (.int (Int32.ofNat len)), z'] [])) := by
    intro r
    induction r with
    | zero =>
      intro i hi z hz Tl Bk Xl pl fl cl
      have hil : i = len := by omega
      rw [hil] at Xl fl cl
      exact ⟨Tl, Bk, z, Xl, pl, fl, cl⟩
    | succ r ih =>
      intro i hi z hz Tl Bk Xl pl fl cl
      have all := X0.warmed.alike.symm.trans Xl.warmed.alike
      have hAl := hA0.keep all (pl.other hne hA0.1)
      have hBk := hB0.like all pl.1 fl.1 fl.2.1 fl.2.2.1
      have hlt : q + i < Bk.slots.size := by rw [fl.2.2.1]; omega
      have c3 : Steps p.tables e below (s₁.setTop (entryFrame m #[.ref b, .int (Int32.ofNat o), .ref d, .int (Int32.ofNat q), .int (Int32.ofNat len)] 7)) (Tl.setTop (mkF m 12 #[.val (.ref b), .val (.int (Int32.ofNat (o + i))), .val (.ref d), .val (.int (Int32.ofNat (q + i))), .val (.int (Int32.ofNat len)), .val (.int (Int32.ofNat i)), z] [.int (Int32.ofNat (o + i)), .ref b])) := cl.trans (by
        refine XS.iload Xl.here hexec rfl (hb hbytes d3) rfl ?_
        refine XS.iload Xl.here hexec rfl (hb hbytes d5) rfl ?_
        refine XS.icmpNo Xl.here hexec rfl (hb hbytes d7) rfl (ii_ge_f (lt32 (by omega) (by omega))) ?_
        refine XS.aloadN Xl.here hexec rfl (hb hbytes d10) rfl rfl ?_
        refine XS.iloadN Xl.here hexec rfl (hb hbytes d11) rfl ?_
        exact Steps.refl _)
      have c4 : Steps p.tables e below (s₁.setTop (entryFrame m #[.ref b, .int (Int32.ofNat o), .ref d, .int (Int32.ofNat q), .int (Int32.ofNat len)] 7)) (Tl.setTop (mkF m 13 #[.val (.ref b), .val (.int (Int32.ofNat (o + i))), .val (.ref d), .val (.int (Int32.ofNat (q + i))), .val (.int (Int32.ofNat len)), .val (.int (Int32.ofNat i)), z] [.int (cv A (o + i))])) := c3.trans (by
        refine Xl.aget hexec hAl rfl (hA.get (i := o + i) (by omega)) rfl rfl (hb hbytes d12) ?_
        exact Steps.refl _)
      have c5 : Steps p.tables e below (s₁.setTop (entryFrame m #[.ref b, .int (Int32.ofNat o), .ref d, .int (Int32.ofNat q), .int (Int32.ofNat len)] 7)) (Tl.setTop (mkF m 15 #[.val (.ref b), .val (.int (Int32.ofNat (o + i))), .val (.ref d), .val (.int (Int32.ofNat (q + i))), .val (.int (Int32.ofNat len)), .val (.int (Int32.ofNat i)), .val (.int (cv A (o + i)))] [])) := c4.trans (by
        refine XS.istoreS Xl.here hexec rfl (hb hbytes d13) rfl rfl hz ?_
        exact Steps.refl _)
      have c6 : Steps p.tables e below (s₁.setTop (entryFrame m #[.ref b, .int (Int32.ofNat o), .ref d, .int (Int32.ofNat q), .int (Int32.ofNat len)] 7)) (Tl.setTop (mkF m 31 #[.val (.ref b), .val (.int (Int32.ofNat (o + i))), .val (.ref d), .val (.int (Int32.ofNat (q + i))), .val (.int (Int32.ofNat len)), .val (.int (Int32.ofNat i)), .val (.int (cv A (o + i)))] [.int (lo8 (cv A (o + i))), .int (Int32.ofNat (q + i)), .ref d])) := c5.trans (by
        refine XS.iload Xl.here hexec rfl (hb hbytes d15) rfl ?_
        refine sipushV Xl.here hexec rfl 255 (hb hbytes d17) (by decide) ?_
        refine XS.icmpYes Xl.here hexec rfl (pc0 := 20) rfl (hb hbytes d20) rfl (ii_le_t (hp i (by omega))) (by decide) rfl ?_
        refine XS.aloadN Xl.here hexec rfl (hb hbytes d26) rfl rfl ?_
        refine XS.iloadN Xl.here hexec rfl (hb hbytes d27) rfl ?_
        refine XS.iload Xl.here hexec rfl (hb hbytes d28) rfl ?_
        refine i2b Xl.here hexec rfl (hb hbytes d30) rfl ?_
        exact Steps.refl _)
      obtain ⟨T7, X7, p7, st7⟩ := Xl.aput hexec hBk rfl hlt rfl (fits_lo8 (cv A (o + i))) (g := (mkF m 31 #[.val (.ref b), .val (.int (Int32.ofNat (o + i))), .val (.ref d), .val (.int (Int32.ofNat (q + i))), .val (.int (Int32.ofNat len)), .val (.int (Int32.ofNat i)), .val (.int (cv A (o + i)))] [.int (lo8 (cv A (o + i))), .int (Int32.ofNat (q + i)), .ref d])) rfl (rest := []) rfl (hb hbytes d31)
      have c8 : Steps p.tables e below (s₁.setTop (entryFrame m #[.ref b, .int (Int32.ofNat o), .ref d, .int (Int32.ofNat q), .int (Int32.ofNat len)] 7)) (T7.setTop (mkF m 32 #[.val (.ref b), .val (.int (Int32.ofNat (o + i))), .val (.ref d), .val (.int (Int32.ofNat (q + i))), .val (.int (Int32.ofNat len)), .val (.int (Int32.ofNat i)), .val (.int (cv A (o + i)))] [])) := c6.trans (st7 _ (Steps.refl _))
      have c9 : Steps p.tables e below (s₁.setTop (entryFrame m #[.ref b, .int (Int32.ofNat o), .ref d, .int (Int32.ofNat q), .int (Int32.ofNat len)] 7)) (T7.setTop (mkF m 3 #[.val (.ref b), .val (.int (Int32.ofNat (o + i) + 1)), .val (.ref d), .val (.int (Int32.ofNat (q + i) + 1)), .val (.int (Int32.ofNat len)), .val (.int (Int32.ofNat i + 1)), .val (.int (cv A (o + i)))] [])) := c8.trans (by
        refine iincV X7.here hexec rfl 1 (hb hbytes d32) (by decide) rfl rfl ?_
        refine iincV X7.here hexec rfl 1 (hb hbytes d35) (by decide) rfl rfl ?_
        refine iincV X7.here hexec rfl 1 (hb hbytes d38) (by decide) rfl rfl ?_
        refine XS.goto X7.here hexec rfl (pc0 := 41) rfl (hb hbytes d41) (by decide) rfl ?_
        exact Steps.refl _)
      have c10 : Steps p.tables e below (s₁.setTop (entryFrame m #[.ref b, .int (Int32.ofNat o), .ref d, .int (Int32.ofNat q), .int (Int32.ofNat len)] 7)) (T7.setTop (mkF m 3 #[.val (.ref b), .val (.int (Int32.ofNat (o + (i + 1)))), .val (.ref d), .val (.int (Int32.ofNat (q + (i + 1)))), .val (.int (Int32.ofNat len)), .val (.int (Int32.ofNat (i + 1))), .val (.int (cv A (o + i)))] [])) := by
        have := c9
        rw [succ32, succ32, succ32] at this
        exact this
      exact ih (i + 1) (by omega) _ (Or.inr ⟨_, rfl, rfl⟩) T7 _ (by rw [copyLocs_step, ← List.append_assoc]; exact X7) (pl.trans p7) (fl.step (by omega) hlt (by simp)) c10
  obtain ⟨T9, B9, z9, X9, p9, f9, g9⟩ := loop len 0 (by omega) .unset (Or.inl rfl) s₁ B (by simpa [copyLocs] using X0) ⟨hB0.1, fun _ _ => rfl, rfl⟩ (Laid.zero _ _ _) c2
  have c11 : Steps p.tables e below (s₁.setTop (entryFrame m #[.ref b, .int (Int32.ofNat o), .ref d, .int (Int32.ofNat q), .int (Int32.ofNat len)] 7)) (T9.setTop (mkF m 46 #[.val (.ref b), .val (.int (Int32.ofNat (o + len))), .val (.ref d), .val (.int (Int32.ofNat (q + len))), .val (.int (Int32.ofNat len)), .val (.int (Int32.ofNat len)), z9] [.int (Int32.ofNat len)])) := g9.trans (by
    refine XS.iload X9.here hexec rfl (hb hbytes d3) rfl ?_
    refine XS.iload X9.here hexec rfl (hb hbytes d5) rfl ?_
    refine XS.icmpYes X9.here hexec rfl (pc0 := 7) rfl (hb hbytes d7) rfl (ii_ge_t (nlt32 (by omega) (Nat.le_refl _))) (by decide) rfl ?_
    refine XS.iload X9.here hexec rfl (hb hbytes d44) rfl ?_
    exact Steps.refl _)
  exact ⟨T9, some (.int (Int32.ofNat len)), _, _, _, X9, by simp, rfl, rfl, (fun h => by cases h), ⟨rfl, B9, p9.from hh0, f9⟩, fun fs hl => c11.trans (X9.ireturnOut hexec hret rfl (Or.inl rfl) (hb hbytes d46) hl)⟩
end Cmp5
namespace Cmp3
def yN : MethodName := ⟨"java/lang/StringUTF16", "compress", "([CII)[B"⟩
abbrev yB : ByteArray := jdk_52_method_16_code
theorem d0 : decode yB 0 = .ok (.iload_n 2, 1) := by decide +kernel
theorem d1 : decode yB 1 = .ok (.newarray .byte, 2) := by decide +kernel
theorem d3 : decode yB 3 = .ok (.astore_n 3, 1) := by decide +kernel
theorem d4 : decode yB 4 = .ok (.aload_n 0, 1) := by decide +kernel
theorem d5 : decode yB 5 = .ok (.iload_n 1, 1) := by decide +kernel
theorem d6 : decode yB 6 = .ok (.aload_n 3, 1) := by decide +kernel
theorem d7 : decode yB 7 = .ok (.iconst 0, 1) := by decide +kernel
theorem d8 : decode yB 8 = .ok (.iload_n 2, 1) := by decide +kernel
theorem d9 : decode yB 9 = .ok (.invokestatic 115, 3) := by decide +kernel
theorem d12 : decode yB 12 = .ok (.istore 4, 2) := by decide +kernel
theorem d14 : decode yB 14 = .ok (.iload 4, 2) := by decide +kernel
theorem d16 : decode yB 16 = .ok (.iload_n 2, 1) := by decide +kernel
theorem d17 : decode yB 17 = .ok (.if_icmp (.eq) 40, 3) := by decide +kernel
theorem d57 : decode yB 57 = .ok (.aload_n 3, 1) := by decide +kernel
theorem d58 : decode yB 58 = .ok (.areturn, 1) := by decide +kernel
def site : List Cond := [.arrayClass .byte, Cmp5.tab] ++ staticW U16 115 Cmp5.yN
def tab : Cond := tabOf yN yB 6 (some (.array .byte)) site
def P (b : Addr) (A : Cell) (o len : Nat) (args : Array Value) (s : State) : Prop := args = #[.ref b, .int (Int32.ofNat o), .int (Int32.ofNat len)] ∧ Ch b A s ∧ o + len ≤ A.slots.size ∧ len ≤ 536870912 ∧ ∀ i, i < len → ¬ 255 < cv A (o + i)
def E (b : Addr) (A : Cell) (o len : Nat) (r : Option Value) (s u : State) : Prop := NewArr .byte "[B" len (fun j => .int (lo8 (cv A (o + j)))) r s u ∧ u.heap.size = s.heap.size + 1
/-- no char of the range above 255: a new byte[] of their low bytes -/
theorem law (l : Launch) (b : Addr) (A : Cell) (o len : Nat) : Law l yN 3 3 1 18 yB 6 (some (.array .byte)) site (P b A o len) (E b A o len) [] 1 len := by
  refine Law.of_walk (plainFor_of_name (by decide +kernel)) (by decide +kernel) (by decide +kernel) (by decide) (fun _ _ h => by rw [h.1]; rfl) (fun _ U U' hal hh h => ⟨h.1, h.2.1.mv hal hh, h.2.2⟩) (fun r U U' V V' h1 hal h2 h => ⟨NewArr.mv r U U' V V' h1 hal h2 h.1, by rw [h1, h2]; exact h.2⟩) ?_
  intro p e s m args below meth c s₁ X0 hexec hbytes hml hret hlk hnm hown hh0 W hP
  obtain ⟨rfl, hA, l1, l2, hp⟩ := hP
  have a31 := hA.1.2.2.2
  have c1 : Steps p.tables e below (s₁.setTop (entryFrame m #[.ref b, .int (Int32.ofNat o), .int (Int32.ofNat len)] 6)) (s₁.setTop (mkF m 0 #[.val (.ref b), .val (.int (Int32.ofNat o)), .val (.int (Int32.ofNat len)), .unset, .unset, .unset] [])) := entry rfl
  have c2 : Steps p.tables e below (s₁.setTop (entryFrame m #[.ref b, .int (Int32.ofNat o), .int (Int32.ofNat len)] 6)) (s₁.setTop (mkF m 1 #[.val (.ref b), .val (.int (Int32.ofNat o)), .val (.int (Int32.ofNat len)), .unset, .unset, .unset] [.int (Int32.ofNat len)])) := c1.trans (by
    refine XS.iloadN X0.here hexec rfl (hb hbytes d0) rfl ?_
    exact Steps.refl _)
  obtain ⟨T3, B3, X3, ba3, bs3, bv3, bh3, bf3, st3⟩ := X0.anew hexec (atype := .byte) (wk W (.arrayClass .byte)) rfl (by show len * 1 ≤ _; omega) (by omega) (g := (mkF m 1 #[.val (.ref b), .val (.int (Int32.ofNat o)), .val (.int (Int32.ofNat len)), .unset, .unset, .unset] [.int (Int32.ofNat len)])) rfl (hb hbytes d1) (rest := []) rfl (Nat.le_refl _) (by show 0 + len ≤ len; omega)
  rw [hh0] at ba3 st3
  have kp3 : XT.Kept s T3 := (XT.Kept.of_eq hh0).push bh3
  have hA3 := hA.keep X3.warmed.alike (kp3 _ _ hA.1.1)
  have hne : b ≠ s.heap.size := hA.1.ne
  have c4 : Steps p.tables e below (s₁.setTop (entryFrame m #[.ref b, .int (Int32.ofNat o), .int (Int32.ofNat len)] 6)) (T3.setTop (mkF m 3 #[.val (.ref b), .val (.int (Int32.ofNat o)), .val (.int (Int32.ofNat len)), .unset, .unset, .unset] [.ref s.heap.size])) := c2.trans (st3 _ (Steps.refl _))
  have c5 : Steps p.tables e below (s₁.setTop (entryFrame m #[.ref b, .int (Int32.ofNat o), .int (Int32.ofNat len)] 6)) (T3.setTop (mkF m 9 #[.val (.ref b), .val (.int (Int32.ofNat o)), .val (.int (Int32.ofNat len)), .val (.ref s.heap.size), .unset, .unset] [.int (Int32.ofNat len), .int 0, .ref s.heap.size, .int (Int32.ofNat o), .ref b])) := c4.trans (by
    refine XS.astoreN X3.here hexec rfl (hb hbytes d3) rfl rfl rfl ?_
    refine XS.aloadN X3.here hexec rfl (hb hbytes d4) rfl rfl ?_
    refine XS.iloadN X3.here hexec rfl (hb hbytes d5) rfl ?_
    refine XS.aloadN X3.here hexec rfl (hb hbytes d6) rfl rfl ?_
    refine iconstV X3.here hexec rfl 0 (hb hbytes d7) (by decide) ?_
    refine XS.iloadN X3.here hexec rfl (hb hbytes d8) rfl ?_
    exact Steps.refl _)
  obtain ⟨v6, T6, X6, E6, g6⟩ := X3.callS hexec (Cmp5.law l b A s.heap.size B3 o 0 len) hown (wks W (staticW U16 115 Cmp5.yN)) (wk W Cmp5.tab) (W := 0) (Nat.le_of_ble_eq_true rfl) (Nat.le_of_ble_eq_true rfl) (Nat.le_refl _) (by show 0 + len + 0 ≤ len; omega) (g := (mkF m 9 #[.val (.ref b), .val (.int (Int32.ofNat o)), .val (.int (Int32.ofNat len)), .val (.ref s.heap.size), .unset, .unset] [.int (Int32.ofNat len), .int (Int32.ofNat 0), .ref s.heap.size, .int (Int32.ofNat o), .ref b])) rfl (by rw [hml]; rfl) c5 (argsL := [.ref b, .int (Int32.ofNat o), .ref s.heap.size, .int (Int32.ofNat 0), .int (Int32.ofNat len)]) (rest := []) rfl rfl (by show 2 * 0 + 0 ≤ _; decide) (hb hbytes d9) (⟨rfl, hA3, ba3, hne, l1, by rw [bs3]; simp, hp⟩)
  obtain ⟨rfl, B6, p6, f6⟩ := E6
  have c7 : Steps p.tables e below (s₁.setTop (entryFrame m #[.ref b, .int (Int32.ofNat o), .int (Int32.ofNat len)] 6)) (T6.setTop (mkF m 12 #[.val (.ref b), .val (.int (Int32.ofNat o)), .val (.int (Int32.ofNat len)), .val (.ref s.heap.size), .unset, .unset] [.int (Int32.ofNat len)])) := g6
  have c8 : Steps p.tables e below (s₁.setTop (entryFrame m #[.ref b, .int (Int32.ofNat o), .int (Int32.ofNat len)] 6)) (T6.setTop (mkF m 58 #[.val (.ref b), .val (.int (Int32.ofNat o)), .val (.int (Int32.ofNat len)), .val (.ref s.heap.size), .val (.int (Int32.ofNat len)), .unset] [.ref s.heap.size])) := c7.trans (by
    refine XS.istore X6.here hexec rfl (hb hbytes d12) rfl rfl ?_
    refine XS.iload X6.here hexec rfl (hb hbytes d14) rfl ?_
    refine XS.iloadN X6.here hexec rfl (hb hbytes d16) rfl ?_
    refine XS.icmpYes X6.here hexec rfl (pc0 := 17) rfl (hb hbytes d17) rfl (ii_eq_t rfl) (by decide) rfl ?_
    refine XS.aloadN X6.here hexec rfl (hb hbytes d57) rfl rfl ?_
    exact Steps.refl _)
  have X8 := X6.wide (L' := []) (cells' := 1) (slots' := len) (fun x hx hlt => by
    simp only [List.nil_append, copyLocs, List.mem_map, List.mem_range] at hx
    obtain ⟨i, -, rfl⟩ := hx
    exact absurd hlt (Nat.lt_irrefl _)) (Nat.le_refl _) (by omega)
  exact ⟨T6, some (.ref s.heap.size), _, _, _, X8, rfl, rfl, rfl, (fun h => by cases h), ⟨⟨rfl, B6, ba3.like (X3.warmed.alike.symm.trans X6.warmed.alike) p6.1 f6.1 f6.2.1 f6.2.2.1, f6.2.1.trans bv3, by rw [X6.warmed.alike.findClass, f6.1]; exact bf3, by rw [f6.2.2.1, bs3]; simp, fun j hj => by rw [f6.2.2.2 j, if_pos (by omega)]; rfl, kp3.put p6 (Nat.le_refl _)⟩, by rw [p6.2.2, bh3, hh0]; simp⟩, fun fs hl => c8.trans (X8.areturnOut hexec rfl hret rfl (hb hbytes d58) hl)⟩
end Cmp3
namespace CodL
def yN : MethodName := ⟨"java/lang/StringUTF16", "coderFromArrayLen", "([BI)B"⟩
abbrev yB : ByteArray := jdk_52_method_15_code
theorem d0 : decode yB 0 = .ok (.iload_n 1, 1) := by decide +kernel
theorem d1 : decode yB 1 = .ok (.aload_n 0, 1) := by decide +kernel
theorem d2 : decode yB 2 = .ok (.arraylength, 1) := by decide +kernel
theorem d3 : decode yB 3 = .ok (.isub, 1) := by decide +kernel
theorem d4 : decode yB 4 = .ok (.bipush 31, 2) := by decide +kernel
theorem d6 : decode yB 6 = .ok (.iushr, 1) := by decide +kernel
theorem d7 : decode yB 7 = .ok (.i2b, 1) := by decide +kernel
theorem d8 : decode yB 8 = .ok (.ireturn, 1) := by decide +kernel
def site : List Cond := []
def tab : Cond := tabOf yN yB 2 (some .byte) site
def P (d : Addr) (B : Cell) (args : Array Value) (s : State) : Prop := args = #[.ref d, .int (Int32.ofNat B.slots.size)] ∧ Arr .byte d B s
def E (r : Option Value) (s u : State) : Prop := XT.PureE (some (.int 0)) r s u
/-- an array as long as the number of chars: LATIN1 -/
theorem law (l : Launch) (d : Addr) (B : Cell) : Law l yN 2 2 0 0 yB 2 (some .byte) site (P d B) E [] 0 0 := by
  refine Law.of_walk (plainFor_of_name (by decide +kernel)) (by decide +kernel) (by decide +kernel) (by decide) (fun _ _ h => by rw [h.1]; rfl) (fun _ U U' hal hh h => ⟨h.1, h.2.mv hal hh⟩) (fun r U U' V V' h1 hal h2 h => XT.PureE.mv r U U' V V' h1 hal h2 h) ?_
  intro p e s m args below meth c s₁ X0 hexec hbytes hml hret hlk hnm hown hh0 W hP
  obtain ⟨rfl, hB⟩ := hP
  have hB0 := hB.mv X0.warmed.alike hh0
  have c1 : Steps p.tables e below (s₁.setTop (entryFrame m #[.ref d, .int (Int32.ofNat B.slots.size)] 2)) (s₁.setTop (mkF m 0 #[.val (.ref d), .val (.int (Int32.ofNat B.slots.size))] [])) := entry rfl
  have c2 : Steps p.tables e below (s₁.setTop (entryFrame m #[.ref d, .int (Int32.ofNat B.slots.size)] 2)) (s₁.setTop (mkF m 2 #[.val (.ref d), .val (.int (Int32.ofNat B.slots.size))] [.ref d, .int (Int32.ofNat B.slots.size)])) := c1.trans (by
    refine XS.iloadN X0.here hexec rfl (hb hbytes d0) rfl ?_
    refine XS.aloadN X0.here hexec rfl (hb hbytes d1) rfl rfl ?_
    exact Steps.refl _)
  have c3 : Steps p.tables e below (s₁.setTop (entryFrame m #[.ref d, .int (Int32.ofNat B.slots.size)] 2)) (s₁.setTop (mkF m 8 #[.val (.ref d), .val (.int (Int32.ofNat B.slots.size))] [.int (lo8 (ushr (Int32.ofNat B.slots.size - Int32.ofNat B.slots.size) 31))])) := c2.trans (by
    refine X0.alen hexec hB0 rfl rfl (hb hbytes d2) ?_
    refine XS.isub X0.here hexec rfl (hb hbytes d3) rfl ?_
    refine bipushV X0.here hexec rfl 31 (hb hbytes d4) (by decide) ?_
    refine iushr X0.here hexec rfl (hb hbytes d6) rfl ?_
    refine i2b X0.here hexec rfl (hb hbytes d7) rfl ?_
    exact Steps.refl _)
  have e0 : lo8 (ushr (Int32.ofNat B.slots.size - Int32.ofNat B.slots.size) 31) = 0 := by rw [Int32.sub_self]; decide
  rw [e0] at c3
  exact ⟨s₁, some (.int 0), _, _, _, X0, rfl, rfl, rfl, (fun h => by cases h), ⟨rfl, hh0⟩, fun fs hl => c3.trans (X0.ireturnOut hexec hret rfl (Or.inr (Or.inr (Or.inl rfl))) (hb hbytes d8) hl)⟩
end CodL
/-- the String at a is Latin-1 over a new byte[] (the heap's one new cell): the low bytes of the len chars of A from o on; every cell but a is kept -/
def Got (a : Addr) (D : Cell) (fV fC : Field) (A : Cell) (o len : Nat) (r : Option Value) (s u : State) : Prop := r = none ∧ ∃ D' V : Cell, Blank "java/lang/String" a D' u ∧ Same D D' [fV.slot, fC.slot] ∧ D'.slots[fV.slot]? = some (.ref s.heap.size) ∧ D'.slots[fC.slot]? = some (.int 0) ∧ Arr .byte s.heap.size V u ∧ V.vm = .none ∧ u.vm.findClass "[B" = some V.cls ∧ V.slots.size = len ∧ (∀ j, j < len → V.slots[j]? = some (.int (lo8 (cv A (o + j))))) ∧ (∀ (y : Addr) (c : Cell), y ≠ a → s.heap[y]? = some c → u.heap[y]? = some c) ∧ u.heap.size = s.heap.size + 1
theorem Got.mv {a : Addr} {D A : Cell} {fV fC : Field} {o len : Nat} : ∀ r (U U' V V' : State), U'.heap = U.heap → V.vm.Alike V'.vm → V'.heap = V.heap → Got a D fV fC A o len r U V → Got a D fV fC A o len r U' V' :=
  fun r U U' V V' h1 hal h2 ⟨e0, D', X, a1, a2, a3, a4, a5, a6, a7, a8, a9, a10, a11⟩ => ⟨e0, D', X, a1.mv hal h2, a2, by rw [h1]; exact a3, a4, by rw [h1]; exact a5.mv hal h2, a6, by rw [hal.findClass]; exact a7, a8, a9, by rw [h1, h2]; exact a10, by rw [h1, h2]; exact a11⟩
namespace New4
def yN : MethodName := ⟨"java/lang/String", "<init>", "([CIILjava/lang/Void;)V"⟩
abbrev yB : ByteArray := jdk_42_method_149_code
theorem d0 : decode yB 0 = .ok (.aload_n 0, 1) := by decide +kernel
theorem d1 : decode yB 1 = .ok (.invokespecial 1, 3) := by decide +kernel
theorem d4 : decode yB 4 = .ok (.iload_n 3, 1) := by decide +kernel
theorem d5 : decode yB 5 = .ok (.ifCond (.ne) 22, 3) := by decide +kernel
theorem d27 : decode yB 27 = .ok (.getstatic 38, 3) := by decide +kernel
theorem d30 : decode yB 30 = .ok (.ifCond (.eq) 28, 3) := by decide +kernel
theorem d33 : decode yB 33 = .ok (.aload_n 1, 1) := by decide +kernel
theorem d34 : decode yB 34 = .ok (.iload_n 2, 1) := by decide +kernel
theorem d35 : decode yB 35 = .ok (.iload_n 3, 1) := by decide +kernel
theorem d36 : decode yB 36 = .ok (.invokestatic 177, 3) := by decide +kernel
theorem d39 : decode yB 39 = .ok (.astore 5, 2) := by decide +kernel
theorem d41 : decode yB 41 = .ok (.aload_n 0, 1) := by decide +kernel
theorem d42 : decode yB 42 = .ok (.aload 5, 2) := by decide +kernel
theorem d44 : decode yB 44 = .ok (.iload_n 3, 1) := by decide +kernel
theorem d45 : decode yB 45 = .ok (.invokestatic 47, 3) := by decide +kernel
theorem d48 : decode yB 48 = .ok (.putfield 15, 3) := by decide +kernel
theorem d51 : decode yB 51 = .ok (.aload_n 0, 1) := by decide +kernel
theorem d52 : decode yB 52 = .ok (.aload 5, 2) := by decide +kernel
theorem d54 : decode yB 54 = .ok (.putfield 9, 3) := by decide +kernel
theorem d57 : decode yB 57 = .ok (.return_, 1) := by decide +kernel
def site : List Cond := [.fieldLink "java/lang/String" 38 "java/lang/String" "COMPACT_STRINGS" "Z", Cmp3.tab, CodL.tab, .laysFinal "java/lang/String" "java/lang/String" "value" "[B", .fieldLink "java/lang/String" 9 "java/lang/String" "value" "[B", .laysFinal "java/lang/String" "java/lang/String" "coder" "B", .fieldLink "java/lang/String" 15 "java/lang/String" "coder" "B"] ++ objW "java/lang/String" 1 ++ staticW "java/lang/String" 177 Cmp3.yN ++ staticW "java/lang/String" 47 CodL.yN
def tab : Cond := tabOf yN yB 6 none site
def P (a : Addr) (D : Cell) (fV fC : Field) (b : Addr) (A : Cell) (z : Int32) (o len : Nat) (args : Array Value) (s : State) : Prop := args = #[.ref a, .ref b, .int (Int32.ofNat o), .int (Int32.ofNat len), .null] ∧ Blank "java/lang/String" a D s ∧ Found "java/lang/String" "value" "[B" fV s ∧ Found "java/lang/String" "coder" "B" fC s ∧ Ch b A s ∧ StaticIs s "java/lang/String" "COMPACT_STRINGS" "Z" (.int z) ∧ ¬ z = 0 ∧ 0 < len ∧ o + len ≤ A.slots.size ∧ len ≤ 536870912 ∧ ∀ i, i < len → ¬ 255 < cv A (o + i)
def E (a : Addr) (D : Cell) (fV fC : Field) (A : Cell) (o len : Nat) (r : Option Value) (s u : State) : Prop := Got a D fV fC A o len r s u
/-- len > 0, no char of the range above 255: a Latin-1 String of their low bytes -/
theorem law (l : Launch) (a : Addr) (D : Cell) (fV fC : Field) (b : Addr) (A : Cell) (z : Int32) (o len : Nat) : Law l yN 5 4 2 35 yB 6 none site (P a D fV fC b A z o len) (E a D fV fC A o len) [⟨a, fC.slot⟩, ⟨a, fV.slot⟩] 1 len := by
  refine Law.of_walk (plainFor_of_name (by decide +kernel)) (by decide +kernel) (by decide +kernel) (by decide) (fun _ _ h => by rw [h.1]; rfl) (fun _ U U' hal hh h => ⟨h.1, h.2.1.mv hal hh, h.2.2.1.al hal, h.2.2.2.1.al hal, h.2.2.2.2.1.mv hal hh, h.2.2.2.2.2.1.there hal hh, h.2.2.2.2.2.2⟩) (fun r U U' V V' h1 hal h2 h => Got.mv r U U' V V' h1 hal h2 h) ?_
  intro p e s m args below meth c s₁ X0 hexec hbytes hml hret hlk hnm hown hh0 W hP
  obtain ⟨rfl, hB, f1, f2, hA, s1, hz, l0, l1, l2, hp⟩ := hP
  have a31 := hA.1.2.2.2
  have c1 : Steps p.tables e below (s₁.setTop (entryFrame m #[.ref a, .ref b, .int (Int32.ofNat o), .int (Int32.ofNat len), .null] 6)) (s₁.setTop (mkF m 0 #[.val (.ref a), .val (.ref b), .val (.int (Int32.ofNat o)), .val (.int (Int32.ofNat len)), .val .null, .unset] [])) := entry rfl
  have c2 : Steps p.tables e below (s₁.setTop (entryFrame m #[.ref a, .ref b, .int (Int32.ofNat o), .int (Int32.ofNat len), .null] 6)) (s₁.setTop (mkF m 1 #[.val (.ref a), .val (.ref b), .val (.int (Int32.ofNat o)), .val (.int (Int32.ofNat len)), .val .null, .unset] [.ref a])) := c1.trans (by
    refine XS.aloadN X0.here hexec rfl (hb hbytes d0) rfl rfl ?_
    exact Steps.refl _)
  obtain ⟨T3, X3, q3, st3⟩ := X0.oinit hexec hown (wks W (objW "java/lang/String" 1)) (g := (mkF m 1 #[.val (.ref a), .val (.ref b), .val (.int (Int32.ofNat o)), .val (.int (Int32.ofNat len)), .val .null, .unset] [.ref a])) rfl (by rw [hml]; rfl) (rest := []) rfl (hb hbytes d1) (W := 0) (by show 2 * 0 + 0 ≤ _; decide) (Nat.le_of_ble_eq_true rfl) (Nat.le_of_ble_eq_true rfl)
  have hh3 := q3.trans hh0
  have c4 : Steps p.tables e below (s₁.setTop (entryFrame m #[.ref a, .ref b, .int (Int32.ofNat o), .int (Int32.ofNat len), .null] 6)) (T3.setTop (mkF m 27 #[.val (.ref a), .val (.ref b), .val (.int (Int32.ofNat o)), .val (.int (Int32.ofNat len)), .val .null, .unset] [])) := (c2.trans (st3 _ (Steps.refl _))).trans (by
    refine XS.iloadN X3.here hexec rfl (hb hbytes d4) rfl ?_
    refine XS.ifYes X3.here hexec rfl (pc0 := 5) rfl (hb hbytes d5) rfl (i0_ne_t (nz32 (by omega) l0)) (by decide) rfl ?_
    exact Steps.refl _)
  obtain ⟨T5, X5, q5, st5⟩ := X3.sget hexec hown (wk W (.fieldLink "java/lang/String" 38 "java/lang/String" "COMPACT_STRINGS" "Z")) s1 (fun _ _ h => by rw [hh3]; exact h) (g := (mkF m 27 #[.val (.ref a), .val (.ref b), .val (.int (Int32.ofNat o)), .val (.int (Int32.ofNat len)), .val .null, .unset] [])) rfl (hb hbytes d27)
  have hh5 := q5.trans hh3
  have c6 : Steps p.tables e below (s₁.setTop (entryFrame m #[.ref a, .ref b, .int (Int32.ofNat o), .int (Int32.ofNat len), .null] 6)) (T5.setTop (mkF m 30 #[.val (.ref a), .val (.ref b), .val (.int (Int32.ofNat o)), .val (.int (Int32.ofNat len)), .val .null, .unset] [.int z])) := c4.trans (st5 _ (Steps.refl _))
  have c7 : Steps p.tables e below (s₁.setTop (entryFrame m #[.ref a, .ref b, .int (Int32.ofNat o), .int (Int32.ofNat len), .null] 6)) (T5.setTop (mkF m 36 #[.val (.ref a), .val (.ref b), .val (.int (Int32.ofNat o)), .val (.int (Int32.ofNat len)), .val .null, .unset] [.int (Int32.ofNat len), .int (Int32.ofNat o), .ref b])) := c6.trans (by
    refine XS.ifNo X5.here hexec rfl (hb hbytes d30) rfl (i0_eq_f hz) ?_
    refine XS.aloadN X5.here hexec rfl (hb hbytes d33) rfl rfl ?_
    refine XS.iloadN X5.here hexec rfl (hb hbytes d34) rfl ?_
    refine XS.iloadN X5.here hexec rfl (hb hbytes d35) rfl ?_
    exact Steps.refl _)
  obtain ⟨v8, T8, X8, E8, g8⟩ := X5.callS hexec (Cmp3.law l b A o len) hown (wks W (staticW "java/lang/String" 177 Cmp3.yN)) (wk W Cmp3.tab) (W := 0) (Nat.le_of_ble_eq_true rfl) (Nat.le_of_ble_eq_true rfl) (Nat.le_refl _) (by show 0 + len ≤ len; omega) (g := (mkF m 36 #[.val (.ref a), .val (.ref b), .val (.int (Int32.ofNat o)), .val (.int (Int32.ofNat len)), .val .null, .unset] [.int (Int32.ofNat len), .int (Int32.ofNat o), .ref b])) rfl (by rw [hml]; rfl) c7 (argsL := [.ref b, .int (Int32.ofNat o), .int (Int32.ofNat len)]) (rest := []) rfl rfl (by show 2 * 0 + 0 ≤ _; decide) (hb hbytes d36) (⟨rfl, hA.mv X5.warmed.alike hh5, l1, l2, hp⟩)
  obtain ⟨e8, z8⟩ := E8
  obtain ⟨rfl, N, n1, n2, n3, n4, n5, n6⟩ := NewArr.mv _ T5 s _ _ hh5.symm (Vm.Alike.refl _) rfl e8
  rw [hh5] at z8
  have hB1 := hB.keep X8.warmed.alike (n6 _ _ hB.1)
  have hne : s.heap.size ≠ a := (Nat.ne_of_lt (Array.getElem?_eq_some_iff.mp hB.1).1).symm
  have c9 : Steps p.tables e below (s₁.setTop (entryFrame m #[.ref a, .ref b, .int (Int32.ofNat o), .int (Int32.ofNat len), .null] 6)) (T8.setTop (mkF m 39 #[.val (.ref a), .val (.ref b), .val (.int (Int32.ofNat o)), .val (.int (Int32.ofNat len)), .val .null, .unset] [.ref s.heap.size])) := g8
  have c10 : Steps p.tables e below (s₁.setTop (entryFrame m #[.ref a, .ref b, .int (Int32.ofNat o), .int (Int32.ofNat len), .null] 6)) (T8.setTop (mkF m 45 #[.val (.ref a), .val (.ref b), .val (.int (Int32.ofNat o)), .val (.int (Int32.ofNat len)), .val .null, .val (.ref s.heap.size)] [.int (Int32.ofNat N.slots.size), .ref s.heap.size, .ref a])) := by
    have hc : Steps p.tables e below (s₁.setTop (entryFrame m #[.ref a, .ref b, .int (Int32.ofNat o), .int (Int32.ofNat len), .null] 6)) (T8.setTop (mkF m 45 #[.val (.ref a), .val (.ref b), .val (.int (Int32.ofNat o)), .val (.int (Int32.ofNat len)), .val .null, .val (.ref s.heap.size)] [.int (Int32.ofNat len), .ref s.heap.size, .ref a])) := c9.trans (by
      refine XS.astore X8.here hexec rfl (hb hbytes d39) rfl rfl rfl ?_
      refine XS.aloadN X8.here hexec rfl (hb hbytes d41) rfl rfl ?_
      refine XS.aload X8.here hexec rfl (hb hbytes d42) rfl rfl ?_
      refine XS.iloadN X8.here hexec rfl (hb hbytes d44) rfl ?_
      exact Steps.refl _)
    rw [n4]; exact hc
  obtain ⟨v11, T11, X11, E11, g11⟩ := X8.callS hexec (CodL.law l s.heap.size N) hown (wks W (staticW "java/lang/String" 47 CodL.yN)) (wk W CodL.tab) (W := 1) (Nat.le_of_ble_eq_true rfl) (Nat.le_of_ble_eq_true rfl) (Nat.le_refl _) (by show 0 + len + 0 ≤ len; omega) (g := (mkF m 45 #[.val (.ref a), .val (.ref b), .val (.int (Int32.ofNat o)), .val (.int (Int32.ofNat len)), .val .null, .val (.ref s.heap.size)] [.int (Int32.ofNat N.slots.size), .ref s.heap.size, .ref a])) rfl (by rw [hml]; rfl) c10 (argsL := [.ref s.heap.size, .int (Int32.ofNat N.slots.size)]) (rest := [.ref a]) rfl rfl (by show 2 * 0 + (1 + 0) ≤ _; decide) (hb hbytes d45) (⟨rfl, n1⟩)
  obtain ⟨rfl, q11⟩ := E11
  have hB11 := hB1.mv (X8.warmed.alike.symm.trans X11.warmed.alike) q11
  have c12 : Steps p.tables e below (s₁.setTop (entryFrame m #[.ref a, .ref b, .int (Int32.ofNat o), .int (Int32.ofNat len), .null] 6)) (T11.setTop (mkF m 48 #[.val (.ref a), .val (.ref b), .val (.int (Int32.ofNat o)), .val (.int (Int32.ofNat len)), .val .null, .val (.ref s.heap.size)] [.int 0, .ref a])) := g11
  obtain ⟨T13, X13, p13, bl13, sl13, st13⟩ := X11.finit hexec hown (wk W (.fieldLink "java/lang/String" 15 "java/lang/String" "coder" "B")) (Or.inr ⟨_, (wk W (.laysFinal "java/lang/String" "java/lang/String" "coder" "B"))⟩) (Or.inl ⟨rfl, hnm⟩) f2 (Or.inl rfl) hB11 (t := .byte) (by decide +kernel) rfl (g := (mkF m 48 #[.val (.ref a), .val (.ref b), .val (.int (Int32.ofNat o)), .val (.int (Int32.ofNat len)), .val .null, .val (.ref s.heap.size)] [.int 0, .ref a])) rfl (rest := []) rfl (hb hbytes d48)
  have c14 : Steps p.tables e below (s₁.setTop (entryFrame m #[.ref a, .ref b, .int (Int32.ofNat o), .int (Int32.ofNat len), .null] 6)) (T13.setTop (mkF m 54 #[.val (.ref a), .val (.ref b), .val (.int (Int32.ofNat o)), .val (.int (Int32.ofNat len)), .val .null, .val (.ref s.heap.size)] [.ref s.heap.size, .ref a])) := (c12.trans (st13 _ (Steps.refl _))).trans (by
    refine XS.aloadN X13.here hexec rfl (hb hbytes d51) rfl rfl ?_
    refine XS.aload X13.here hexec rfl (hb hbytes d52) rfl rfl ?_
    exact Steps.refl _)
  obtain ⟨T15, X15, p15, bl15, sl15, st15⟩ := X13.finit hexec hown (wk W (.fieldLink "java/lang/String" 9 "java/lang/String" "value" "[B")) (Or.inr ⟨_, (wk W (.laysFinal "java/lang/String" "java/lang/String" "value" "[B"))⟩) (Or.inl ⟨rfl, hnm⟩) f1 (Or.inl rfl) bl13 (t := (.array .byte)) (by decide +kernel) rfl (g := (mkF m 54 #[.val (.ref a), .val (.ref b), .val (.int (Int32.ofNat o)), .val (.int (Int32.ofNat len)), .val .null, .val (.ref s.heap.size)] [.ref s.heap.size, .ref a])) rfl (rest := []) rfl (hb hbytes d54)
  have c16 : Steps p.tables e below (s₁.setTop (entryFrame m #[.ref a, .ref b, .int (Int32.ofNat o), .int (Int32.ofNat len), .null] 6)) (T15.setTop (mkF m 57 #[.val (.ref a), .val (.ref b), .val (.int (Int32.ofNat o)), .val (.int (Int32.ofNat len)), .val .null, .val (.ref s.heap.size)] [])) := c14.trans (st15 _ (Steps.refl _))
  have ap := apart (Or.inr ⟨_, (wk W (.laysFinal "java/lang/String" "java/lang/String" "value" "[B"))⟩) (Or.inr ⟨_, (wk W (.laysFinal "java/lang/String" "java/lang/String" "coder" "B"))⟩) f1 f2 (t₁ := .array .byte) (t₂ := .byte) (by decide +kernel) (by decide +kernel) (by decide)
  have al := X8.warmed.alike.symm.trans X15.warmed.alike
  have n7 : T11.heap[s.heap.size]? = some N := by rw [q11]; exact n1.1
  exact ⟨T15, none, _, _, _, X15, by simp, rfl, by omega, (fun _ => rfl), ⟨rfl, _, N, bl15, ((Same.refl D _).set _ (by simp)).set _ (by simp), sl15, (Cell.slots_setSlot_ne _ ap).trans sl13, n1.keep al (p15.other hne (p13.other hne n7)), n2, by rw [al.findClass]; exact n3, n4, n5, fun y c h1 h2 => p15.other h1 (p13.other h1 (by rw [q11]; exact n6 y c h2)), by rw [p15.2.2, p13.2.2, q11]; exact z8⟩, fun fs hl => c16.trans (X15.returnOut hexec hret (hb hbytes d57) hl)⟩
end New4
namespace New1
def yN : MethodName := ⟨"java/lang/String", "<init>", "([C)V"⟩
abbrev yB : ByteArray := jdk_42_method_3_code
theorem d0 : decode yB 0 = .ok (.aload_n 0, 1) := by decide +kernel
theorem d1 : decode yB 1 = .ok (.aload_n 1, 1) := by decide +kernel
theorem d2 : decode yB 2 = .ok (.iconst 0, 1) := by decide +kernel
theorem d3 : decode yB 3 = .ok (.aload_n 1, 1) := by decide +kernel
theorem d4 : decode yB 4 = .ok (.arraylength, 1) := by decide +kernel
theorem d5 : decode yB 5 = .ok (.aconst_null, 1) := by decide +kernel
theorem d6 : decode yB 6 = .ok (.invokespecial 27, 3) := by decide +kernel
theorem d9 : decode yB 9 = .ok (.return_, 1) := by decide +kernel
def site : List Cond := [New4.tab] ++ initW "java/lang/String" 27 New4.yN
def tab : Cond := tabOf yN yB 2 none site
def P (a : Addr) (D : Cell) (fV fC : Field) (b : Addr) (A : Cell) (z : Int32) (args : Array Value) (s : State) : Prop := args = #[.ref a, .ref b] ∧ Blank "java/lang/String" a D s ∧ Found "java/lang/String" "value" "[B" fV s ∧ Found "java/lang/String" "coder" "B" fC s ∧ Ch b A s ∧ StaticIs s "java/lang/String" "COMPACT_STRINGS" "Z" (.int z) ∧ ¬ z = 0 ∧ 0 < A.slots.size ∧ A.slots.size ≤ 536870912 ∧ ∀ i, i < A.slots.size → ¬ 255 < cv A i
def E (a : Addr) (D : Cell) (fV fC : Field) (A : Cell) (r : Option Value) (s u : State) : Prop := Got a D fV fC A 0 A.slots.size r s u
/-- new String(chars), not empty, no char above 255: a Latin-1 String of their low bytes -/
theorem law (l : Launch) (a : Addr) (D : Cell) (fV fC : Field) (b : Addr) (A : Cell) (z : Int32) : Law l yN 2 1 3 52 yB 2 none site (P a D fV fC b A z) (E a D fV fC A) [⟨a, fC.slot⟩, ⟨a, fV.slot⟩] 1 A.slots.size := by
  refine Law.of_walk (plainFor_of_name (by decide +kernel)) (by decide +kernel) (by decide +kernel) (by decide) (fun _ _ h => by rw [h.1]; rfl) (fun _ U U' hal hh h => ⟨h.1, h.2.1.mv hal hh, h.2.2.1.al hal, h.2.2.2.1.al hal, h.2.2.2.2.1.mv hal hh, h.2.2.2.2.2.1.there hal hh, h.2.2.2.2.2.2⟩) (fun r U U' V V' h1 hal h2 h => Got.mv r U U' V V' h1 hal h2 h) ?_
  intro p e s m args below meth c s₁ X0 hexec hbytes hml hret hlk hnm hown hh0 W hP
  obtain ⟨rfl, hB, f1, f2, hA, s1, hz, l0, l2, hp⟩ := hP
  have c1 : Steps p.tables e below (s₁.setTop (entryFrame m #[.ref a, .ref b] 2)) (s₁.setTop (mkF m 0 #[.val (.ref a), .val (.ref b)] [])) := entry rfl
  have c2 : Steps p.tables e below (s₁.setTop (entryFrame m #[.ref a, .ref b] 2)) (s₁.setTop (mkF m 6 #[.val (.ref a), .val (.ref b)] [.null, .int (Int32.ofNat A.slots.size), .int 0, .ref b, .ref a])) := c1.trans (by
    refine XS.aloadN X0.here hexec rfl (hb hbytes d0) rfl rfl ?_
    refine XS.aloadN X0.here hexec rfl (hb hbytes d1) rfl rfl ?_
    refine iconstV X0.here hexec rfl 0 (hb hbytes d2) (by decide) ?_
    refine XS.aloadN X0.here hexec rfl (hb hbytes d3) rfl rfl ?_
    refine X0.alen hexec (hA.1.mv X0.warmed.alike hh0) rfl rfl (hb hbytes d4) ?_
    refine XS.aconstNull X0.here hexec rfl (hb hbytes d5) ?_
    exact Steps.refl _)
  obtain ⟨v3, T3, X3, E3, g3⟩ := X0.callN hexec (New4.law l a D fV fC b A z 0 A.slots.size) rfl hown (wks W (initW "java/lang/String" 27 New4.yN)) (W New4.tab (by simp only [site, List.mem_cons, List.mem_append, true_or, or_true])) (W := 0) (Nat.le_of_ble_eq_true rfl) (Nat.le_of_ble_eq_true rfl) (Nat.le_refl _) (by show 0 + A.slots.size ≤ A.slots.size; omega) (g := (mkF m 6 #[.val (.ref a), .val (.ref b)] [.null, .int (Int32.ofNat A.slots.size), .int (Int32.ofNat 0), .ref b, .ref a])) rfl (by rw [hml]; rfl) c2 (argsL := [.ref b, .int (Int32.ofNat 0), .int (Int32.ofNat A.slots.size), .null]) (rest := []) rfl rfl (by show 2 * 0 + 0 ≤ _; decide) (hb hbytes d6) (⟨rfl, hB.mv X0.warmed.alike hh0, f1.al X0.warmed.alike, f2.al X0.warmed.alike, hA.mv X0.warmed.alike hh0, s1.there X0.warmed.alike hh0, hz, l0, by omega, l2, fun i hi => by rw [Nat.zero_add]; exact hp i hi⟩)
  have e0 := Got.mv _ s₁ s _ _ hh0.symm (Vm.Alike.refl _) rfl E3
  obtain rfl := e0.1
  have c4 : Steps p.tables e below (s₁.setTop (entryFrame m #[.ref a, .ref b] 2)) (T3.setTop (mkF m 9 #[.val (.ref a), .val (.ref b)] [])) := g3
  exact ⟨T3, none, _, _, _, X3, by simp, rfl, by omega, (fun _ => rfl), e0, fun fs hl => c4.trans (X3.returnOut hexec hret (hb hbytes d9) hl)⟩
theorem pays {l : Launch} {R : Room} {p : Program} {e : Env} {below : List Frame} {s : State} {sargs : Array Value} {len W : Nat} (a : Addr) (D : Cell) (fV fC : Field) (b : Addr) (A : Cell) (z : Int32) (htab : tab.before sargs s = true) (hfr : 4 ≤ R.frames) (hlo : W + 65 ≤ R.locals) :
    Back l R p e below s sargs yN len W (fun A₁ a₁ => A₁.cells + 1 ≤ R.cells ∧ A₁.slots + A.slots.size ≤ R.slots ∧ P a D fV fC b A z a₁ A₁.U) (fun A₁ _ v₁ B₁ => E a D fV fC A v₁ A₁.U B₁.U ∧ B₁.locs = A₁.locs ++ [⟨a, fC.slot⟩, ⟨a, fV.slot⟩] ∧ B₁.cells = A₁.cells + 1 ∧ B₁.slots = A₁.slots + A.slots.size) :=
  (law l a D fV fC b A z).pays htab hfr (by omega)
end New1
/-- the byte, read back as charAt reads it, is the char -/
theorem lo8_mask {x : Int32} (h0 : ¬ x < 0) (h1 : ¬ 255 < x) : lo8 x &&& 255 = x := by
  have t : ∀ k : Fin 256, lo8 (Int32.ofNat k.val) &&& 255 = Int32.ofNat k.val := by decide +kernel
  rw [Int32.lt_iff_toInt_lt] at h0 h1
  have e0 : (0 : Int32).toInt = 0 := rfl
  have e1 : (255 : Int32).toInt = 255 := rfl
  obtain ⟨k, hk⟩ : ∃ k : Nat, x.toInt = k := ⟨x.toInt.toNat, by omega⟩
  have hx : x = Int32.ofNat k := Int32.toInt_inj.mp (by rw [hk, Int32.toInt_ofNat_small (by omega)])
  rw [hx]
  exact t ⟨k, by omega⟩
end StrChars
namespace StrChars.Road
open Jvm Sem ClassFile Op Lib Jvm.Stand Jvm.Free Jvm.Free.XT
open Jvm.Lib.Cold (StaticIs)
abbrev ST : String := "java/lang/String"
/-- every table word that New1's law asks, flat -/
abbrev words : List Jvm.Cond := [.code New1.yN New1.yB 2 none, .initialized ST, .methodLink ST 27 New4.yN, .instanceMethod New4.yN,
  .code New4.yN New4.yB 6 none, .fieldLink ST 38 ST "COMPACT_STRINGS" "Z", .laysFinal ST ST "value" "[B", .fieldLink ST 9 ST "value" "[B", .laysFinal ST ST "coder" "B", .fieldLink ST 15 ST "coder" "B",
  .methodLink ST 1 Lib.objectInit, .instanceMethod Lib.objectInit, .code Lib.objectInit ⟨#[0xb1]⟩ 1 none, .methodLink ST 177 Cmp3.yN, .static Cmp3.yN, .methodLink ST 47 CodL.yN, .static CodL.yN,
  .code Cmp3.yN Cmp3.yB 6 (some (.array .byte)), .initialized U16, .arrayClass .byte, .methodLink U16 115 Cmp5.yN, .static Cmp5.yN, .code Cmp5.yN Cmp5.yB 7 (some .int), .code CodL.yN CodL.yB 2 (some .byte)]
theorem tab_of {a : Array Value} {s : State} (h : ∀ w ∈ words, w.before a s = true) : New1.tab.before a s = true := by
  have h5 : Cmp5.tab.before a s = true := unparts (wk h (.code Cmp5.yN Cmp5.yB 7 (some .int))) (wks h (.initialized Cmp5.yN.cls :: Cmp5.site))
  have hc : CodL.tab.before a s = true := unparts (wk h (.code CodL.yN CodL.yB 2 (some .byte))) (wks h (.initialized CodL.yN.cls :: CodL.site))
  have q5 : ∀ w ∈ Cmp5.tab :: words, w.before a s = true := fun w hw => (List.mem_cons.mp hw).elim (fun e => e ▸ h5) (h w)
  have h3 : Cmp3.tab.before a s = true := unparts (wk q5 (.code Cmp3.yN Cmp3.yB 6 (some (.array .byte)))) (wks q5 (.initialized Cmp3.yN.cls :: Cmp3.site))
  have q3 : ∀ w ∈ Cmp3.tab :: CodL.tab :: words, w.before a s = true := fun w hw => (List.mem_cons.mp hw).elim (fun e => e ▸ h3) fun hw => (List.mem_cons.mp hw).elim (fun e => e ▸ hc) (h w)
  have h4 : New4.tab.before a s = true := unparts (wk q3 (.code New4.yN New4.yB 6 none)) (wks q3 (.initialized New4.yN.cls :: New4.site))
  have q4 : ∀ w ∈ New4.tab :: words, w.before a s = true := fun w hw => (List.mem_cons.mp hw).elim (fun e => e ▸ h4) (h w)
  exact unparts (wk q4 (.code New1.yN New1.yB 2 none)) (wks q4 (.initialized New1.yN.cls :: New1.site))
/-- the words ride from the start Z to the walk's own state -/
theorem moved {Z s : State} {a0 args : Array Value} (hZ : Z.Warmed39 s.vm) (hw : ∀ d ∈ words, d.before a0 Z = true) : ∀ d ∈ words, d.before args s = true := fun d hd => by
  have q := hw d hd
  have t : ∀ d ∈ words, d = .arrayClass .byte ∨ (d.onTables && d.keepsFace) = true := by decide +kernel
  rcases t d hd with rfl | t
  · exact RoadKit.mvA hZ q
  · exact RoadKit.mv hZ q t
/-- WHAT COMES BACK, over the tables of the start Z: h the heap at the call, h' behind it -/
def Q (Z : State) (x : Addr) (A : Cell) (h : Heap) (v : Option Value) (h' : Heap) (L : List Loc) : Prop := v = none ∧ (∀ y ∈ L, y.base = x) ∧ RoadKit.Keep h h' [x] ∧ h'.size = h.size + 1 ∧ RoadKit.Exa Z h' x ST ∧ RoadKit.Fld Z h' x ST "value" "[B" (.ref h.size) ∧ RoadKit.Fld Z h' x ST "coder" "B" (.int 0) ∧
  (∃ V : Cell, RoadKit.Arr Z h' h.size V .byte ∧ V.vm = .none ∧ Z.vm.findClass "[B" = some V.cls ∧ V.slots.size = A.slots.size ∧ ∀ j, j < A.slots.size → V.slots[j]? = some (.int (lo8 (cv A j)))) ∧
  ∀ (O n d : String) (w : Value), RoadKit.Fld Z h x O n d w → RoadKit.slotOf Z O n d ≠ RoadKit.slotOf Z ST "value" "[B" → RoadKit.slotOf Z O n d ≠ RoadKit.slotOf Z ST "coder" "B" → RoadKit.Fld Z h' x O n d w
/-- **new String(chars) AT A CALL, IN THE ROAD'S FORM**: for specialBack behind newO: x the fresh String, b the char[] with the cell A -/
theorem back {p : Program} {l : Launch} {e : Env} {R : Room} {s : State} {args : Array Value} {below : List Frame} {len W : Nat} {Z : State} {a0 : Array Value} {h : Heap} (hZ : Z.Warmed39 s.vm) (hw : ∀ d ∈ words, d.before a0 Z = true) {kI : Nat} (wi : (Jvm.Cond.instantiable ST kI).before a0 Z = true)
    {x b : Addr} {A : Cell} {z : Int32} {v0 c0 : Value} (E : RoadKit.Exa Z h x ST) (V : RoadKit.Fld Z h x ST "value" "[B" v0) (C : RoadKit.Fld Z h x ST "coder" "B" c0) (K : RoadKit.Arr Z h b A .char) (hty : Typed .char A) (S : RoadKit.Sta Z h ST "COMPACT_STRINGS" "Z" (.int z)) (hz : ¬ z = 0)
    (l0 : 0 < A.slots.size) (l2 : A.slots.size ≤ 536870912) (hp : ∀ i, i < A.slots.size → ¬ 255 < cv A i) (hfr : 4 ≤ R.frames) (hlo : W + 65 ≤ R.locals) :
    Back l R p e below s args New1.yN len W (fun P a => a = #[.ref x, .ref b] ∧ P.U.heap = h ∧ P.cells + 1 ≤ R.cells ∧ P.slots + A.slots.size ≤ R.slots)
      (fun P _ v B => ∃ L, Q Z x A h v B.U.heap L ∧ B.locs = P.locs ++ L ∧ B.cells = P.cells + 1 ∧ B.slots = P.slots + A.slots.size) := by
  intro m meth c P g ig mk a X hg hsize hdg hW hn hp'
  obtain ⟨rfl, rfl, r1, r2⟩ := hp'
  have al : Z.vm.Alike P.U.vm := hZ.alike.trans X.warmed.alike
  obtain ⟨D, cfV, kV, iV, fV, hD, gV, stV, knV, obV, asV, slV⟩ := id V
  obtain ⟨D', cfC, kC, iC, fC, hD', gC, stC, -, -, asC, slC⟩ := id C
  cases hD.symm.trans hD'
  obtain ⟨D2, kD, e1, e2, e3, e4, e5⟩ := id E
  cases hD.symm.trans e1
  obtain ⟨c2, k2, i1, i2, i3, -⟩ := Cond.instantiable_spec wi
  cases e2.symm.trans i1
  cases e3.symm.trans i2
  obtain ⟨kU, u1, u2⟩ := al.2.2 _ _ e3
  have hB : Blank ST x D P.U := ⟨hD, ⟨knV, fun q hq => by rw [hq] at obV; cases obV⟩, by rw [al.findClass]; exact e2, kU, u1, by rw [u2]; exact i3, by rw [u2]; exact e5 i3⟩
  have F1 : Found ST "value" "[B" fV P.U := ⟨SBG.found_only al ⟨cfV, kV, iV, gV⟩, stV⟩
  have F2 : Found ST "coder" "B" fC P.U := ⟨SBG.found_only al ⟨cfC, kC, iC, gC⟩, stC⟩
  have hA : Ch b A P.U := ⟨⟨K.1, State.isArrayOf_alike al K.2.1, K.2.2, by omega⟩, hty⟩
  have hS : StaticIs P.U ST "COMPACT_STRINGS" "Z" (.int z) := by
    obtain ⟨cfS, iS, kS, fS, st, cS, t1, t2, t3, t4, t5, t6, t7⟩ := S
    exact StaticIs.there (s := { Z with heap := P.U.heap }) ⟨cfS, iS, kS, fS, st, cS, t1, t2, t3, t4, t5, (fun q => by rw [q] at t6; cases t6), t7⟩ al rfl
  obtain ⟨v, B, X', ⟨⟨hv, E', V', q1, q2, q3, q4, q5, q6, q7, q8, q9, q10, q11⟩, hl, hc, hs⟩, st⟩ := New1.pays x D fV fC b A z (tab_of (moved hZ hw)) hfr hlo m meth c P g ig mk _ X hg hsize hdg hW hn ⟨r1, r2, rfl, hB, F1, F2, hA, hS, hz, l0, l2, hp⟩
  have al' : Z.vm.Alike B.U.vm := hZ.alike.trans X'.warmed.alike
  have hsz : E'.slots.size = D.slots.size := by
    obtain ⟨-, -, -, kB, w1, w2, w3⟩ := q1
    obtain ⟨kB', y1, y2⟩ := al'.2.2 _ _ e3
    rw [q2.2.1] at w1
    cases w1.symm.trans y1
    rw [w3, e5 i3, y2]
  refine ⟨v, B, X', ⟨_, ⟨hv, ?_, ⟨by omega, fun y cy hy hn' => q10 y cy (by simpa using hn') hy, fun y cy hy => ?_⟩, q11, ⟨E', _, q1.1, by rw [q2.2.1]; exact e2, by rw [q2.2.1]; exact e3, by rw [q2.1]; exact obV, fun _ => by rw [hsz]; exact e5 i3⟩,
    ⟨E', cfV, kV, iV, fV, q1.1, gV, stV, by rw [q2.1]; exact knV, by rw [q2.1]; exact obV, by rw [q2.2.1]; exact asV, q3⟩, ⟨E', cfC, kC, iC, fC, q1.1, gC, stC, by rw [q2.1]; exact knV, by rw [q2.1]; exact obV, by rw [q2.2.1]; exact asC, q4⟩,
    ⟨V', ⟨q5.1, State.isArrayOf_alike al'.symm q5.2.1, q5.2.2.1⟩, q6, by rw [← al'.findClass]; exact q7, q8, fun j hj => by have := q9 j hj; rwa [Nat.zero_add] at this⟩, fun O n d w F n1 n2 => ?_⟩, hl, hc, hs⟩, st⟩
  · intro y hy
    simp only [List.mem_cons, List.not_mem_nil, or_false] at hy
    rcases hy with rfl | rfl <;> rfl
  · by_cases q : y = x
    · subst q
      cases hD.symm.trans hy
      exact ⟨E', q1.1, q2.2.1, q2.1, hsz⟩
    · exact ⟨cy, q10 y cy q hy, rfl, rfl, rfl⟩
  · obtain ⟨D3, cf, k, i, f, g1, g2, g3, g4, g5, g6, g7⟩ := F
    cases hD.symm.trans g1
    simp only [RoadKit.slotOf, g2, gV, gC, Option.map_some, Option.getD_some] at n1 n2
    exact ⟨E', cf, k, i, f, q1.1, g2, g3, by rw [q2.1]; exact g4, by rw [q2.1]; exact g5, by rw [q2.2.1]; exact g6, by rw [q2.2.2 f.slot (by simp [n1, n2])]; exact g7⟩
end StrChars.Road
namespace StrChars.Road
open Jvm Sem ClassFile Op Lib Jvm.Stand Jvm.Free Jvm.Free.XT
/-- WHAT COMES BACK, the byte[] as a list of values -/
def QA (Z : State) (x : Addr) (zn : Int32) (cs : List Int32) (h : Heap) (v : Option Value) (h' : Heap) (L : List Loc) : Prop := v = none ∧ (∀ y ∈ L, y.base = x) ∧ RoadKit.Keep h h' [x] ∧ h'.size = h.size + 1 ∧ RoadKit.Exa Z h' x ST ∧ RoadKit.Fld Z h' x ST "value" "[B" (.ref h.size) ∧ RoadKit.Fld Z h' x ST "coder" "B" (.int 0) ∧
  (∃ kb, Z.vm.findClass "[B" = some kb ∧ RoadKit.Arv Z h' h.size kb .byte zn (cs.map fun c => .int (lo8 c)) (.int 0)) ∧
  ∀ (O n d : String) (w : Value), RoadKit.Fld Z h x O n d w → RoadKit.slotOf Z O n d ≠ RoadKit.slotOf Z ST "value" "[B" → RoadKit.slotOf Z O n d ≠ RoadKit.slotOf Z ST "coder" "B" → RoadKit.Fld Z h' x O n d w
/-- **new String(chars) AT A CALL, THE ARRAYS AS LISTS**: the char[] at b holds cs, not empty, no char above 255 -/
theorem backArv {p : Program} {l : Launch} {e : Env} {R : Room} {s : State} {args : Array Value} {below : List Frame} {len W : Nat} {Z : State} {a0 : Array Value} {h : Heap} (hZ : Z.Warmed39 s.vm) (hw : ∀ d ∈ words, d.before a0 Z = true) {kI : Nat} (wi : (Jvm.Cond.instantiable ST kI).before a0 Z = true)
    {x b : Addr} {k : ClassId} {zn z : Int32} {cs : List Int32} {dv v0 c0 : Value} (E : RoadKit.Exa Z h x ST) (V : RoadKit.Fld Z h x ST "value" "[B" v0) (C : RoadKit.Fld Z h x ST "coder" "B" c0) (K : RoadKit.Arv Z h b k .char zn (cs.map Value.int) dv) (S : RoadKit.Sta Z h ST "COMPACT_STRINGS" "Z" (.int z)) (hz : ¬ z = 0)
    (hlen : zn.toNatClampNeg = cs.length) (h0 : 0 < cs.length) (hbig : cs.length ≤ 536870912) (hall : ∀ c ∈ cs, ¬ 255 < c) (hfr : 4 ≤ R.frames) (hlo : W + 65 ≤ R.locals) :
    Back l R p e below s args New1.yN len W (fun P a => a = #[.ref x, .ref b] ∧ P.U.heap = h ∧ P.cells + 1 ≤ R.cells ∧ P.slots + cs.length ≤ R.slots)
      (fun P _ v B => ∃ L, QA Z x zn cs h v B.U.heap L ∧ B.locs = P.locs ++ L ∧ B.cells = P.cells + 1 ∧ B.slots = P.slots + cs.length) := by
  obtain ⟨A, K1, K2, K3, K4, K5, K6⟩ := K
  have e : A.slots.size = cs.length := K3.trans hlen
  have hat : ∀ (i : Nat) (hi : i < cs.length), A.slots[i]? = some (.int cs[i]) := fun i hi => by rw [K5 i (by omega)]; simp [List.getD_eq_getElem?_getD, hi]
  have hcv : ∀ (i : Nat) (hi : i < cs.length), cv A i = cs[i] := fun i hi => by unfold cv; rw [hat i hi]
  have hty : Typed .char A := fun i v hv => by
    have hi : i < A.slots.size := (Array.getElem?_eq_some_iff.mp hv).1
    have q := K5 i hi
    rw [hv] at q
    rw [Option.some.inj q]
    exact K6 i hi
  refine Back.mono (back hZ hw wi E V C K1 hty S hz (by omega) (by omega) (fun i hi => by rw [hcv i (by omega)]; exact hall _ (List.getElem_mem _)) hfr hlo) (fun P a hp => ⟨hp.1, hp.2.1, hp.2.2.1, by rw [e]; exact hp.2.2.2⟩) (fun P a v B hp hq => ?_)
  obtain ⟨L, ⟨q1, q2, q3, q4, q5, q6, q7, ⟨V', v1, v2, v3, v4, v5⟩, q9⟩, hl, hc, hs⟩ := hq
  refine ⟨L, ⟨q1, q2, q3, q4, q5, q6, q7, ⟨V'.cls, v3, V', v1, rfl, by rw [v4, e, hlen], K4, fun i hi => ?_, fun i hi => ?_⟩, q9⟩, hl, hc, by rw [hs, e]⟩
  · have hi' : i < cs.length := by omega
    rw [v5 i (by omega), hcv i hi']; simp [List.getD_eq_getElem?_getD, hi']
  · have hi' : i < cs.length := by omega
    simp only [List.getD_eq_getElem?_getD, List.getElem?_map, List.getElem?_eq_getElem hi', Option.map_some, Option.getD_some]
    exact fits_lo8 _
end StrChars.Road
namespace StrChars.Road
open Jvm Sem ClassFile Op Lib Jvm.Stand Jvm.Free Jvm.Free.XT
/-- WHAT COMES BACK, in the writer's own shape -/
def QV (Z : State) (x : Addr) (N : Int32) (bs : List Int32) (h : Heap) (n0 : Nat) (v : Option Value) (h' : Heap) (L : List Loc) : Prop := v = none ∧ RoadKit.Fr n0 L ∧ RoadKit.Keep h h' [x] ∧ RoadKit.Exa Z h' x ST ∧ RoadKit.Fld Z h' x ST "coder" "B" (.int 0) ∧
  ∃ (t : Addr) (kb : ClassId), n0 ≤ t ∧ h.size ≤ t ∧ ¬ t = x ∧ RoadKit.Fld Z h' x ST "value" "[B" (.ref t) ∧ RoadKit.Arv Z h' t kb .byte N (bs.map Value.int) (.int 0)
/-- **new String(chars) AT A CALL, FOR THE WRITER**: a char[] of n known ints, each 0 to 255 -/
theorem backV {p : Program} {l : Launch} {e : Env} {R : Room} {s : State} {args : Array Value} {below : List Frame} {len W : Nat} {Z : State} {a0 : Array Value} {h : Heap} (hZ : Z.Warmed39 s.vm) (hw : ∀ d ∈ words, d.before a0 Z = true) {kI : Nat} (wi : (Jvm.Cond.instantiable ST kI).before a0 Z = true)
    {x b : Addr} {kC : ClassId} {cs bs : List Int32} {d v0 c0 : Value} {z N : Int32} {n n0 : Nat} (hx0 : n0 ≤ x) (hh0 : n0 ≤ h.size) (E : RoadKit.Exa Z h x ST) (V : RoadKit.Fld Z h x ST "value" "[B" v0) (C : RoadKit.Fld Z h x ST "coder" "B" c0) (K : RoadKit.Arv Z h b kC .char N (cs.map Value.int) d) (S : RoadKit.Sta Z h ST "COMPACT_STRINGS" "Z" (.int z)) (hz : ¬ z = 0)
    (hn : cs.length = n) (hN : N = Int32.ofNat n) (l0 : 0 < n) (l2 : n ≤ 4000) (hp : ∀ c ∈ cs, ¬ c < 0 ∧ ¬ (255 : Int32) < c) (hb : bs = cs.map (fun c => c.toInt8.toInt32)) (hfr : 4 ≤ R.frames) (hlo : W + 65 ≤ R.locals) :
    Back l R p e below s args (⟨"java/lang/String", "<init>", "([C)V"⟩ : MethodName) len W (fun P a => a = #[.ref x, .ref b] ∧ P.U.heap = h ∧ P.cells + 1 ≤ R.cells ∧ P.slots + n ≤ R.slots)
      (fun P _ v B => ∃ L, QV Z x N bs h n0 v B.U.heap L ∧ B.locs = P.locs ++ L ∧ B.cells = P.cells + 1 ∧ B.slots = P.slots + n) := by
  subst hn hN hb
  refine Back.mono (backArv hZ hw wi E V C K S hz (n32 (by omega)) l0 (by omega) (fun c hc => (hp c hc).2) hfr hlo) (fun P a hp => hp) (fun P a v B hp hq => ?_)
  obtain ⟨L, ⟨q1, q2, q3, q4, q5, q6, q7, ⟨kb, v1, v2⟩, q9⟩, hl, hc, hs⟩ := hq
  exact ⟨L, ⟨q1, fun y hy => by rw [q2 y hy]; exact hx0, q3, q5, q7, h.size, kb, hh0, Nat.le_refl _, Nat.ne_of_gt E.lt, q6, by rw [List.map_map]; exact v2⟩, hl, hc, hs⟩
end StrChars.Road
namespace StrChars
open Jvm Sem ClassFile Op Lib Jvm.Stand Jvm.Free.XT Jvm.Free.ALB Jvm.Free.JM Jvm.Free
open Jvm.Lib.Cold (StaticIs)
def hi8 (x : Int32) : Int32 := lo8 (x >>> ((8 : Int32) &&& 31))
/-- what StringUTF16.getChar makes of two bytes -/
def pairCh (u v : Int32) : Int32 := (((u &&& 255) <<< ((0 : Int32) &&& 31)) ||| ((v &&& 255) <<< ((8 : Int32) &&& 31))).toUInt32.toUInt16.toUInt32.toInt32
theorem lo8_and (x : Int32) : (lo8 x &&& 255).toBitVec.toNat = x.toBitVec.toNat % 256 := by
  have h : (lo8 x).toBitVec = (x.toBitVec.signExtend 8).signExtend 32 := by rw [lo8, Int8.toBitVec_toInt32, Int32.toBitVec_toInt8]
  rw [Int32.toBitVec_and, BitVec.toNat_and, h]
  have e : ((x.toBitVec.signExtend 8).signExtend 32).toNat % 256 = x.toBitVec.toNat % 256 := by
    rw [BitVec.toNat_signExtend]
    have hlt := x.toBitVec.isLt
    simp only [BitVec.toNat_setWidth, BitVec.toNat_signExtend]
    split <;> split <;> omega
  rw [← e]
  exact Nat.and_two_pow_sub_one_eq_mod _ 8
theorem pair_says {c : Int32} (h0 : ¬ c < 0) (h1 : ¬ 65535 < c) : pairCh (lo8 c) (hi8 c) = c := by
  rw [Int32.lt_iff_toInt_lt] at h0 h1
  have e0 : (0 : Int32).toInt = 0 := rfl
  have e1 : (65535 : Int32).toInt = 65535 := rfl
  have hc : c.toInt = c.toBitVec.toNat := by
    have := c.toBitVec.isLt
    have e : c.toInt = c.toBitVec.toInt := rfl
    rw [e] at h0 h1
    rw [e]
    rw [BitVec.toInt_eq_toNat_cond] at h0 h1 ⊢
    split at h0 <;> split <;> omega
  have hn : c.toBitVec.toNat < 65536 := by omega
  have a1 := lo8_and c
  have a2 : (hi8 c &&& 255).toBitVec.toNat = c.toBitVec.toNat / 256 := by
    rw [hi8, lo8_and]
    have e : ((8 : Int32) &&& 31) = 8 := by decide
    rw [e, Int32.toBitVec_shiftRight]
    have e2 : ((8 : Int32).toBitVec.smod 32) = 8#32 := by decide
    rw [e2, BitVec.sshiftRight_eq', BitVec.toNat_sshiftRight_of_msb_false (by rw [BitVec.msb_eq_false_iff_two_mul_lt]; omega)]
    show c.toBitVec.toNat >>> 8 % 256 = _
    rw [Nat.shiftRight_eq_div_pow]
    omega
  unfold pairCh
  apply Int32.toBitVec_inj.mp
  apply BitVec.eq_of_toNat_eq
  have f0 : ((0 : Int32) &&& 31) = 0 := by decide
  have f8 : ((8 : Int32) &&& 31) = 8 := by decide
  rw [f0, f8]
  have g : (((lo8 c &&& 255) <<< (0 : Int32)) ||| ((hi8 c &&& 255) <<< (8 : Int32))).toBitVec.toNat = c.toBitVec.toNat := by
    rw [Int32.toBitVec_or, Int32.toBitVec_shiftLeft, Int32.toBitVec_shiftLeft]
    have s0 : ((0 : Int32).toBitVec.smod 32) = 0#32 := by decide
    have s8 : ((8 : Int32).toBitVec.smod 32) = 8#32 := by decide
    rw [s0, s8, BitVec.toNat_or]
    simp only [BitVec.shiftLeft_eq', BitVec.toNat_shiftLeft, a1, a2]
    show (c.toBitVec.toNat % 256) <<< 0 % 2 ^ 32 ||| (c.toBitVec.toNat / 256) <<< 8 % 2 ^ 32 = _
    rw [Nat.shiftLeft_zero, Nat.mod_eq_of_lt (show c.toBitVec.toNat % 256 < 2 ^ 32 by omega), Nat.mod_eq_of_lt (show (c.toBitVec.toNat / 256) <<< 8 < 2 ^ 32 by rw [Nat.shiftLeft_eq]; omega), Nat.or_comm, ← Nat.shiftLeft_add_eq_or_of_lt (by omega), Nat.shiftLeft_eq]
    omega
  show BitVec.toNat (((((lo8 c &&& 255) <<< (0 : Int32)) ||| ((hi8 c &&& 255) <<< (8 : Int32))).toBitVec.setWidth 16).setWidth 32) = _
  rw [BitVec.toNat_setWidth, BitVec.toNat_setWidth, g]
  omega
end StrChars
namespace StrChars
open Jvm Sem ClassFile Op Lib Jvm.Stand Jvm.Free.XT Jvm.Free.ALB Jvm.Free.JM Jvm.Free
open Jvm.Lib.Cold (StaticIs)
/-- the array's cell V codes the n chars f 0 .. f (n - 1) by the coder cd, as the JDK does: coder 1 just where some char is above 255 -/
def Cod (cd : Int32) (n : Nat) (f : Nat → Int32) (V : Cell) : Prop := (cd = 0 ∧ V.slots.size = n ∧ ∀ j, j < n → V.slots[j]? = some (.int (lo8 (f j))) ∧ ¬ 255 < f j) ∨ (cd = 1 ∧ V.slots.size = 2 * n ∧ (∀ j, j < n → V.slots[2 * j]? = some (.int (lo8 (f j))) ∧ V.slots[2 * j + 1]? = some (.int (hi8 (f j)))) ∧ ∃ j, j < n ∧ 255 < f j)
/-- **x is a String of the n chars f 0 .. f (n - 1)**, Latin-1 or UTF-16; its array at t has the cell V -/
def Txt (x t : Addr) (V : Cell) (cd : Int32) (n : Nat) (f : Nat → Int32) (U : State) : Prop := Exact "java/lang/String" x U ∧ Has x "java/lang/String" "value" "[B" (.ref t) U ∧ Has x "java/lang/String" "coder" "B" (.int cd) U ∧ XT.Arr .byte t V U ∧ Cod cd n f V ∧ ∀ j, j < n → ¬ f j < 0 ∧ ¬ 65535 < f j
theorem Txt.mv {x t : Addr} {V : Cell} {cd : Int32} {n : Nat} {f : Nat → Int32} {U U' : State} (h : Txt x t V cd n f U) (hal : U.vm.Alike U'.vm) (hh : U'.heap = U.heap) : Txt x t V cd n f U' := ⟨h.1.mv hal hh, h.2.1.mv hal hh, h.2.2.1.mv hal hh, h.2.2.2.1.mv hal hh, h.2.2.2.2⟩
end StrChars
namespace StrChars.Road
open Jvm Sem ClassFile Op Lib Jvm.Stand Jvm.Free Jvm.Free.XT
open Jvm.Lib.Cold (StaticIs)
theorem consq {a : Array Value} {s : State} {c : Jvm.Cond} {L : List Jvm.Cond} (h0 : c.before a s = true) (h : ∀ w ∈ L, w.before a s = true) : ∀ w ∈ c :: L, w.before a s = true := fun w hw => (List.mem_cons.mp hw).elim (fun e => e ▸ h0) (h w)
/-- the bytes of the chars cs, low before high -/
def wideBytes : List Int32 → List Value
  | [] => []
  | c :: cs => .int (lo8 c) :: .int (hi8 c) :: wideBytes cs
theorem wide_lo (d : Value) : ∀ (cs : List Int32) (j : Nat), j < cs.length → (wideBytes cs).getD (2 * j) d = .int (lo8 (cs.getD j 0))
  | [], j, h => absurd h (Nat.not_lt_zero j)
  | c :: cs, 0, _ => rfl
  | c :: cs, j + 1, h => by
    have q := wide_lo d cs j (by simpa using h)
    rw [show 2 * (j + 1) = 2 * j + 1 + 1 from by omega]
    simpa [wideBytes] using q
theorem wide_hi (d : Value) : ∀ (cs : List Int32) (j : Nat), j < cs.length → (wideBytes cs).getD (2 * j + 1) d = .int (hi8 (cs.getD j 0))
  | [], j, h => absurd h (Nat.not_lt_zero j)
  | c :: cs, 0, _ => rfl
  | c :: cs, j + 1, h => by
    have q := wide_hi d cs j (by simpa using h)
    rw [show 2 * (j + 1) + 1 = 2 * j + 1 + 1 + 1 from by omega]
    simpa [wideBytes] using q
theorem low_at (d : Value) (cs : List Int32) (j : Nat) (h : j < cs.length) : (cs.map fun c => Value.int (lo8 c)).getD j d = .int (lo8 (cs.getD j 0)) := by
  simp [List.getD_eq_getElem?_getD, h]
/-- an array of N2 bytes vs codes the chars cs by the coder cd -/
def CodA (cs : List Int32) (cd N2 : Int32) (vs : List Value) : Prop := (cd = 0 ∧ N2 = Int32.ofNat cs.length ∧ vs = (cs.map fun c => Value.int (lo8 c)) ∧ ∀ c ∈ cs, ¬ 255 < c) ∨ (cd = 1 ∧ N2 = Int32.ofNat (2 * cs.length) ∧ vs = wideBytes cs ∧ ∃ c ∈ cs, 255 < c)
theorem CodA.cod {cs : List Int32} {cd N2 : Int32} {vs : List Value} {V : Cell} (h : CodA cs cd N2 vs) (hn : 2 * cs.length < 2 ^ 31) (hs : V.slots.size = N2.toNatClampNeg) (hv : RoadKit.Has V vs (.int 0)) : Cod cd cs.length (fun j => cs.getD j 0) V := by
  rcases h with ⟨rfl, rfl, rfl, h⟩ | ⟨rfl, rfl, rfl, c, hc, hw⟩
  · rw [n32 (by omega)] at hs
    exact Or.inl ⟨rfl, hs, fun j hj => ⟨by rw [hv j (by omega), low_at _ _ _ hj], by
      have e : cs.getD j 0 = cs[j] := by simp [List.getD_eq_getElem?_getD, hj]
      show ¬ 255 < cs.getD j 0
      rw [e]; exact h _ (List.getElem_mem _)⟩⟩
  · rw [n32 (by omega)] at hs
    obtain ⟨j, hj, rfl⟩ := List.getElem_of_mem hc
    exact Or.inr ⟨rfl, hs, fun j hj => ⟨by rw [hv _ (by omega), wide_lo _ _ _ hj], by rw [hv _ (by omega), wide_hi _ _ _ hj]⟩, j, hj, by
      have e : cs.getD j 0 = cs[j] := by simp [List.getD_eq_getElem?_getD, hj]
      show 255 < cs.getD j 0
      rw [e]; exact hw⟩
/-- an object of exactly java/lang/String, its two fields found: as the laws ask it -/
theorem strObj {Z U : State} {a0 : Array Value} {kI : Nat} (wi : (Jvm.Cond.instantiable ST kI).before a0 Z = true) (al : Z.vm.Alike U.vm) {x : Addr} {v0 c0 : Value} (E : RoadKit.Exa Z U.heap x ST) (V : RoadKit.Fld Z U.heap x ST "value" "[B" v0) (C : RoadKit.Fld Z U.heap x ST "coder" "B" c0) :
    ∃ (D : Cell) (fV fC : Field), Blank ST x D U ∧ Found ST "value" "[B" fV U ∧ Found ST "coder" "B" fC U ∧ D.slots[fV.slot]? = some v0 ∧ D.slots[fC.slot]? = some c0 ∧ RoadKit.slotOf Z ST "value" "[B" = fV.slot ∧ RoadKit.slotOf Z ST "coder" "B" = fC.slot := by
  obtain ⟨D, cfV, kV, iV, fV, hD, gV, stV, knV, obV, asV, slV⟩ := V
  obtain ⟨D', cfC, kC, iC, fC, hD', gC, stC, -, -, asC, slC⟩ := C
  cases hD.symm.trans hD'
  obtain ⟨D2, kD, e1, e2, e3, e4, e5⟩ := E
  cases hD.symm.trans e1
  obtain ⟨c2, k2, i1, i2, i3, -⟩ := Cond.instantiable_spec wi
  cases e2.symm.trans i1
  cases e3.symm.trans i2
  obtain ⟨kU, u1, u2⟩ := al.2.2 _ _ e3
  exact ⟨D, fV, fC, ⟨hD, ⟨knV, fun q hq => by rw [hq] at obV; cases obV⟩, by rw [al.findClass]; exact e2, kU, u1, by rw [u2]; exact i3, by rw [u2]; exact e5 i3⟩, ⟨SBG.found_only al ⟨cfV, kV, iV, gV⟩, stV⟩, ⟨SBG.found_only al ⟨cfC, kC, iC, gC⟩, stC⟩, slV, slC, by simp [RoadKit.slotOf, gV], by simp [RoadKit.slotOf, gC]⟩
theorem sta_is {Z U : State} (al : Z.vm.Alike U.vm) {C n d : String} {v : Value} (S : RoadKit.Sta Z U.heap C n d v) : StaticIs U C n d v := by
  obtain ⟨cfS, iS, kS, fS, st, cS, t1, t2, t3, t4, t5, t6, t7⟩ := S
  exact StaticIs.there (s := { Z with heap := U.heap }) ⟨cfS, iS, kS, fS, st, cS, t1, t2, t3, t4, t5, (fun q => by rw [q] at t6; cases t6), t7⟩ al rfl
end StrChars.Road
namespace StrChars
open Jvm Sem ClassFile Op Lib Jvm.Stand Jvm.Free.XT Jvm.Free.ALB Jvm.Free.JM Jvm.Free
open Jvm.Lib.Cold (StaticIs)
/-- what place i of a byte[]'s cell holds -/
def yv (A : Cell) (i : Nat) : Int32 := match A.slots[i]? with | some (.int x) => x | _ => 0
theorem yv_get {a : Addr} {A : Cell} {U : State} (h : XT.Arr .byte a A U) (ht : Typed .byte A) {i : Nat} (hi : i < A.slots.size) : A.slots[i]? = some (.int (yv A i)) := by
  have e := Array.getElem?_eq_getElem hi
  have f := ht i _ e
  unfold yv; rw [e]
  generalize A.slots[i] = v at f
  cases v <;> simp [fits] at f ⊢
/-- the two arrays are equal, place for place -/
def EqC (A B : Cell) : Prop := A.slots.size = B.slots.size ∧ ∀ i, i < A.slots.size → yv A i = yv B i
/-- a boolean that says whether p -/
def Says01 (q : Prop) (r : Option Value) (s u : State) : Prop := ∃ v : Int32, r = some (.int v) ∧ u.heap = s.heap ∧ ((v = 1 ∧ q) ∨ (v = 0 ∧ ¬ q))
theorem Says01.mv {q : Prop} : ∀ r (U U' V V' : State), U'.heap = U.heap → V.vm.Alike V'.vm → V'.heap = V.heap → Says01 q r U V → Says01 q r U' V' :=
  fun r U U' V V' h1 _ h2 ⟨v, a, b, c⟩ => ⟨v, a, by rw [h1, h2]; exact b, c⟩
namespace LEq
def yN : MethodName := ⟨"java/lang/StringLatin1", "equals", "([B[B)Z"⟩
abbrev yB : ByteArray := jdk_43_method_13_code
theorem d0 : decode yB 0 = .ok (.aload_n 0, 1) := by decide +kernel
theorem d1 : decode yB 1 = .ok (.arraylength, 1) := by decide +kernel
theorem d2 : decode yB 2 = .ok (.aload_n 1, 1) := by decide +kernel
theorem d3 : decode yB 3 = .ok (.arraylength, 1) := by decide +kernel
theorem d4 : decode yB 4 = .ok (.if_icmp (.ne) 30, 3) := by decide +kernel
theorem d7 : decode yB 7 = .ok (.iconst 0, 1) := by decide +kernel
theorem d8 : decode yB 8 = .ok (.istore_n 2, 1) := by decide +kernel
theorem d9 : decode yB 9 = .ok (.iload_n 2, 1) := by decide +kernel
theorem d10 : decode yB 10 = .ok (.aload_n 0, 1) := by decide +kernel
theorem d11 : decode yB 11 = .ok (.arraylength, 1) := by decide +kernel
theorem d12 : decode yB 12 = .ok (.if_icmp (.ge) 20, 3) := by decide +kernel
theorem d15 : decode yB 15 = .ok (.aload_n 0, 1) := by decide +kernel
theorem d16 : decode yB 16 = .ok (.iload_n 2, 1) := by decide +kernel
theorem d17 : decode yB 17 = .ok (.baload, 1) := by decide +kernel
theorem d18 : decode yB 18 = .ok (.aload_n 1, 1) := by decide +kernel
theorem d19 : decode yB 19 = .ok (.iload_n 2, 1) := by decide +kernel
theorem d20 : decode yB 20 = .ok (.baload, 1) := by decide +kernel
theorem d21 : decode yB 21 = .ok (.if_icmp (.eq) 5, 3) := by decide +kernel
theorem d24 : decode yB 24 = .ok (.iconst 0, 1) := by decide +kernel
theorem d25 : decode yB 25 = .ok (.ireturn, 1) := by decide +kernel
theorem d26 : decode yB 26 = .ok (.iinc 2 1, 3) := by decide +kernel
theorem d29 : decode yB 29 = .ok (.goto (-20), 3) := by decide +kernel
theorem d32 : decode yB 32 = .ok (.iconst 1, 1) := by decide +kernel
theorem d33 : decode yB 33 = .ok (.ireturn, 1) := by decide +kernel
theorem d34 : decode yB 34 = .ok (.iconst 0, 1) := by decide +kernel
theorem d35 : decode yB 35 = .ok (.ireturn, 1) := by decide +kernel
def site : List Cond := []
def tab : Cond := tabOf yN yB 3 (some .boolean) site
def P (a : Addr) (A : Cell) (b : Addr) (B : Cell) (args : Array Value) (s : State) : Prop := args = #[.ref a, .ref b] ∧ XT.Arr .byte a A s ∧ Typed .byte A ∧ XT.Arr .byte b B s ∧ Typed .byte B
/-- whether two byte[] are equal, place for place -/
theorem law (l : Launch) (a : Addr) (A : Cell) (b : Addr) (B : Cell) : Law l yN 2 2 0 0 yB 3 (some .boolean) site (P a A b B) (Says01 (EqC A B)) [] 0 0 := by
  refine Law.of_walk (plainFor_of_name (by decide +kernel)) (by decide +kernel) (by decide +kernel) (by decide) (fun _ _ h => by rw [h.1]; rfl) (fun _ U U' hal hh h => ⟨h.1, h.2.1.mv hal hh, h.2.2.1, h.2.2.2.1.mv hal hh, h.2.2.2.2⟩) (fun r U U' V V' h1 hal h2 h => Says01.mv r U U' V V' h1 hal h2 h) ?_
  intro p e s m args below meth c s₁ X0 hexec hbytes hml hret hlk hnm hown hh0 W hP
  obtain ⟨rfl, hA, tA, hB, tB⟩ := hP
  have a31 := hA.2.2.2
  have b31 := hB.2.2.2
  have hA0 := hA.mv X0.warmed.alike hh0
  have hB0 := hB.mv X0.warmed.alike hh0
  have c1 : Steps p.tables e below (s₁.setTop (entryFrame m #[.ref a, .ref b] 3)) (s₁.setTop (mkF m 0 #[.val (.ref a), .val (.ref b), .unset] [])) := entry rfl
  have c2 : Steps p.tables e below (s₁.setTop (entryFrame m #[.ref a, .ref b] 3)) (s₁.setTop (mkF m 4 #[.val (.ref a), .val (.ref b), .unset] [.int (Int32.ofNat B.slots.size), .int (Int32.ofNat A.slots.size)])) := c1.trans (by
    refine XS.aloadN X0.here hexec rfl (hb hbytes d0) rfl rfl ?_
    refine X0.alen hexec hA0 rfl rfl (hb hbytes d1) ?_
    refine XS.aloadN X0.here hexec rfl (hb hbytes d2) rfl rfl ?_
    refine X0.alen hexec hB0 rfl rfl (hb hbytes d3) ?_
    exact Steps.refl _)
  by_cases hs : A.slots.size = B.slots.size
  · have c3 : Steps p.tables e below (s₁.setTop (entryFrame m #[.ref a, .ref b] 3)) (s₁.setTop (mkF m 9 #[.val (.ref a), .val (.ref b), .val (.int 0)] [])) := c2.trans (by
      refine XS.icmpNo X0.here hexec rfl (hb hbytes d4) rfl (ii_ne_f (by rw [hs])) ?_
      refine iconstV X0.here hexec rfl 0 (hb hbytes d7) (by decide) ?_
      refine XS.istoreN X0.here hexec rfl (hb hbytes d8) rfl rfl ?_
      exact Steps.refl _)
    have loop : ∀ (r i : Nat), i + r = A.slots.size → (∀ j, j < i → yv A j = yv B j) → Steps p.tables e below (s₁.setTop (entryFrame m #[.ref a, .ref b] 3)) (s₁.setTop (mkF m 9 #[.val (.ref a), .val (.ref b), .val (.int (Int32.ofNat i))] [])) → ∃ (pc : Nat) (Ls : Array Slot) (v : Int32), (pc = 25 ∨ pc = 33) ∧ ((v = 1 ∧ EqC A B) ∨ (v = 0 ∧ ¬ EqC A B)) ∧ Steps p.tables e below (s₁.setTop (entryFrame m #[.ref a, .ref b] 3)) (s₁.setTop (mkF m pc Ls [.int v])) := by
      intro r
      induction r with
      | zero =>
        intro i hi he cl
        exact ⟨33, _, 1, Or.inr rfl, Or.inl ⟨rfl, hs, fun j hj => he j (by omega)⟩, cl.trans (by
          refine XS.iloadN X0.here hexec rfl (hb hbytes d9) rfl ?_
          refine XS.aloadN X0.here hexec rfl (hb hbytes d10) rfl rfl ?_
          refine X0.alen hexec hA0 rfl rfl (hb hbytes d11) ?_
          refine XS.icmpYes X0.here hexec rfl (pc0 := 12) rfl (hb hbytes d12) rfl (ii_ge_t (nlt32 (by omega) (by omega))) (by decide) rfl ?_
          refine iconstV X0.here hexec rfl 1 (hb hbytes d32) (by decide) ?_
          exact Steps.refl _)⟩
      | succ r ih =>
        intro i hi he cl
        have c4 : Steps p.tables e below (s₁.setTop (entryFrame m #[.ref a, .ref b] 3)) (s₁.setTop (mkF m 21 #[.val (.ref a), .val (.ref b), .val (.int (Int32.ofNat i))] [.int (yv B i), .int (yv A i)])) := cl.trans (by
          refine XS.iloadN X0.here hexec rfl (hb hbytes d9) rfl ?_
          refine XS.aloadN X0.here hexec rfl (hb hbytes d10) rfl rfl ?_
          refine X0.alen hexec hA0 rfl rfl (hb hbytes d11) ?_
          refine XS.icmpNo X0.here hexec rfl (hb hbytes d12) rfl (ii_ge_f (lt32 (by omega) (by omega))) ?_
          refine XS.aloadN X0.here hexec rfl (hb hbytes d15) rfl rfl ?_
          refine XS.iloadN X0.here hexec rfl (hb hbytes d16) rfl ?_
          refine X0.aget hexec hA0 rfl (yv_get hA tA (i := i) (by omega)) rfl rfl (hb hbytes d17) ?_
          refine XS.aloadN X0.here hexec rfl (hb hbytes d18) rfl rfl ?_
          refine XS.iloadN X0.here hexec rfl (hb hbytes d19) rfl ?_
          refine X0.aget hexec hB0 rfl (yv_get hB tB (i := i) (by omega)) rfl rfl (hb hbytes d20) ?_
          exact Steps.refl _)
        by_cases hv : yv A i = yv B i
        · have c5 : Steps p.tables e below (s₁.setTop (entryFrame m #[.ref a, .ref b] 3)) (s₁.setTop (mkF m 9 #[.val (.ref a), .val (.ref b), .val (.int (Int32.ofNat i + 1))] [])) := c4.trans (by
            refine XS.icmpYes X0.here hexec rfl (pc0 := 21) rfl (hb hbytes d21) rfl (ii_eq_t hv) (by decide) rfl ?_
            refine iincV X0.here hexec rfl 1 (hb hbytes d26) (by decide) rfl rfl ?_
            refine XS.goto X0.here hexec rfl (pc0 := 29) rfl (hb hbytes d29) (by decide) rfl ?_
            exact Steps.refl _)
          rw [succ32] at c5
          exact ih (i + 1) (by omega) (fun j hj => by
            by_cases e : j = i
            · rw [e]; exact hv
            · exact he j (by omega)) c5
        · exact ⟨25, _, 0, Or.inl rfl, Or.inr ⟨rfl, fun q => hv (q.2 i (by omega))⟩, c4.trans (by
            refine XS.icmpNo X0.here hexec rfl (hb hbytes d21) rfl (ii_eq_f hv) ?_
            refine iconstV X0.here hexec rfl 0 (hb hbytes d24) (by decide) ?_
            exact Steps.refl _)⟩
    obtain ⟨pc, Ls, v, hpc, hv, cz⟩ := loop A.slots.size 0 (by omega) (fun j hj => absurd hj (Nat.not_lt_zero j)) c3
    have nv : narrow .boolean (.int v) = .int v := by rcases hv with ⟨rfl, -⟩ | ⟨rfl, -⟩ <;> rfl
    rcases hpc with rfl | rfl
    · exact ⟨s₁, some (.int v), _, _, _, X0, rfl, rfl, rfl, (fun h => by cases h), ⟨v, rfl, hh0, hv⟩, fun fs hl => cz.trans (X0.ireturnOut hexec hret nv (Or.inr (Or.inl rfl)) (hb hbytes d25) hl)⟩
    · exact ⟨s₁, some (.int v), _, _, _, X0, rfl, rfl, rfl, (fun h => by cases h), ⟨v, rfl, hh0, hv⟩, fun fs hl => cz.trans (X0.ireturnOut hexec hret nv (Or.inr (Or.inl rfl)) (hb hbytes d33) hl)⟩
  · have c3 : Steps p.tables e below (s₁.setTop (entryFrame m #[.ref a, .ref b] 3)) (s₁.setTop (mkF m 35 #[.val (.ref a), .val (.ref b), .unset] [.int 0])) := c2.trans (by
      refine XS.icmpYes X0.here hexec rfl (pc0 := 4) rfl (hb hbytes d4) rfl (ii_ne_t (ne32 a31 b31 hs)) (by decide) rfl ?_
      refine iconstV X0.here hexec rfl 0 (hb hbytes d34) (by decide) ?_
      exact Steps.refl _)
    exact ⟨s₁, some (.int 0), _, _, _, X0, rfl, rfl, rfl, (fun h => by cases h), ⟨0, rfl, hh0, Or.inr ⟨rfl, fun q => hs q.1⟩⟩, fun fs hl => c3.trans (X0.ireturnOut hexec hret rfl (Or.inr (Or.inl rfl)) (hb hbytes d35) hl)⟩
end LEq
theorem Cod.ty {cd : Int32} {n : Nat} {f : Nat → Int32} {V : Cell} (h : Cod cd n f V) : Typed .byte V := fun i v hv => by
  have hi : i < V.slots.size := (Array.getElem?_eq_some_iff.mp hv).1
  rcases h with ⟨-, k1, k2⟩ | ⟨-, k1, k2, -⟩
  · rw [(k2 i (by omega)).1] at hv; cases hv; exact fits_lo8 _
  · rcases Nat.mod_two_eq_zero_or_one i with e | e
    · obtain ⟨j, rfl⟩ : ∃ j, i = 2 * j := ⟨i / 2, by omega⟩
      rw [(k2 j (by omega)).1] at hv; cases hv; exact fits_lo8 _
    · obtain ⟨j, rfl⟩ : ∃ j, i = 2 * j + 1 := ⟨i / 2, by omega⟩
      rw [(k2 j (by omega)).2] at hv; cases hv; exact fits_lo8 _
/-- the same text -/
def SameT (n : Nat) (f : Nat → Int32) (k : Nat) (g : Nat → Int32) : Prop := n = k ∧ ∀ j, j < n → f j = g j
theorem lo8_inj {x y : Int32} (h0 : ¬ x < 0) (h1 : ¬ 255 < x) (k0 : ¬ y < 0) (k1 : ¬ 255 < y) (h : lo8 x = lo8 y) : x = y := by
  rw [← lo8_mask h0 h1, ← lo8_mask k0 k1, h]
/-- arrays coded by one coder are equal just where the texts are -/
theorem Cod.eqv {cd : Int32} {n k : Nat} {f g : Nat → Int32} {V V' : Cell} (h : Cod cd n f V) (h' : Cod cd k g V') (hf : ∀ j, j < n → ¬ f j < 0 ∧ ¬ 65535 < f j) (hg : ∀ j, j < k → ¬ g j < 0 ∧ ¬ 65535 < g j) : EqC V V' ↔ SameT n f k g := by
  have yvv : ∀ {W : Cell} {i : Nat} {x : Int32}, W.slots[i]? = some (.int x) → yv W i = x := fun q => by unfold yv; rw [q]
  rcases h with ⟨rfl, k1, k2⟩ | ⟨rfl, k1, k2, -⟩
  · rcases h' with ⟨-, m1, m2⟩ | ⟨e, -⟩
    · constructor
      · rintro ⟨e1, e2⟩
        refine ⟨by omega, fun j hj => ?_⟩
        have q := e2 j (by omega)
        rw [yvv (k2 j hj).1, yvv (m2 j (by omega)).1] at q
        exact lo8_inj (hf j hj).1 (k2 j hj).2 (hg j (by omega)).1 (m2 j (by omega)).2 q
      · rintro ⟨rfl, e2⟩
        refine ⟨by omega, fun j hj => ?_⟩
        rw [yvv (k2 j (by omega)).1, yvv (m2 j (by omega)).1, e2 j (by omega)]
    · exact absurd e (by decide)
  · rcases h' with ⟨e, -⟩ | ⟨-, m1, m2, -⟩
    · exact absurd e (by decide)
    · constructor
      · rintro ⟨e1, e2⟩
        refine ⟨by omega, fun j hj => ?_⟩
        have q1 := e2 (2 * j) (by omega)
        have q2 := e2 (2 * j + 1) (by omega)
        rw [yvv (k2 j hj).1, yvv (m2 j (by omega)).1] at q1
        rw [yvv (k2 j hj).2, yvv (m2 j (by omega)).2] at q2
        rw [← pair_says (hf j hj).1 (hf j hj).2, ← pair_says (hg j (by omega)).1 (hg j (by omega)).2, q1, q2]
      · rintro ⟨rfl, e2⟩
        refine ⟨by omega, fun i hi => ?_⟩
        rcases Nat.mod_two_eq_zero_or_one i with e | e
        · obtain ⟨j, rfl⟩ : ∃ j, i = 2 * j := ⟨i / 2, by omega⟩
          rw [yvv (k2 j (by omega)).1, yvv (m2 j (by omega)).1, e2 j (by omega)]
        · obtain ⟨j, rfl⟩ : ∃ j, i = 2 * j + 1 := ⟨i / 2, by omega⟩
          rw [yvv (k2 j (by omega)).2, yvv (m2 j (by omega)).2, e2 j (by omega)]
/-- two codings differ: so do the texts -/
theorem Cod.dif {cd cd' : Int32} {n k : Nat} {f g : Nat → Int32} {V V' : Cell} (h : Cod cd n f V) (h' : Cod cd' k g V') (hne : ¬ cd = cd') : ¬ SameT n f k g := by
  rintro ⟨rfl, e⟩
  rcases h with ⟨rfl, -, k2⟩ | ⟨rfl, -, -, j, hj, hw⟩
  · rcases h' with ⟨rfl, -⟩ | ⟨-, -, -, j, hj, hw⟩
    · exact hne rfl
    · exact (k2 j hj).2 (by rw [e j hj]; exact hw)
  · rcases h' with ⟨-, -, m2⟩ | ⟨rfl, -⟩
    · exact (m2 j hj).2 (by rw [← e j hj]; exact hw)
    · exact hne rfl
/-- an object of exactly C is an instance of C -/
theorem cinst {p : Program} {l : Launch} {e : Env} {R : Room} {s : State} {m : MethodId} {args : Array Value} {below : List Frame} {meth : Method} {c : Code} {T : State} {locs : List Loc} {cells slots : Nat} (X : Stand p l e R s m args below meth c T locs cells slots) (hexec : p.tables.exec = Jvm.exec) {own C : String} {index : Nat} (hown : s.vm.findClass own = some m.cls) (hlink : (Cond.classLink own index C).before args s = true) {a : Addr} (hE : Exact C a T)
    {g : JFrame} (hg : g.method = m) {rest : List Value} (hstack : g.stack = .ref a :: rest) (hdg : decode c.code g.pc = .ok (.instanceof index, 3)) :
    ∃ T', Stand p l e R s m args below meth c T' locs cells slots ∧ T'.heap = T.heap ∧ ∀ target, Steps p.tables e below (T'.setTop { g with pc := g.pc + 3, stack := .int 1 :: rest }) target → Steps p.tables e below (T.setTop g) target := by
  obtain ⟨cB, h1, D, h2, h3, h4⟩ := hE
  have h1' : s.vm.findClass C = some cB := by rw [← X.warmed.alike.findClass]; exact h1
  obtain ⟨vm', X', st⟩ := X.instanceofYes hexec hown hlink h2 h4 h1' (by rw [h3]; exact Jvm.Free.SB.assignable_self _ _) hg hstack hdg
  exact ⟨_, X', rfl, st⟩
theorem cself {p : Program} {l : Launch} {e : Env} {R : Room} {s : State} {m : MethodId} {args : Array Value} {below : List Frame} {meth : Method} {c : Code} {T : State} {locs : List Loc} {cells slots : Nat} (X : Stand p l e R s m args below meth c T locs cells slots) (hexec : p.tables.exec = Jvm.exec) {own C : String} {index : Nat} (hown : s.vm.findClass own = some m.cls) (hlink : (Cond.classLink own index C).before args s = true) {a : Addr} (hE : Exact C a T)
    {g : JFrame} (hg : g.method = m) {rest : List Value} (hstack : g.stack = .ref a :: rest) (hdg : decode c.code g.pc = .ok (.checkcast index, 3)) :
    ∃ T', Stand p l e R s m args below meth c T' locs cells slots ∧ T'.heap = T.heap ∧ ∀ target, Steps p.tables e below (T'.setTop { g with pc := g.pc + 3, stack := .ref a :: rest }) target → Steps p.tables e below (T.setTop g) target := by
  obtain ⟨cB, h1, D, h2, h3, h4⟩ := hE
  have h1' : s.vm.findClass C = some cB := by rw [← X.warmed.alike.findClass]; exact h1
  obtain ⟨vm', X', st⟩ := X.checkcastYes hexec hown hlink h2 h4 h1' (by rw [h3]; exact Jvm.Free.SB.assignable_self _ _) hg hstack hdg
  exact ⟨_, X', rfl, fun t h => st t (by rw [← hstack] at h; exact h)⟩
namespace SEq
def yN : MethodName := ⟨"java/lang/String", "equals", "(Ljava/lang/Object;)Z"⟩
abbrev yB : ByteArray := jdk_42_method_66_code
theorem d0 : decode yB 0 = .ok (.aload_n 0, 1) := by decide +kernel
theorem d1 : decode yB 1 = .ok (.aload_n 1, 1) := by decide +kernel
theorem d2 : decode yB 2 = .ok (.if_acmp (.ne) 5, 3) := by decide +kernel
theorem d5 : decode yB 5 = .ok (.iconst 1, 1) := by decide +kernel
theorem d6 : decode yB 6 = .ok (.ireturn, 1) := by decide +kernel
theorem d7 : decode yB 7 = .ok (.aload_n 1, 1) := by decide +kernel
theorem d8 : decode yB 8 = .ok (.instanceof 10, 3) := by decide +kernel
theorem d11 : decode yB 11 = .ok (.ifCond (.eq) 43, 3) := by decide +kernel
theorem d14 : decode yB 14 = .ok (.aload_n 1, 1) := by decide +kernel
theorem d15 : decode yB 15 = .ok (.checkcast 10, 3) := by decide +kernel
theorem d18 : decode yB 18 = .ok (.astore_n 2, 1) := by decide +kernel
theorem d19 : decode yB 19 = .ok (.getstatic 38, 3) := by decide +kernel
theorem d22 : decode yB 22 = .ok (.ifCond (.eq) 14, 3) := by decide +kernel
theorem d25 : decode yB 25 = .ok (.aload_n 0, 1) := by decide +kernel
theorem d26 : decode yB 26 = .ok (.getfield 15, 3) := by decide +kernel
theorem d29 : decode yB 29 = .ok (.aload_n 2, 1) := by decide +kernel
theorem d30 : decode yB 30 = .ok (.getfield 15, 3) := by decide +kernel
theorem d33 : decode yB 33 = .ok (.if_icmp (.ne) 21, 3) := by decide +kernel
theorem d36 : decode yB 36 = .ok (.aload_n 0, 1) := by decide +kernel
theorem d37 : decode yB 37 = .ok (.getfield 9, 3) := by decide +kernel
theorem d40 : decode yB 40 = .ok (.aload_n 2, 1) := by decide +kernel
theorem d41 : decode yB 41 = .ok (.getfield 9, 3) := by decide +kernel
theorem d44 : decode yB 44 = .ok (.invokestatic 541, 3) := by decide +kernel
theorem d47 : decode yB 47 = .ok (.ifCond (.eq) 7, 3) := by decide +kernel
theorem d50 : decode yB 50 = .ok (.iconst 1, 1) := by decide +kernel
theorem d51 : decode yB 51 = .ok (.goto 4, 3) := by decide +kernel
theorem d54 : decode yB 54 = .ok (.iconst 0, 1) := by decide +kernel
theorem d55 : decode yB 55 = .ok (.ireturn, 1) := by decide +kernel
def site : List Cond := [.classLink "java/lang/String" 10 "java/lang/String", .fieldLink "java/lang/String" 38 "java/lang/String" "COMPACT_STRINGS" "Z", .fieldLink "java/lang/String" 15 "java/lang/String" "coder" "B", .fieldLink "java/lang/String" 9 "java/lang/String" "value" "[B", LEq.tab] ++ staticW "java/lang/String" 541 LEq.yN
def tab : Cond := tabOf yN yB 3 (some .boolean) site
def P (x t : Addr) (V : Cell) (cd : Int32) (n : Nat) (f : Nat → Int32) (y t' : Addr) (V' : Cell) (cd' : Int32) (k : Nat) (g : Nat → Int32) (z : Int32) (args : Array Value) (s : State) : Prop := args = #[.ref x, .ref y] ∧ Txt x t V cd n f s ∧ Txt y t' V' cd' k g s ∧ StaticIs s "java/lang/String" "COMPACT_STRINGS" "Z" (.int z) ∧ ¬ z = 0
/-- equals(Object) of two Strings: whether the texts are the same -/
theorem law (l : Launch) (x t : Addr) (V : Cell) (cd : Int32) (n : Nat) (f : Nat → Int32) (y t' : Addr) (V' : Cell) (cd' : Int32) (k : Nat) (g : Nat → Int32) (z : Int32) : Law l yN 2 1 1 14 yB 3 (some .boolean) site (P x t V cd n f y t' V' cd' k g z) (Says01 (SameT n f k g)) [] 0 0 := by
  refine Law.of_walk (plainFor_of_name (by decide +kernel)) (by decide +kernel) (by decide +kernel) (by decide) (fun _ _ h => by rw [h.1]; rfl) (fun _ U U' hal hh h => ⟨h.1, h.2.1.mv hal hh, h.2.2.1.mv hal hh, h.2.2.2.1.there hal hh, h.2.2.2.2⟩) (fun r U U' V V' h1 hal h2 h => Says01.mv r U U' V V' h1 hal h2 h) ?_
  intro p e s m args below meth c s₁ X0 hexec hbytes hml hret hlk hnm hown hh0 W hP
  obtain ⟨rfl, hx, hy, s1, hz⟩ := hP
  have c1 : Steps p.tables e below (s₁.setTop (entryFrame m #[.ref x, .ref y] 3)) (s₁.setTop (mkF m 2 #[.val (.ref x), .val (.ref y), .unset] [.ref y, .ref x])) := Steps.trans (entry rfl) (by
    show Steps p.tables e below (s₁.setTop (mkF m 0 #[.val (.ref x), .val (.ref y), .unset] [])) _
    refine XS.aloadN X0.here hexec rfl (hb hbytes d0) rfl rfl ?_
    refine XS.aloadN X0.here hexec rfl (hb hbytes d1) rfl rfl ?_
    exact Steps.refl _)
  by_cases hxy : x = y
  · have c2 : Steps p.tables e below (s₁.setTop (entryFrame m #[.ref x, .ref y] 3)) (s₁.setTop (mkF m 6 #[.val (.ref x), .val (.ref y), .unset] [.int 1])) := c1.trans (by
      refine acmpNo X0.here hexec rfl (hb hbytes d2) rfl rfl rfl (by simp [acmp, hxy]) ?_
      refine iconstV X0.here hexec rfl 1 (hb hbytes d5) (by decide) ?_
      exact Steps.refl _)
    subst hxy
    have ec : cd = cd' := by
      obtain ⟨D, fd, a1, a2, a3⟩ := hx.2.2.1
      obtain ⟨D', fd', b1, b2, b3⟩ := hy.2.2.1
      cases a1.symm.trans b1
      obtain ⟨q1, q2, q3, q4⟩ := a2.1
      obtain ⟨r1, r2, r3, r4⟩ := b2.1
      cases q4.symm.trans r4
      cases a3.symm.trans b3; rfl
    have et : t = t' := by
      obtain ⟨D, fd, a1, a2, a3⟩ := hx.2.1
      obtain ⟨D', fd', b1, b2, b3⟩ := hy.2.1
      cases a1.symm.trans b1
      obtain ⟨q1, q2, q3, q4⟩ := a2.1
      obtain ⟨r1, r2, r3, r4⟩ := b2.1
      cases q4.symm.trans r4
      cases a3.symm.trans b3; rfl
    subst ec et
    have ev : V = V' := by cases hx.2.2.2.1.1.symm.trans hy.2.2.2.1.1; rfl
    subst ev
    have hs : SameT n f k g := (Cod.eqv hx.2.2.2.2.1 hy.2.2.2.2.1 hx.2.2.2.2.2 hy.2.2.2.2.2).mp ⟨rfl, fun _ _ => rfl⟩
    exact ⟨s₁, some (.int 1), _, _, _, X0, rfl, rfl, rfl, (fun h => by cases h), ⟨1, rfl, hh0, Or.inl ⟨rfl, hs⟩⟩, fun fs hl => c2.trans (X0.ireturnOut hexec hret rfl (Or.inr (Or.inl rfl)) (hb hbytes d6) hl)⟩
  · have c2 : Steps p.tables e below (s₁.setTop (entryFrame m #[.ref x, .ref y] 3)) (s₁.setTop (mkF m 8 #[.val (.ref x), .val (.ref y), .unset] [.ref y])) := c1.trans (by
      refine acmpYes X0.here hexec rfl (pc0 := 2) rfl (hb hbytes d2) rfl rfl rfl (by simp [acmp, hxy]) (by decide) rfl ?_
      refine XS.aloadN X0.here hexec rfl (hb hbytes d7) rfl rfl ?_
      exact Steps.refl _)
    obtain ⟨T3, X3, q3, st3⟩ := cinst X0 hexec hown (wk W (.classLink "java/lang/String" 10 "java/lang/String")) (hy.mv X0.warmed.alike hh0).1 (g := (mkF m 8 #[.val (.ref x), .val (.ref y), .unset] [.ref y])) rfl (rest := []) rfl (hb hbytes d8)
    have hh3 := q3.trans hh0
    have c4 : Steps p.tables e below (s₁.setTop (entryFrame m #[.ref x, .ref y] 3)) (T3.setTop (mkF m 15 #[.val (.ref x), .val (.ref y), .unset] [.ref y])) := (c2.trans (st3 _ (Steps.refl _))).trans (by
      refine XS.ifNo X3.here hexec rfl (hb hbytes d11) rfl (i0_eq_f (by decide)) ?_
      refine XS.aloadN X3.here hexec rfl (hb hbytes d14) rfl rfl ?_
      exact Steps.refl _)
    obtain ⟨T5, X5, q5, st5⟩ := cself X3 hexec hown (wk W (.classLink "java/lang/String" 10 "java/lang/String")) (hy.mv X3.warmed.alike hh3).1 (g := (mkF m 15 #[.val (.ref x), .val (.ref y), .unset] [.ref y])) rfl (rest := []) rfl (hb hbytes d15)
    have hh5 := q5.trans hh3
    have c6 : Steps p.tables e below (s₁.setTop (entryFrame m #[.ref x, .ref y] 3)) (T5.setTop (mkF m 19 #[.val (.ref x), .val (.ref y), .val (.ref y)] [])) := (c4.trans (st5 _ (Steps.refl _))).trans (by
      refine XS.astoreN X5.here hexec rfl (hb hbytes d18) rfl rfl rfl ?_
      exact Steps.refl _)
    obtain ⟨T7, X7, q7, st7⟩ := X5.sget hexec hown (wk W (.fieldLink "java/lang/String" 38 "java/lang/String" "COMPACT_STRINGS" "Z")) s1 (fun _ _ h => by rw [hh5]; exact h) (g := (mkF m 19 #[.val (.ref x), .val (.ref y), .val (.ref y)] [])) rfl (hb hbytes d19)
    have hh7 := q7.trans hh5
    have c8 : Steps p.tables e below (s₁.setTop (entryFrame m #[.ref x, .ref y] 3)) (T7.setTop (mkF m 26 #[.val (.ref x), .val (.ref y), .val (.ref y)] [.ref x])) := (c6.trans (st7 _ (Steps.refl _))).trans (by
      refine XS.ifNo X7.here hexec rfl (hb hbytes d22) rfl (i0_eq_f hz) ?_
      refine XS.aloadN X7.here hexec rfl (hb hbytes d25) rfl rfl ?_
      exact Steps.refl _)
    obtain ⟨T9, X9, q9, st9⟩ := X7.hget hexec hown (wk W (.fieldLink "java/lang/String" 15 "java/lang/String" "coder" "B")) (hx.mv X7.warmed.alike hh7).2.2.1 (g := (mkF m 26 #[.val (.ref x), .val (.ref y), .val (.ref y)] [.ref x])) rfl (rest := []) rfl (hb hbytes d26)
    have hh9 := q9.trans hh7
    have c10 : Steps p.tables e below (s₁.setTop (entryFrame m #[.ref x, .ref y] 3)) (T9.setTop (mkF m 30 #[.val (.ref x), .val (.ref y), .val (.ref y)] [.ref y, .int cd])) := (c8.trans (st9 _ (Steps.refl _))).trans (by
      refine XS.aloadN X9.here hexec rfl (hb hbytes d29) rfl rfl ?_
      exact Steps.refl _)
    obtain ⟨T11, X11, q11, st11⟩ := X9.hget hexec hown (wk W (.fieldLink "java/lang/String" 15 "java/lang/String" "coder" "B")) (hy.mv X9.warmed.alike hh9).2.2.1 (g := (mkF m 30 #[.val (.ref x), .val (.ref y), .val (.ref y)] [.ref y, .int cd])) rfl (rest := [.int cd]) rfl (hb hbytes d30)
    have hh11 := q11.trans hh9
    have c12 : Steps p.tables e below (s₁.setTop (entryFrame m #[.ref x, .ref y] 3)) (T11.setTop (mkF m 33 #[.val (.ref x), .val (.ref y), .val (.ref y)] [.int cd', .int cd])) := c10.trans (st11 _ (Steps.refl _))
    by_cases hcd : cd = cd'
    · subst hcd
      have c13 : Steps p.tables e below (s₁.setTop (entryFrame m #[.ref x, .ref y] 3)) (T11.setTop (mkF m 37 #[.val (.ref x), .val (.ref y), .val (.ref y)] [.ref x])) := c12.trans (by
        refine XS.icmpNo X11.here hexec rfl (hb hbytes d33) rfl (ii_ne_f rfl) ?_
        refine XS.aloadN X11.here hexec rfl (hb hbytes d36) rfl rfl ?_
        exact Steps.refl _)
      obtain ⟨T14, X14, q14, st14⟩ := X11.hget hexec hown (wk W (.fieldLink "java/lang/String" 9 "java/lang/String" "value" "[B")) (hx.mv X11.warmed.alike hh11).2.1 (g := (mkF m 37 #[.val (.ref x), .val (.ref y), .val (.ref y)] [.ref x])) rfl (rest := []) rfl (hb hbytes d37)
      have hh14 := q14.trans hh11
      have c15 : Steps p.tables e below (s₁.setTop (entryFrame m #[.ref x, .ref y] 3)) (T14.setTop (mkF m 41 #[.val (.ref x), .val (.ref y), .val (.ref y)] [.ref y, .ref t])) := (c13.trans (st14 _ (Steps.refl _))).trans (by
        refine XS.aloadN X14.here hexec rfl (hb hbytes d40) rfl rfl ?_
        exact Steps.refl _)
      obtain ⟨T16, X16, q16, st16⟩ := X14.hget hexec hown (wk W (.fieldLink "java/lang/String" 9 "java/lang/String" "value" "[B")) (hy.mv X14.warmed.alike hh14).2.1 (g := (mkF m 41 #[.val (.ref x), .val (.ref y), .val (.ref y)] [.ref y, .ref t])) rfl (rest := [.ref t]) rfl (hb hbytes d41)
      have hh16 := q16.trans hh14
      have c17 : Steps p.tables e below (s₁.setTop (entryFrame m #[.ref x, .ref y] 3)) (T16.setTop (mkF m 44 #[.val (.ref x), .val (.ref y), .val (.ref y)] [.ref t', .ref t])) := c15.trans (st16 _ (Steps.refl _))
      obtain ⟨v18, T18, X18, E18, g18⟩ := X16.callS hexec (LEq.law l t V t' V') hown (wks W (staticW "java/lang/String" 541 LEq.yN)) (wk W LEq.tab) (W := 0) (Nat.le_of_ble_eq_true rfl) (Nat.le_of_ble_eq_true rfl) (Nat.le_refl _) (Nat.le_refl _) (g := (mkF m 44 #[.val (.ref x), .val (.ref y), .val (.ref y)] [.ref t', .ref t])) rfl (by rw [hml]; rfl) c17 (argsL := [.ref t, .ref t']) (rest := []) rfl rfl (by show 2 * 0 + 0 ≤ _; decide) (hb hbytes d44) (⟨rfl, hx.2.2.2.1.mv X16.warmed.alike hh16, hx.2.2.2.2.1.ty, hy.2.2.2.1.mv X16.warmed.alike hh16, hy.2.2.2.2.1.ty⟩)
      obtain ⟨v, rfl, q18, hv⟩ := E18
      have iff := Cod.eqv hx.2.2.2.2.1 hy.2.2.2.2.1 hx.2.2.2.2.2 hy.2.2.2.2.2
      rcases hv with ⟨rfl, he⟩ | ⟨rfl, he⟩
      · have c19 : Steps p.tables e below (s₁.setTop (entryFrame m #[.ref x, .ref y] 3)) (T18.setTop (mkF m 55 #[.val (.ref x), .val (.ref y), .val (.ref y)] [.int 1])) := Steps.trans g18 (by
          refine XS.ifNo X18.here hexec rfl (hb hbytes d47) rfl (i0_eq_f (by decide)) ?_
          refine iconstV X18.here hexec rfl 1 (hb hbytes d50) (by decide) ?_
          refine XS.goto X18.here hexec rfl (pc0 := 51) rfl (hb hbytes d51) (by decide) rfl ?_
          exact Steps.refl _)
        exact ⟨T18, some (.int 1), _, _, _, X18, rfl, rfl, rfl, (fun h => by cases h), ⟨1, rfl, q18.trans hh16, Or.inl ⟨rfl, iff.mp he⟩⟩, fun fs hl => c19.trans (X18.ireturnOut hexec hret rfl (Or.inr (Or.inl rfl)) (hb hbytes d55) hl)⟩
      · have c19 : Steps p.tables e below (s₁.setTop (entryFrame m #[.ref x, .ref y] 3)) (T18.setTop (mkF m 55 #[.val (.ref x), .val (.ref y), .val (.ref y)] [.int 0])) := Steps.trans g18 (by
          refine XS.ifYes X18.here hexec rfl (pc0 := 47) rfl (hb hbytes d47) rfl (i0_eq_t rfl) (by decide) rfl ?_
          refine iconstV X18.here hexec rfl 0 (hb hbytes d54) (by decide) ?_
          exact Steps.refl _)
        exact ⟨T18, some (.int 0), _, _, _, X18, rfl, rfl, rfl, (fun h => by cases h), ⟨0, rfl, q18.trans hh16, Or.inr ⟨rfl, fun q => he (iff.mpr q)⟩⟩, fun fs hl => c19.trans (X18.ireturnOut hexec hret rfl (Or.inr (Or.inl rfl)) (hb hbytes d55) hl)⟩
    · have c13 : Steps p.tables e below (s₁.setTop (entryFrame m #[.ref x, .ref y] 3)) (T11.setTop (mkF m 55 #[.val (.ref x), .val (.ref y), .val (.ref y)] [.int 0])) := c12.trans (by
        refine XS.icmpYes X11.here hexec rfl (pc0 := 33) rfl (hb hbytes d33) rfl (ii_ne_t hcd) (by decide) rfl ?_
        refine iconstV X11.here hexec rfl 0 (hb hbytes d54) (by decide) ?_
        exact Steps.refl _)
      exact ⟨T11, some (.int 0), _, _, _, X11, rfl, rfl, rfl, (fun h => by cases h), ⟨0, rfl, hh11, Or.inr ⟨rfl, Cod.dif hx.2.2.2.2.1 hy.2.2.2.2.1 hcd⟩⟩, fun fs hl => c13.trans (X11.ireturnOut hexec hret rfl (Or.inr (Or.inl rfl)) (hb hbytes d55) hl)⟩
theorem pays {l : Launch} {R : Room} {p : Program} {e : Env} {below : List Frame} {s : State} {sargs : Array Value} {len W : Nat} (x t : Addr) (V : Cell) (cd : Int32) (n : Nat) (f : Nat → Int32) (y t' : Addr) (V' : Cell) (cd' : Int32) (k : Nat) (g : Nat → Int32) (z : Int32) (htab : tab.before sargs s = true) (hfr : 2 ≤ R.frames) (hlo : W + 28 ≤ R.locals) :
    Back l R p e below s sargs yN len W (fun A₁ a₁ => A₁.cells + 0 ≤ R.cells ∧ A₁.slots + 0 ≤ R.slots ∧ P x t V cd n f y t' V' cd' k g z a₁ A₁.U) (fun A₁ _ v₁ B₁ => Says01 (SameT n f k g) v₁ A₁.U B₁.U ∧ B₁.locs = A₁.locs ++ [] ∧ B₁.cells = A₁.cells + 0 ∧ B₁.slots = A₁.slots + 0) :=
  (law l x t V cd n f y t' V' cd' k g z).pays htab hfr (by omega)
end SEq
end StrChars
namespace StrChars.Road
open Jvm Sem ClassFile Op Lib Jvm.Stand Jvm.Free Jvm.Free.XT
open Jvm.Lib.Cold (StaticIs)
/-- the words of String.equals(Object) -/
abbrev wordsEq : List Jvm.Cond := [.code SEq.yN SEq.yB 3 (some .boolean), .initialized ST, .classLink ST 10 ST, .fieldLink ST 38 ST "COMPACT_STRINGS" "Z", .fieldLink ST 15 ST "coder" "B", .fieldLink ST 9 ST "value" "[B", .methodLink ST 541 LEq.yN, .static LEq.yN, .code LEq.yN LEq.yB 3 (some .boolean), .initialized "java/lang/StringLatin1"]
theorem tabEq_of {a : Array Value} {s : State} (h : ∀ w ∈ wordsEq, w.before a s = true) : SEq.tab.before a s = true := by
  have hl : LEq.tab.before a s = true := unparts (wk h (.code LEq.yN LEq.yB 3 (some .boolean))) (wks h (.initialized LEq.yN.cls :: LEq.site))
  have q := consq hl h
  exact unparts (wk q (.code SEq.yN SEq.yB 3 (some .boolean))) (wks q (.initialized SEq.yN.cls :: SEq.site))
theorem movedEq {Z s : State} {a0 args : Array Value} (hZ : Z.Warmed39 s.vm) (hw : ∀ d ∈ wordsEq, d.before a0 Z = true) : ∀ d ∈ wordsEq, d.before args s = true := fun d hd => by
  have t : ∀ d ∈ wordsEq, (d.onTables && d.keepsFace) = true := by decide +kernel
  exact RoadKit.mv hZ (hw d hd) (t d hd)
/-- the road's facts of a String, as the laws ask it -/
theorem txt_of {Z U : State} {a0 : Array Value} {kI : Nat} (wi : (Jvm.Cond.instantiable ST kI).before a0 Z = true) (al : Z.vm.Alike U.vm) {x t : Addr} {kb : ClassId} {cs : List Int32} {cd N2 : Int32} {vs : List Value} (E : RoadKit.Exa Z U.heap x ST) (V : RoadKit.Fld Z U.heap x ST "value" "[B" (.ref t)) (C : RoadKit.Fld Z U.heap x ST "coder" "B" (.int cd)) (K : RoadKit.Arv Z U.heap t kb .byte N2 vs (.int 0)) (hc : CodA cs cd N2 vs) (hb : ∀ c ∈ cs, ¬ c < 0 ∧ ¬ (65535 : Int32) < c) (l2 : cs.length ≤ 4000) :
    ∃ A, Txt x t A cd cs.length (fun j => cs.getD j 0) U := by
  obtain ⟨A, K1, K2, K3, K4, K5, K6⟩ := K
  have hcod := hc.cod (by omega) K3 K5
  obtain ⟨D, fV, fC, hB, F1, F2, g1, g2, -, -⟩ := strObj wi al E V C
  exact ⟨A, ⟨_, hB.2.2.1, D, hB.1, rfl, by cases q : D.vm <;> first | rfl | exact absurd q (hB.2.1.2 _)⟩, Has.of hB F1 g1, Has.of hB F2 g2, ⟨K1.1, State.isArrayOf_alike al K1.2.1, K1.2.2, by rcases hcod with ⟨-, q, -⟩ | ⟨-, q, -⟩ <;> omega⟩, hcod, fun j hj => by
    have e : cs.getD j 0 = cs[j] := by simp [List.getD_eq_getElem?_getD, hj]
    show ¬ cs.getD j 0 < 0 ∧ ¬ 65535 < cs.getD j 0
    rw [e]; exact hb _ (List.getElem_mem _)⟩
theorem same_list (cs ds : List Int32) : SameT cs.length (fun j => cs.getD j 0) ds.length (fun j => ds.getD j 0) ↔ cs = ds := by
  constructor
  · rintro ⟨e, q⟩
    refine List.ext_getElem e fun j h1 h2 => ?_
    have := q j h1
    simpa [List.getD_eq_getElem?_getD, h1, h2] using this
  · rintro rfl
    exact ⟨rfl, fun _ _ => rfl⟩
/-- **equals(Object) OF TWO SUCH STRINGS**: 1 just where the chars are the same -/
theorem eqW {p : Program} {l : Launch} {e : Env} {R : Room} {s : State} {args : Array Value} {below : List Frame} {len W : Nat} {Z : State} {a0 : Array Value} {h : Heap} (hZ : Z.Warmed39 s.vm) (hw : ∀ d ∈ wordsEq, d.before a0 Z = true) {kI : Nat} (wi : (Jvm.Cond.instantiable ST kI).before a0 Z = true)
    {x t : Addr} {kb : ClassId} {cs : List Int32} {cd N2 : Int32} {vs : List Value} (E : RoadKit.Exa Z h x ST) (V : RoadKit.Fld Z h x ST "value" "[B" (.ref t)) (C : RoadKit.Fld Z h x ST "coder" "B" (.int cd)) (K : RoadKit.Arv Z h t kb .byte N2 vs (.int 0)) (hc : CodA cs cd N2 vs) (hb : ∀ c ∈ cs, ¬ c < 0 ∧ ¬ (65535 : Int32) < c) (l2 : cs.length ≤ 4000)
    {y t' : Addr} {kb' : ClassId} {ds : List Int32} {cd' N2' : Int32} {vs' : List Value} (E' : RoadKit.Exa Z h y ST) (V' : RoadKit.Fld Z h y ST "value" "[B" (.ref t')) (C' : RoadKit.Fld Z h y ST "coder" "B" (.int cd')) (K' : RoadKit.Arv Z h t' kb' .byte N2' vs' (.int 0)) (hc' : CodA ds cd' N2' vs') (hb' : ∀ c ∈ ds, ¬ c < 0 ∧ ¬ (65535 : Int32) < c) (l2' : ds.length ≤ 4000)
    {z : Int32} (S : RoadKit.Sta Z h ST "COMPACT_STRINGS" "Z" (.int z)) (hz : ¬ z = 0) (hfr : 2 ≤ R.frames) (hlo : W + 28 ≤ R.locals) :
    Back l R p e below s args (⟨"java/lang/String", "equals", "(Ljava/lang/Object;)Z"⟩ : MethodName) len W (fun P a => a = #[.ref x, .ref y] ∧ P.U.heap = h ∧ P.cells + 0 ≤ R.cells ∧ P.slots + 0 ≤ R.slots)
      (fun P _ v B => ∃ L, (((v = some (.int 1) ∧ cs = ds) ∨ (v = some (.int 0) ∧ ¬ cs = ds)) ∧ L = [] ∧ B.U.heap = h) ∧ B.locs = P.locs ++ L ∧ B.cells = P.cells + 0 ∧ B.slots = P.slots + 0) := by
  intro m meth c P g ig mk a X hg hsize hdg hW hn hp'
  obtain ⟨rfl, rfl, r1, r2⟩ := hp'
  have al : Z.vm.Alike P.U.vm := hZ.alike.trans X.warmed.alike
  obtain ⟨A, hx⟩ := txt_of wi al E V C K hc hb l2
  obtain ⟨A', hy⟩ := txt_of wi al E' V' C' K' hc' hb' l2'
  obtain ⟨v, B, X', ⟨⟨w, hv, hh, hq⟩, hl, hk, hs⟩, st⟩ := SEq.pays x t A cd cs.length (fun j => cs.getD j 0) y t' A' cd' ds.length (fun j => ds.getD j 0) z (tabEq_of (movedEq hZ hw)) hfr hlo m meth c P g ig mk _ X hg hsize hdg hW hn ⟨r1, r2, rfl, hx, hy, sta_is al S, hz⟩
  refine ⟨v, B, X', ⟨[], ⟨?_, rfl, hh⟩, hl, hk, hs⟩, st⟩
  rcases hq with ⟨rfl, q⟩ | ⟨rfl, q⟩
  · exact Or.inl ⟨hv, (same_list cs ds).mp q⟩
  · exact Or.inr ⟨hv, fun e => q ((same_list cs ds).mpr e)⟩
end StrChars.Road
namespace StrChars.Road
open Jvm Sem ClassFile Op Lib Jvm.Stand Jvm.Free Jvm.Free.XT
open Jvm.Lib.Cold (StaticIs)
/-- what backV says of its String, as the contracts of this text ask it: cs's low bytes, coder 0 -/
theorem codOf {cs : List Int32} {n : Nat} (hn : cs.length = n) (hb : ∀ c ∈ cs, ¬ 255 < c) : CodA cs 0 (Int32.ofNat n) ((cs.map lo8).map Value.int) := Or.inl ⟨rfl, by rw [hn], by simp [List.map_map, Function.comp_def], hb⟩
end StrChars.Road
end Jvm.Pilot.@@N@@

namespace Jvm.OwnGo
open Sem ClassFile Op Lib Jvm.Stand Jvm.Free Jvm.LawKit Jvm.RoadKit
section Own
variable {p : Program} {l : Launch} {e : Env} {R : Room} {s : State} {m : MethodId} {args : Array Value} {below : List Frame} {meth : Method} {c : Code} {T T' : State} {locs : List Loc} {cells slots : Nat} {P : Outcome → State → Prop} {g g' : JFrame} {Z : State} {h : Heap}
/-- from where the walk stands (the state T, the frame g) it ends well -/
def Go (p : Program) (e : Env) (below : List Frame) (P : Outcome → State → Prop) (T : State) (g : JFrame) : Prop :=
  ∃ s₂ o, Steps p.tables e below (T.setTop g) s₂ ∧ s₂.status = .running ∧ Ended s₂ below o ∧ P o s₂
/-- what a contract asks of the end -/
abbrev PQ (s : State) (C S : Nat) (Q : Option Value → Heap → List Loc → Prop) : Outcome → State → Prop := fun o U' => ∃ v L, o = .returned v ∧ Q v U'.heap L ∧ FrameEnd s o U' L C S
theorem goS {n : Nat} {Ls' : Array Slot} {st' : List Value} (k : ∀ t, Steps p.tables e below (T'.setTop (mkF m n Ls' st')) t → Steps p.tables e below (T.setTop g) t) (h : Go p e below P T' (mkF m n Ls' st')) : Go p e below P T g := by
  obtain ⟨s2, o, h1, h2⟩ := h; exact ⟨s2, o, k _ h1, h2⟩
theorem goT {n : Nat} {Ls' : Array Slot} {st' : List Value} (k : Steps p.tables e below (T.setTop g) (T'.setTop (mkF m n Ls' st'))) (h : Go p e below P T' (mkF m n Ls' st')) : Go p e below P T g := by
  obtain ⟨s2, o, h1, h2⟩ := h; exact ⟨s2, o, k.trans h1, h2⟩
theorem enter (q : entryFrame m args n = g) (h : Go p e below P T g) : ∃ s₂ o, Steps p.tables e below (T.setTop (entryFrame m args n)) s₂ ∧ s₂.status = .running ∧ Ended s₂ below o ∧ P o s₂ := by
  rw [q]; exact h
theorem goRet {Q : Option Value → Heap → List Loc → Prop} {C S : Nat} (X : Stand p l e R s m args below meth c T locs cells slots) (hx : p.tables.exec = Jvm.exec) (hlk : meth.locks = false) {pc : Nat} {Ls : Array Slot} {w : Value} {t : FieldType} {i : Instr} {rest : List Value} (hret : meth.sig.returnType = some t) (hn : narrow t w = w)
    (hi : (i = .ireturn ∧ (t = .int ∨ t = .boolean ∨ t = .byte ∨ t = .char ∨ t = .short) ∧ ∃ z, w = .int z) ∨ (i = .lreturn ∧ t = .long ∧ ∃ z, w = .long z) ∨ (i = .dreturn ∧ t = .double ∧ ∃ z, w = .double z) ∨ (i = .freturn ∧ t = .float ∧ ∃ z, w = .float z) ∨ (i = .areturn ∧ t.isReference = true ∧ w.isRef = true))
    (hd : decode c.code pc = .ok (i, 1)) (hC : cells ≤ C) (hS : slots ≤ S) (hQ : Q (some w) T.heap locs) : Go p e below (PQ s C S Q) T (mkF m pc Ls (w :: rest)) := by
  obtain ⟨fs, hr, hrun, hended, hW, hsame⟩ := X.leave (v := some w) (fun h => by rw [hret] at h; cases h) hlk
  exact ⟨_, _, retOut X hx hret hn hi hd hr, hrun, hended, _, _, rfl, hQ, ⟨_, rfl⟩, hW, hsame.mono hC hS⟩
theorem goRetI {Q : Option Value → Heap → List Loc → Prop} {C S : Nat} (X : Stand p l e R s m args below meth c T locs cells slots) (hx : p.tables.exec = Jvm.exec) (hlk : meth.locks = false) {pc : Nat} {Ls : Array Slot} {z : Int32} {rest : List Value} (hret : meth.sig.returnType = some .int) (hd : decode c.code pc = .ok (.ireturn, 1)) (hC : cells ≤ C) (hS : slots ≤ S) (hQ : Q (some (.int z)) T.heap locs) : Go p e below (PQ s C S Q) T (mkF m pc Ls (.int z :: rest)) :=
  goRet X hx hlk hret rfl (Or.inl ⟨rfl, Or.inl rfl, _, rfl⟩) hd hC hS hQ
theorem goRetZ {Q : Option Value → Heap → List Loc → Prop} {C S : Nat} (X : Stand p l e R s m args below meth c T locs cells slots) (hx : p.tables.exec = Jvm.exec) (hlk : meth.locks = false) {pc : Nat} {Ls : Array Slot} {z : Int32} {rest : List Value} (hret : meth.sig.returnType = some .boolean) (hz : z = 0 ∨ z = 1) (hd : decode c.code pc = .ok (.ireturn, 1)) (hC : cells ≤ C) (hS : slots ≤ S) (hQ : Q (some (.int z)) T.heap locs) : Go p e below (PQ s C S Q) T (mkF m pc Ls (.int z :: rest)) :=
  goRet X hx hlk hret (by rcases hz with rfl | rfl <;> rfl) (Or.inl ⟨rfl, Or.inr (Or.inl rfl), _, rfl⟩) hd hC hS hQ
theorem goRetJ {Q : Option Value → Heap → List Loc → Prop} {C S : Nat} (X : Stand p l e R s m args below meth c T locs cells slots) (hx : p.tables.exec = Jvm.exec) (hlk : meth.locks = false) {pc : Nat} {Ls : Array Slot} {z : Int64} {rest : List Value} (hret : meth.sig.returnType = some .long) (hd : decode c.code pc = .ok (.lreturn, 1)) (hC : cells ≤ C) (hS : slots ≤ S) (hQ : Q (some (.long z)) T.heap locs) : Go p e below (PQ s C S Q) T (mkF m pc Ls (.long z :: rest)) :=
  goRet X hx hlk hret rfl (Or.inr (Or.inl ⟨rfl, rfl, _, rfl⟩)) hd hC hS hQ
theorem goRetA {Q : Option Value → Heap → List Loc → Prop} {C S : Nat} (X : Stand p l e R s m args below meth c T locs cells slots) (hx : p.tables.exec = Jvm.exec) (hlk : meth.locks = false) {pc : Nat} {Ls : Array Slot} {w : Value} {t : FieldType} {rest : List Value} (hret : meth.sig.returnType = some t) (ht : t.isReference = true) (hw : w.isRef = true) (hd : decode c.code pc = .ok (.areturn, 1)) (hC : cells ≤ C) (hS : slots ≤ S) (hQ : Q (some w) T.heap locs) : Go p e below (PQ s C S Q) T (mkF m pc Ls (w :: rest)) :=
  goRet X hx hlk hret (by cases t <;> first | rfl | cases ht) (Or.inr (Or.inr (Or.inr (Or.inr ⟨rfl, ht, hw⟩)))) hd hC hS hQ
theorem goRetV {Q : Option Value → Heap → List Loc → Prop} {C S : Nat} (X : Stand p l e R s m args below meth c T locs cells slots) (hx : p.tables.exec = Jvm.exec) (hlk : meth.locks = false) {pc : Nat} {Ls : Array Slot} (hret : meth.sig.returnType = none) (hd : decode c.code pc = .ok (.return_, 1)) (hC : cells ≤ C) (hS : slots ≤ S) (hQ : Q none T.heap locs) : Go p e below (PQ s C S Q) T (mkF m pc Ls []) := by
  obtain ⟨fs, hr, hrun, hended, hW, hsame⟩ := X.leave (v := none) (fun _ => rfl) hlk
  exact ⟨_, _, X.returnOut hx hret hd hr, hrun, hended, _, _, rfl, hQ, ⟨_, rfl⟩, hW, hsame.mono hC hS⟩
abbrev PQW (s : State) (C S : Nat) (Q : Option Value → Heap → List Loc → Prop) : Outcome → State → Prop := fun o U' => ∃ v L, o = .returned v ∧ Q v U'.heap L ∧ ReturnedEndW s o U' L C S
theorem goRetW {Q : Option Value → Heap → List Loc → Prop} {C S : Nat} {vm₁ : Vm} (X : Stand p l e R (s.setVm vm₁) m args below meth c T locs cells slots) (hx : p.tables.exec = Jvm.exec) (hlk : meth.locks = false) {n : Nat} (hS : s.Since vm₁ n) (hn0 : n ≤ T.heap.size) {pc : Nat} {Ls : Array Slot} {w : Value} {t : FieldType} {i : Instr} {rest : List Value} (hret : meth.sig.returnType = some t) (hn : narrow t w = w)
    (hi : (i = .ireturn ∧ (t = .int ∨ t = .boolean ∨ t = .byte ∨ t = .char ∨ t = .short) ∧ ∃ z, w = .int z) ∨ (i = .lreturn ∧ t = .long ∧ ∃ z, w = .long z) ∨ (i = .dreturn ∧ t = .double ∧ ∃ z, w = .double z) ∨ (i = .freturn ∧ t = .float ∧ ∃ z, w = .float z) ∨ (i = .areturn ∧ t.isReference = true ∧ w.isRef = true))
    (hd : decode c.code pc = .ok (i, 1)) (hC : cells ≤ C) (hSl : slots ≤ S) (hQ : Q (some w) T.heap locs) : Go p e below (PQW s C S Q) T (mkF m pc Ls (w :: rest)) := by
  obtain ⟨fs, hr, hrun, hended, h1, h2, h3, h4⟩ := X.leaveW hS hn0 (v := some w) (fun h => by rw [hret] at h; cases h) hlk
  exact ⟨_, _, retOut X hx hret hn hi hd hr, hrun, hended, _, _, rfl, hQ, ⟨_, rfl⟩, h2, h3, h4.mono hC hSl⟩
theorem goRetVW {Q : Option Value → Heap → List Loc → Prop} {C S : Nat} {vm₁ : Vm} (X : Stand p l e R (s.setVm vm₁) m args below meth c T locs cells slots) (hx : p.tables.exec = Jvm.exec) (hlk : meth.locks = false) {n : Nat} (hS : s.Since vm₁ n) (hn0 : n ≤ T.heap.size) {pc : Nat} {Ls : Array Slot} (hret : meth.sig.returnType = none) (hd : decode c.code pc = .ok (.return_, 1)) (hC : cells ≤ C) (hSl : slots ≤ S) (hQ : Q none T.heap locs) : Go p e below (PQW s C S Q) T (mkF m pc Ls []) := by
  obtain ⟨fs, hr, hrun, hended, h1, h2, h3, h4⟩ := X.leaveW hS hn0 (v := none) (fun _ => rfl) hlk
  exact ⟨_, _, X.returnOut hx hret hd hr, hrun, hended, _, _, rfl, hQ, ⟨_, rfl⟩, h2, h3, h4.mono hC hSl⟩
abbrev PQH (Z : State) (EL : List (String × Nat)) (s : State) (C S : Nat) (Q : Option Value → Heap → List Loc → Prop) : Outcome → State → Prop := fun o U' => ∃ v L, o = .returned v ∧ Q v U'.heap L ∧ CHr Z EL s.vm s.heap U'.vm U'.heap ∧ ReturnedEndW s o U' L C S
theorem goRetH {Q : Option Value → Heap → List Loc → Prop} {C S : Nat} {vm₁ : Vm} {EL : List (String × Nat)} {a0 : Array Value} (X : Stand p l e R (s.setVm vm₁) m args below meth c T locs cells slots) (hx : p.tables.exec = Jvm.exec) (hlk : meth.locks = false) {n : Nat} (hS : s.Since vm₁ n) (hn0 : n ≤ T.heap.size) (hZ : Z.Warmed39 vm₁) (hEL : EW Z a0 EL) (hC' : CHr Z EL s.vm s.heap vm₁ T.heap) {pc : Nat} {Ls : Array Slot} {w : Value} {t : FieldType} {i : Instr} {rest : List Value} (hret : meth.sig.returnType = some t) (hn : narrow t w = w)
    (hi : (i = .ireturn ∧ (t = .int ∨ t = .boolean ∨ t = .byte ∨ t = .char ∨ t = .short) ∧ ∃ z, w = .int z) ∨ (i = .lreturn ∧ t = .long ∧ ∃ z, w = .long z) ∨ (i = .dreturn ∧ t = .double ∧ ∃ z, w = .double z) ∨ (i = .freturn ∧ t = .float ∧ ∃ z, w = .float z) ∨ (i = .areturn ∧ t.isReference = true ∧ w.isRef = true))
    (hd : decode c.code pc = .ok (i, 1)) (hC : cells ≤ C) (hSl : slots ≤ S) (hQ : Q (some w) T.heap locs) : Go p e below (PQH Z EL s C S Q) T (mkF m pc Ls (w :: rest)) := by
  obtain ⟨fs, hr, hrun, hended, h1, h2, h3, h4⟩ := X.leaveW hS hn0 (v := some w) (fun h => by rw [hret] at h; cases h) hlk
  have qC : CHr Z EL s.vm s.heap T.vm T.heap := hC'.trans (CHv.at X hZ hEL hC'.1)
  exact ⟨_, _, retOut X hx hret hn hi hd hr, hrun, hended, _, _, rfl, hQ, qC, ⟨_, rfl⟩, h2, h3, h4.mono hC hSl⟩
theorem goRetVH {Q : Option Value → Heap → List Loc → Prop} {C S : Nat} {vm₁ : Vm} {EL : List (String × Nat)} {a0 : Array Value} (X : Stand p l e R (s.setVm vm₁) m args below meth c T locs cells slots) (hx : p.tables.exec = Jvm.exec) (hlk : meth.locks = false) {n : Nat} (hS : s.Since vm₁ n) (hn0 : n ≤ T.heap.size) (hZ : Z.Warmed39 vm₁) (hEL : EW Z a0 EL) (hC' : CHr Z EL s.vm s.heap vm₁ T.heap) {pc : Nat} {Ls : Array Slot} (hret : meth.sig.returnType = none) (hd : decode c.code pc = .ok (.return_, 1)) (hC : cells ≤ C) (hSl : slots ≤ S) (hQ : Q none T.heap locs) : Go p e below (PQH Z EL s C S Q) T (mkF m pc Ls []) := by
  obtain ⟨fs, hr, hrun, hended, h1, h2, h3, h4⟩ := X.leaveW hS hn0 (v := none) (fun _ => rfl) hlk
  have qC : CHr Z EL s.vm s.heap T.vm T.heap := hC'.trans (CHv.at X hZ hEL hC'.1)
  exact ⟨_, _, X.returnOut hx hret hd hr, hrun, hended, _, _, rfl, hQ, qC, ⟨_, rfl⟩, h2, h3, h4.mono hC hSl⟩
/-- a String under construction (its value is null) is no booked one -/
theorem safeNull {vm : Vm} {EL : List (String × Nat)} {a : Addr} (hal : Z.vm.Alike vm) (E : Exa Z h a "java/lang/String") (F : Fld Z h a "java/lang/String" "value" "[B" .null) : Safe Z EL vm h a := fun B => by
  obtain ⟨cell, cf, k, i, f, f1, f2, f3, f4, f5, f6, f7⟩ := F
  obtain ⟨cell', k', e1, e2, e3, -, -⟩ := E
  cases f1.symm.trans e1
  obtain ⟨p, -, u, a', -, q, -, F', rfl | rfl⟩ := B
  · have ha := F'.ha
    cases (show h[q.sa]? = some q.sC from ha).symm.trans f1
    obtain ⟨cS, ⟨⟨-, -, -, ⟨cv, kv, iv, s4, -⟩, -, -, -, s8, -⟩, -⟩, -⟩ := F'
    obtain ⟨kv', z4⟩ := ff_back (U := Wst Z vm h) hal s4
    cases f2.symm.trans z4
    rw [f7] at s8
    cases s8
  · have hd := F'.hd
    cases (show h[q.sd]? = some q.SA from hd).symm.trans f1
    obtain ⟨cS, -, -, hB, -⟩ := F'
    have hB' : Z.vm.findClass "[B" = some q.SA.cls := by rw [← hal.findClass]; exact hB
    obtain ⟨k1, q1, q2⟩ := Vm.findClass_spec hB'
    obtain ⟨k2, q3, q4⟩ := Vm.findClass_spec e2
    cases q1.symm.trans q3
    exact absurd (q2.symm.trans q4) (by decide)
theorem mvMN {a0 args : Array Value} {own host : String} {y : MethodName} {index : Nat} (hZ : Z.Warmed39 s.vm) (w : (Cond.methodLinkNest own index y host).before a0 Z = true) : (Cond.methodLinkNest own index y host).before args s = true := (Cond.methodLinkNest_wide hZ w :)
theorem shr0 (z : Int32) : z >>> ((0 : Int32) &&& 31) = z := by
  have h := c_ishr z 0 0 (by decide)
  exact Int32.toInt_inj.mp (by rw [h]; omega)
theorem neEA {a0 : Array Value} {a b : Addr} {C : String} {n : Nat} {k : ClassId} {ty : FieldType} {z : Int32} {vs : List Value} {d : Value} (F : Exa Z h a C) (wi : (Cond.instantiable C n).before a0 Z = true) (G : Arv Z h b k ty z vs d) : a ≠ b := by
  obtain ⟨c, A, -⟩ := G
  exact ne_arr F wi A
theorem narZ {z : Int32} (hz : z = 0 ∨ z = 1) : narrow .boolean (.int z) = .int z := by rcases hz with rfl | rfl <;> rfl
theorem fldStart {args : Array Value} {t : Term} {C n d : String} {a : Addr} {k : Int32} (ht : t.eval args Z none [] Z = some (.ref a)) (h : (Cond.eq (Term.field t C n d) (.int k)).value args Z none Z [] = some true) : Fld Z Z.heap a C n d (.int k) := by
  obtain ⟨x, y, e1, e2, k1, k2⟩ := cmp_v (Or.inl h)
  rw [Term.int_eval] at e2
  cases e2
  obtain ⟨z, rfl⟩ := k2
  have e3 := e1
  rw [fld_at ht] at e3
  have q : z = k := by simpa [Cond.value, e1, Term.int_eval] using h
  subst q
  exact Fld.start e3
def bi (P : Prop) [Decidable P] : Int32 := if P then 1 else 0
theorem bi_t {P : Prop} [Decidable P] (h : P) : bi P = 1 := if_pos h
theorem bi_f {P : Prop} [Decidable P] (h : ¬ P) : bi P = 0 := if_neg h
theorem bi01 (P : Prop) [Decidable P] : bi P = 0 ∨ bi P = 1 := by unfold bi; split <;> simp
theorem modk (x k : Int32) (K : Int) (hk : k.toInt = K) : 0 < K → 0 ≤ ((x &&& 2147483647) % k).toInt ∧ ((x &&& 2147483647) % k).toInt < K := by
  intro h0
  have h1 := c_mask x 2147483647 31 (by decide) (by decide)
  have h2 : 0 ≤ (x &&& 2147483647).toInt := by rw [h1]; omega
  have h3 := (c_irem (x &&& 2147483647) k K hk).1 h2
  rw [h3]
  exact ⟨Int.emod_nonneg _ (by omega), Int.emod_lt_of_pos _ h0⟩
/-- an index: a natural below n -/
theorem idx {i : Int32} {n : Nat} (h : 0 ≤ i.toInt ∧ i.toInt < (n : Int)) : ∃ k : Nat, k < n ∧ i.toInt = (k : Int) ∧ i.toNatClampNeg = k ∧ ¬ i < 0 := by
  have h0 : ¬ i < 0 := by rw [Int32.lt_iff_toInt_lt]; show ¬ i.toInt < 0; omega
  have h1 := nat_of h0
  exact ⟨i.toNatClampNeg, by omega, h1, rfl, h0⟩
theorem lsw {target : State} (X : Stand p l e R s m args below meth c T locs cells slots) (hx : p.tables.exec = Jvm.exec) (hg : g.method = m) {dflt : Int} {pairs : Array (Int × Int)} {len pc0 pc' : Nat} (hpc : g.pc = pc0) {o : Int} {i : Int32} {rest : List Value} (hd : decode c.code g.pc = .ok (.lookupswitch dflt pairs, len)) (hs : g.stack = .int i :: rest)
    (hord : ∀ (a b a_1 b_1 : Int), ((a, b), a_1, b_1) ∈ pairs.toList.zip pairs.toList.tail → a < a_1) (hf : (∃ kk, pairs.find? (·.1 == i.toInt) = some (kk, o)) ∨ (pairs.find? (·.1 == i.toInt) = none ∧ o = dflt)) (h0 : 0 ≤ (pc0 : Int) + o) (hp : ((pc0 : Int) + o).toNat = pc')
    (hr : Steps p.tables e below (T.setTop { g with pc := pc', stack := rest }) target) : Steps p.tables e below (T.setTop g) target := by
  subst hg hpc hp
  rcases hf with ⟨kk, hf⟩ | ⟨hf, rfl⟩
  · jvm_step X.here [X.here.top, hx, hd, hs, hf, h0, lookupswitch.wp_whole]
    exact ⟨hord, hr⟩
  · jvm_step X.here [X.here.top, hx, hd, hs, hf, h0, lookupswitch.wp_whole]
    exact ⟨hord, hr⟩
theorem ieq {x k : Int32} {n K : Nat} (hx : x.toInt = (n : Int)) (hk : k.toInt = (K : Int)) : x = k ↔ n = K := by rw [← Int32.toInt_inj, hx, hk]; omega
theorem lenStart {args : Array Value} {t : Term} {a : Addr} {cl : Cell} {ty : FieldType} {z : Int32} (ht : t.eval args Z none [] Z = some (.ref a)) (A : Arr Z Z.heap a cl ty) (h : (Term.length t).eval args Z none [] Z = some (.int z)) : cl.slots.size < 2 ^ 31 ∧ cl.slots.size.toInt32 = z := by
  have ha := A.fin (U := Z) (Vm.Alike.refl _)
  by_cases q : cl.slots.size < 2 ^ 31
  · refine ⟨q, ?_⟩
    rw [len_f ht ha q] at h
    exact Value.int.inj (Option.some.inj h)
  · simp [Term.eval, ht, ha, q] at h
theorem subIdx {args : Array Value} {j : Int32} (hj : ¬ j < 0) (k : Int32) : (Term.sub (.index 0) (.int k)).eval args Z none [j.toNatClampNeg] Z = some (.int (j - k)) := Term.sub_int (idx_at hj) (Term.int_eval _)
theorem bi_iff {P Q : Prop} [Decidable P] [Decidable Q] (h : P ↔ Q) : bi P = bi Q := by unfold bi; simp only [h]
theorem cacheIdx {x : Int32} {n : Nat} (h1 : ¬ x < (-128 : Int32)) (h2 : ¬ (127 : Int32) < x) (hn : n = (256 : Int32).toNatClampNeg) : ¬ (x + (128 : Int32) < 0 ∨ n ≤ (x + (128 : Int32)).toNatClampNeg) := by
  rw [Int32.lt_iff_toInt_lt] at h1 h2
  have a1 : ¬ x.toInt < -128 := h1
  have a2 : ¬ (127 : Int) < x.toInt := h2
  have q0 : (128 : Int32).toInt = 128 := rfl
  have q := c_iadd x 128
  have r := rng32 (x + 128)
  rw [q0] at q
  have e1 : (x + (128 : Int32)).toInt = x.toInt + 128 := by omega
  have e2 : ¬ x + (128 : Int32) < 0 := by rw [Int32.lt_iff_toInt_lt]; show ¬ _ < (0 : Int); omega
  have e3 := nat_of e2
  have e4 : n = 256 := hn
  rintro (h | h)
  · exact e2 h
  · omega
theorem nsRoot {a0 : Array Value} {O K : String} {n : Nat} (w : (Cond.noSuperclass O).before a0 Z = true) (wk : (Cond.instantiable K n).before a0 Z = true) (hn : O ≠ K) : NS Z O K := by
  obtain ⟨c, k, h1, h2, h3, -, -⟩ := Cond.noSuperclass_spec w
  obtain ⟨t, kt, g1, -⟩ := Cond.instantiable_spec wk
  have ne := ids_ne h1 g1 hn
  refine ⟨c, t, h1, g1, fun fuel => ?_⟩
  cases fuel with
  | zero => rfl
  | succ f => simp [Vm.isSubclassAux, ne, h2, h3]
theorem nsNo {a0 : Array Value} {C S K : String} {n : Nat} (w : (Cond.superclass C S).before a0 Z = true) (wk : (Cond.instantiable K n).before a0 Z = true) (q : NS Z C K) (hn : C ≠ K) : ∃ c t, Z.vm.findClass C = some c ∧ Z.vm.findClass K = some t ∧ Z.vm.assignable c t = false := by
  obtain ⟨c, t, h0, g0, n3⟩ := q
  obtain ⟨p, k, kp, h1, h2, h3, h4, h5, -, h7⟩ := Cond.superclass_spec h0 w
  obtain ⟨t', k', g1, g2, g5, g7, -⟩ := Cond.instantiable_spec wk
  cases g0.symm.trans g1
  have g8 := (Bool.or_eq_false_iff.mp g7).1
  have ne := ids_ne h0 g0 hn
  refine ⟨c, t, h0, g0, ?_⟩
  show Z.vm.assignableAux (255 + 1) c t = false
  simp [Vm.assignableAux, ne, h2, g2, h5, g5, g8, Vm.isSubclass, n3]
theorem ne_key {x k : Int32} {K : Int} (h : ¬ x = k) (hk : k.toInt = K) : K ≠ x.toInt := fun q => h (Int32.toInt_inj.mp (by rw [hk]; exact q.symm))
end Own
end Jvm.OwnGo

namespace Jvm.Pilot.@@N@@
open Jvm Jvm.ClassFile Sem Op Lib Jvm.Free Jvm.Stand Jvm.LawKit Jvm.RoadKit Jvm.OwnGo Bundle Jvm.Pilot.@@N@@.Jvm.D
theorem own_wS {Z : State} {a0 : Array Value} (hw : ∀ d ∈ tables_1, d.before a0 Z = true) : ∀ a ∈ Bundle.stringAtoms, a.before a0 Z = true := by
  intro a ha
  simp only [Bundle.stringAtoms, List.mem_cons, List.not_mem_nil, or_false] at ha
  rcases ha with rfl | rfl | rfl | rfl | rfl | rfl | rfl
  all_goals first | exact (hw _ (List.mem_of_getElem? (i := 9) rfl)) | exact (hw _ (List.mem_of_getElem? (i := 8) rfl)) | exact (hw _ (List.mem_of_getElem? (i := 22) rfl)) | exact (hw _ (List.mem_of_getElem? (i := 23) rfl)) | exact (hw _ (List.mem_of_getElem? (i := 24) rfl)) | exact (hw _ (List.mem_of_getElem? (i := 25) rfl)) | exact (hw _ (List.mem_of_getElem? (i := 26) rfl))
abbrev own_EL : List (String × Nat) := [("java/lang/String", 7)]
theorem own_EW {Z : State} {a0 : Array Value} (hw : ∀ d ∈ tables_1, d.before a0 Z = true) : EW Z a0 own_EL := EW.cons (text := "") (hw _ (List.mem_of_getElem? (i := 21) rfl)) (fun _ q => nomatch q) EW.nil
theorem own_words {Z : State} {a0 : Array Value} (hw : ∀ d ∈ tables_1, d.before a0 Z = true) : ∀ d ∈ StrChars.Road.words, d.before a0 Z = true := fun d hd => hw d ((by decide +kernel : ∀ d ∈ StrChars.Road.words, d ∈ tables_1) d hd)
theorem own_wordsEq {Z : State} {a0 : Array Value} (hw : ∀ d ∈ tables_1, d.before a0 Z = true) : ∀ d ∈ StrChars.Road.wordsEq, d.before a0 Z = true := fun d hd => hw d ((by decide +kernel : ∀ d ∈ StrChars.Road.wordsEq, d ∈ tables_1) d hd)
theorem own_cod {cs : List Int32} (hb : ∀ c ∈ cs, ¬ c < 0 ∧ ¬ (255 : Int32) < c) : StrChars.Road.CodA cs 0 (Int32.ofNat cs.length) ((List.map (fun c : Int32 => c.toInt8.toInt32) cs).map Value.int) := StrChars.Road.codOf rfl fun c hc => (hb c hc).2
theorem own_up {cs : List Int32} (hb : ∀ c ∈ cs, ¬ c < 0 ∧ ¬ (255 : Int32) < c) : ∀ c ∈ cs, ¬ c < 0 ∧ ¬ (65535 : Int32) < c := fun c hc => ⟨(hb c hc).1, fun q => (hb c hc).2 (by rw [Int32.lt_iff_toInt_lt] at *; have z1 : (255 : Int32).toInt = 255 := rfl; have z2 : (65535 : Int32).toInt = 65535 := rfl; omega)⟩
def own_mk (n : Int32) (c0 : Int32) (c1 : Int32) : List Int32 := if n = (0 : Int32) then [] else if n = (1 : Int32) then [c0] else [c0, c1]
theorem own_mkR (n : Int32) (c0 : Int32) (c1 : Int32) (h0 : (¬ c0 < 0 ∧ ¬ (255 : Int32) < c0)) (h1 : (¬ c1 < 0 ∧ ¬ (255 : Int32) < c1)) : ∀ c ∈ own_mk n c0 c1, (¬ c < 0 ∧ ¬ (255 : Int32) < c) := by
  intro c hc
  unfold own_mk at hc
  repeat' split at hc
  all_goals (simp only [List.mem_cons, List.not_mem_nil, or_false] at hc; try (first | (rcases hc with rfl | rfl) | skip))
  all_goals first | assumption | (exact False.elim hc) | (rcases hc with rfl | rfl <;> assumption) | (subst hc; assumption)
theorem own_mkL (n : Int32) (c0 : Int32) (c1 : Int32) : (own_mk n c0 c1).length ≤ 4000 := by
  unfold own_mk
  repeat' split
  all_goals simp
theorem own_narC (x : Int32) (h : (¬ x < 0 ∧ ¬ (255 : Int32) < x)) : nar .char x = x := by
  have q := c_i2c x
  obtain ⟨h1, h2⟩ := h
  rw [Int32.lt_iff_toInt_lt] at h1 h2
  have z1 : (0 : Int32).toInt = 0 := rfl
  have z2 : (255 : Int32).toInt = 255 := rfl
  exact Int32.toInt_inj.mp (by show (x.toUInt32.toUInt16.toUInt32.toInt32).toInt = _; omega)
theorem d3_0 : decode jdk_42_method_149_code 0 = .ok (.aload_n 0, 1) := by decide +kernel
theorem d3_1 : decode jdk_42_method_149_code 1 = .ok (.invokespecial 1, 3) := by decide +kernel
theorem d3_4 : decode jdk_42_method_149_code 4 = .ok (.iload_n 3, 1) := by decide +kernel
theorem d3_5 : decode jdk_42_method_149_code 5 = .ok (.ifCond .ne 22, 3) := by decide +kernel
theorem d3_8 : decode jdk_42_method_149_code 8 = .ok (.aload_n 0, 1) := by decide +kernel
theorem d3_9 : decode jdk_42_method_149_code 9 = .ok (.ldc 7, 2) := by decide +kernel
theorem d3_11 : decode jdk_42_method_149_code 11 = .ok (.getfield 9, 3) := by decide +kernel
theorem d3_14 : decode jdk_42_method_149_code 14 = .ok (.putfield 9, 3) := by decide +kernel
theorem d3_17 : decode jdk_42_method_149_code 17 = .ok (.aload_n 0, 1) := by decide +kernel
theorem d3_18 : decode jdk_42_method_149_code 18 = .ok (.ldc 7, 2) := by decide +kernel
theorem d3_20 : decode jdk_42_method_149_code 20 = .ok (.getfield 15, 3) := by decide +kernel
theorem d3_23 : decode jdk_42_method_149_code 23 = .ok (.putfield 15, 3) := by decide +kernel
theorem d3_26 : decode jdk_42_method_149_code 26 = .ok (.return_, 1) := by decide +kernel
theorem pn_0 : plainName "java/lang/String" = true := by first | (simp [plainName, overriddenIn]; done) | decide +kernel
theorem ef_strE4 (m : MethodId) (a : Addr) (c0 : Addr) : entryFrame m #[(.ref a), (.ref c0), (.int (0 : Int32)), (.int (0 : Int32)), .null] 6 = mkF m 0 #[.val (.ref a), .val (.ref c0), .val (.int (0 : Int32)), .val (.int (0 : Int32)), .val .null, .unset] [] := by first | (simp [entryFrame, mkF, argsToLocals, Value.category]; done) | rfl
abbrev R_strE4 : Room := { frames := 1, cells := 4, slots := 8, locals := 12 }
def Q_strE4 (Z : State) (a : Addr) (c0 : Addr) (h0 : Heap) (n0 : Nat) (v : Option Value) (h : Heap) (L : List Loc) : Prop := v = none ∧ ∃ (t : Addr) (k : ClassId), Fr n0 L ∧ Keep h0 h [a] ∧ Fld Z h a "java/lang/String" "value" "[B" (.ref t) ∧ Fld Z h a "java/lang/String" "coder" "B" (.int (0 : Int32)) ∧ Arv Z h t k .byte (0 : Int32) [] (.int (0 : Int32))
set_option maxRecDepth 65536 in
set_option maxHeartbeats 40000000 in
theorem rm_strE4 (l : Launch) (Z : State) (a0 : Array Value) (hw : ∀ d ∈ tables_1, d.before a0 Z = true) (ws : List Jvm.Cond) (a : Addr) (c0 : Addr) (h0 : Heap) (n0 : Nat) (O0 : Old Z n0 h0) (E_a : Exa Z h0 a "java/lang/String") (F_value_a : Fld Z h0 a "java/lang/String" "value" "[B" .null) (F_coder_a : Fld Z h0 a "java/lang/String" "coder" "B" (.int (0 : Int32))) (g_a : n0 ≤ a) :
    MetFree l (⟨"java/lang/String", "<init>", "([CIILjava/lang/Void;)V"⟩ : MethodName) (head1 (Jvm.Cond.code (⟨"java/lang/String", "<init>", "([CIILjava/lang/Void;)V"⟩ : MethodName) jdk_42_method_149_code 6 none :: ws) R_strE4) (fun as_ U => as_ = #[(.ref a), (.ref c0), (.int (0 : Int32)), (.int (0 : Int32)), .null] ∧ Z.Warmed39 U.vm ∧ U.heap = h0 ∧ CHv Z own_EL U.vm h0) (fun _ _ _ _ _ => True) (fun _ U o U' => ∃ v L, o = .returned v ∧ Q_strE4 Z a c0 h0 n0 v U'.heap L ∧ CHr Z own_EL U.vm U.heap U'.vm U'.heap ∧ ReturnedEndW U o U' L R_strE4.cells R_strE4.slots) := by
  refine MetFree.of_bodySF (plainFor_of_name pn_0) hisR ?_
  intro p e s m args below meth c s₁ Bd hml0 hP hK
  obtain ⟨rfl, hZ, hh, hC0⟩ := hP
  have hx := Bd.exec
  have hby := Bd.bytes
  have hml : c.maxLocals = 6 := hml0
  have hown : s.vm.findClass "java/lang/String" = some m.cls := findClass_of_methodNamed Bd.named
  have hnm := (name_of_methodNamed Bd.named Bd.method).1
  have hlk : meth.locks = false := BodyLoose.notSynchronized Bd
  have X0 : Stand p l e R_strE4 (s.setVm s.vm) m #[(.ref a), (.ref c0), (.int (0 : Int32)), (.int (0 : Int32)), .null] below meth c s₁ [] 0 0 := Stand.of_body Bd
  have e0 : s₁.heap = h0 := by rw [← hh, Bd.state]; rfl
  have N0 := Fr.nil n0
  have hS : s.Since s.vm s.heap.size := (State.WarmedH.refl s).since _
  have hk : s.heap.size ≤ h0.size := by rw [← hh]; exact Nat.le_refl _
  have hZ : Z.Warmed39 (s.setVm s.vm).vm := hZ
  have hown : (s.setVm s.vm).vm.findClass "java/lang/String" = some m.cls := hown
  have wS := own_wS hw
  have hC : CHr Z own_EL s.vm h0 s.vm h0 := CHr.refl hC0
  have hEL := own_EW hw
  have SF_a : Safe Z own_EL s.vm h0 a := safeNull hZ.alike E_a F_value_a
  refine enter (P := PQH Z own_EL s R_strE4.cells R_strE4.slots (Q_strE4 Z a c0 h0 n0)) (ef_strE4 m a c0) ?_
  refine goS (n := 1) (Ls' := #[.val (.ref a), .val (.ref c0), .val (.int (0 : Int32)), .val (.int (0 : Int32)), .val .null, .unset]) (st' := [(.ref a)]) (fun _ kz => XS.aloadN X0.here hx rfl (hb hby d3_0) rfl rfl kz) ?_
  obtain ⟨T1, X1, e1, st1⟩ := initO X0 hx hZ hown (hw _ (List.mem_of_getElem? (i := 18) rfl)) (hw _ (List.mem_of_getElem? (i := 19) rfl)) (hw _ (List.mem_of_getElem? (i := 20) rfl)) e0 (g := (mkF m 1 #[.val (.ref a), .val (.ref c0), .val (.int (0 : Int32)), .val (.int (0 : Int32)), .val .null, .unset] [(.ref a)])) rfl (by rw [hml]; rfl) rfl (hb hby d3_1) (by decide) (W := 0) (by show 2 * 0 + _ ≤ _; exact Nat.le_of_eq rfl) (by decide)
  refine goS (n := 4) (Ls' := #[.val (.ref a), .val (.ref c0), .val (.int (0 : Int32)), .val (.int (0 : Int32)), .val .null, .unset]) (st' := []) st1 ?_
  refine goS (n := 5) (Ls' := #[.val (.ref a), .val (.ref c0), .val (.int (0 : Int32)), .val (.int (0 : Int32)), .val .null, .unset]) (st' := [(.int (0 : Int32))]) (fun _ kz => XS.iloadN X1.here hx rfl (hb hby d3_4) rfl kz) ?_
  refine goS (n := 8) (Ls' := #[.val (.ref a), .val (.ref c0), .val (.int (0 : Int32)), .val (.int (0 : Int32)), .val .null, .unset]) (st' := []) (fun _ kz => XS.ifNo X1.here hx rfl (hb hby d3_5) rfl (by decide) kz) ?_
  refine goS (n := 9) (Ls' := #[.val (.ref a), .val (.ref c0), .val (.int (0 : Int32)), .val (.int (0 : Int32)), .val .null, .unset]) (st' := [(.ref a)]) (fun _ kz => XS.aloadN X1.here hx rfl (hb hby d3_8) rfl rfl kz) ?_
  obtain ⟨sa2, T2, h2, k12, sb2, kb2, X2, e2, E2, hS, hk2, hZ, hown, E_sa2, F_coder_sa2, F_value_sa2, V_sb2, -, -, hCr2, -, hne2, st2⟩ := ldcCH X1 hx hZ hown (hw _ (List.mem_of_getElem? (i := 21) rfl)) wS e1 hS hk hEL (List.mem_of_getElem? (i := 0) rfl) hC.1 (vs := []) (z := 0) ⟨(fun _ q => nomatch q), rfl⟩ (by decide) rfl (g := (mkF m 9 #[.val (.ref a), .val (.ref c0), .val (.int (0 : Int32)), .val (.int (0 : Int32)), .val .null, .unset] [(.ref a)])) rfl (hb hby d3_9) (n := 0) (by decide +kernel) (by decide) (by decide) (by decide)
  have SF_a := CHr.safe hCr2 E_a.lt SF_a
  have hC := hC.trans hCr2
  have E_a : Exa Z h2 a "java/lang/String" := E_a.ext E2
  have F_value_a : Fld Z h2 a "java/lang/String" "value" "[B" .null := F_value_a.ext E2
  have F_coder_a : Fld Z h2 a "java/lang/String" "coder" "B" (.int (0 : Int32)) := F_coder_a.ext E2
  have hk := hk2
  have O2 := O0.ext E2
  have KK2 : Keep h0 h2 [a] := (Keep.refl h0 [a]).ext E2
  have ne_a_sa2 : a ≠ sa2 := (hne2 _ SF_a).1
  have ne_a_sb2 : a ≠ sb2 := (hne2 _ SF_a).2
  refine goS (n := 11) (Ls' := #[.val (.ref a), .val (.ref c0), .val (.int (0 : Int32)), .val (.int (0 : Int32)), .val .null, .unset]) (st' := [(.ref sa2), (.ref a)]) st2 ?_
  obtain ⟨T3, X3, e3, st3⟩ := getF X2 hx hZ hown (host := "") (Or.inl (hw _ (List.mem_of_getElem? (i := 27) rfl))) Via.refl e2 F_value_sa2 (g := (mkF m 11 #[.val (.ref a), .val (.ref c0), .val (.int (0 : Int32)), .val (.int (0 : Int32)), .val .null, .unset] [(.ref sa2), (.ref a)])) rfl rfl (hb hby d3_11)
  refine goS (n := 14) (Ls' := #[.val (.ref a), .val (.ref c0), .val (.int (0 : Int32)), .val (.int (0 : Int32)), .val .null, .unset]) (st' := [(.ref sb2), (.ref a)]) st3 ?_
  obtain ⟨T4, h4, X4, e4, W4, st4⟩ := putF X3 hx hZ hown (host := "") (Or.inl (hw _ (List.mem_of_getElem? (i := 27) rfl))) Via.refl e3 F_value_a E_a (Or.inr ⟨(hw _ (List.mem_of_getElem? (i := 23) rfl)), rfl, hnm⟩) (hw _ (List.mem_of_getElem? (i := 8) rfl)) (ty := (.array .byte)) (v := (.ref sb2)) (by decide) rfl rfl (g := (mkF m 14 #[.val (.ref a), .val (.ref c0), .val (.int (0 : Int32)), .val (.int (0 : Int32)), .val .null, .unset] [(.ref sb2), (.ref a)])) rfl rfl (hb hby d3_14)
  have Fn4 : Fld Z h4 a "java/lang/String" "value" "[B" (.ref sb2) := F_value_a.same W4
  have hk := Nat.le_trans hk (Keep.of_wr W4).1
  have sfw := SF_a
  have SF_a := Safe.wr W4 sfw hC.1 SF_a
  have hC := hC.trans (CHr.wr W4 sfw hC.1)
  have E_a : Exa Z h4 a "java/lang/String" := E_a.wr W4
  have F_coder_a : Fld Z h4 a "java/lang/String" "coder" "B" (.int (0 : Int32)) := F_coder_a.other W4 (Or.inr (slot_ne (Or.inr (hw _ (List.mem_of_getElem? (i := 24) rfl))) (Or.inr (hw _ (List.mem_of_getElem? (i := 23) rfl))) (by decide) (t := .byte) (t' := (.array .byte)) (by decide) (by decide)))
  have E_sa2 : Exa Z h4 sa2 "java/lang/String" := E_sa2.wr W4
  have F_coder_sa2 : Fld Z h4 sa2 "java/lang/String" "coder" "B" (.int (0 : Int32)) := F_coder_sa2.other W4 (Or.inl (Ne.symm ne_a_sa2))
  have F_value_sa2 : Fld Z h4 sa2 "java/lang/String" "value" "[B" (.ref sb2) := F_value_sa2.other W4 (Or.inl (Ne.symm ne_a_sa2))
  have V_sb2 : Arv Z h4 sb2 kb2 .byte (0 : Int32) [] (.int (0 : Int32)) := V_sb2.other W4 (Ne.symm ne_a_sb2)
  have F_value_a := Fn4
  have N4 := Fr.snoc X4 N0 g_a
  have O4 := O2.wr W4 g_a
  have KK4 : Keep h0 h4 [a] := KK2.wr W4 (Or.inl (List.mem_of_getElem? (i := 0) rfl))
  refine goS (n := 17) (Ls' := #[.val (.ref a), .val (.ref c0), .val (.int (0 : Int32)), .val (.int (0 : Int32)), .val .null, .unset]) (st' := []) st4 ?_
  refine goS (n := 18) (Ls' := #[.val (.ref a), .val (.ref c0), .val (.int (0 : Int32)), .val (.int (0 : Int32)), .val .null, .unset]) (st' := [(.ref a)]) (fun _ kz => XS.aloadN X4.here hx rfl (hb hby d3_17) rfl rfl kz) ?_
  obtain ⟨sa5, T5, h5, k15, sb5, kb5, X5, e5, E5, hS, hk5, hZ, hown, E_sa5, F_coder_sa5, F_value_sa5, V_sb5, -, -, hCr5, -, hne5, st5⟩ := ldcCH X4 hx hZ hown (hw _ (List.mem_of_getElem? (i := 21) rfl)) wS e4 hS hk hEL (List.mem_of_getElem? (i := 0) rfl) hC.1 (vs := []) (z := 0) ⟨(fun _ q => nomatch q), rfl⟩ (by decide) rfl (g := (mkF m 18 #[.val (.ref a), .val (.ref c0), .val (.int (0 : Int32)), .val (.int (0 : Int32)), .val .null, .unset] [(.ref a)])) rfl (hb hby d3_18) (n := 0) (by decide +kernel) (by decide) (by decide) (by decide)
  have SF_a := CHr.safe hCr5 E_a.lt SF_a
  have hC := hC.trans hCr5
  have E_a : Exa Z h5 a "java/lang/String" := E_a.ext E5
  have F_coder_a : Fld Z h5 a "java/lang/String" "coder" "B" (.int (0 : Int32)) := F_coder_a.ext E5
  have E_sa2 : Exa Z h5 sa2 "java/lang/String" := E_sa2.ext E5
  have F_coder_sa2 : Fld Z h5 sa2 "java/lang/String" "coder" "B" (.int (0 : Int32)) := F_coder_sa2.ext E5
  have F_value_sa2 : Fld Z h5 sa2 "java/lang/String" "value" "[B" (.ref sb2) := F_value_sa2.ext E5
  have V_sb2 : Arv Z h5 sb2 kb2 .byte (0 : Int32) [] (.int (0 : Int32)) := V_sb2.ext E5
  have F_value_a : Fld Z h5 a "java/lang/String" "value" "[B" (.ref sb2) := F_value_a.ext E5
  have hk := hk5
  have O5 := O4.ext E5
  have KK5 : Keep h0 h5 [a] := KK4.ext E5
  have ne_a_sa5 : a ≠ sa5 := (hne5 _ SF_a).1
  have ne_a_sb5 : a ≠ sb5 := (hne5 _ SF_a).2
  refine goS (n := 20) (Ls' := #[.val (.ref a), .val (.ref c0), .val (.int (0 : Int32)), .val (.int (0 : Int32)), .val .null, .unset]) (st' := [(.ref sa5), (.ref a)]) st5 ?_
  obtain ⟨T6, X6, e6, st6⟩ := getF X5 hx hZ hown (host := "") (Or.inl (hw _ (List.mem_of_getElem? (i := 28) rfl))) Via.refl e5 F_coder_sa5 (g := (mkF m 20 #[.val (.ref a), .val (.ref c0), .val (.int (0 : Int32)), .val (.int (0 : Int32)), .val .null, .unset] [(.ref sa5), (.ref a)])) rfl rfl (hb hby d3_20)
  refine goS (n := 23) (Ls' := #[.val (.ref a), .val (.ref c0), .val (.int (0 : Int32)), .val (.int (0 : Int32)), .val .null, .unset]) (st' := [(.int (0 : Int32)), (.ref a)]) st6 ?_
  obtain ⟨T7, h7, X7, e7, W7, st7⟩ := putFN X6 hx hZ hown (hw _ (List.mem_of_getElem? (i := 28) rfl)) Via.refl e6 F_coder_a E_a (Or.inr ⟨(hw _ (List.mem_of_getElem? (i := 24) rfl)), rfl, hnm⟩) (hw _ (List.mem_of_getElem? (i := 8) rfl)) (ty := .byte) (v' := (.int (0 : Int32))) (by decide) rfl rfl (g := (mkF m 23 #[.val (.ref a), .val (.ref c0), .val (.int (0 : Int32)), .val (.int (0 : Int32)), .val .null, .unset] [(.int (0 : Int32)), (.ref a)])) rfl rfl (hb hby d3_23)
  have Fn7 : Fld Z h7 a "java/lang/String" "coder" "B" (.int (0 : Int32)) := F_coder_a.same W7
  have hk := Nat.le_trans hk (Keep.of_wr W7).1
  have sfw := SF_a
  have SF_a := Safe.wr W7 sfw hC.1 SF_a
  have hC := hC.trans (CHr.wr W7 sfw hC.1)
  have E_a : Exa Z h7 a "java/lang/String" := E_a.wr W7
  have E_sa2 : Exa Z h7 sa2 "java/lang/String" := E_sa2.wr W7
  have F_coder_sa2 : Fld Z h7 sa2 "java/lang/String" "coder" "B" (.int (0 : Int32)) := F_coder_sa2.other W7 (Or.inl (Ne.symm ne_a_sa2))
  have F_value_sa2 : Fld Z h7 sa2 "java/lang/String" "value" "[B" (.ref sb2) := F_value_sa2.other W7 (Or.inl (Ne.symm ne_a_sa2))
  have V_sb2 : Arv Z h7 sb2 kb2 .byte (0 : Int32) [] (.int (0 : Int32)) := V_sb2.other W7 (Ne.symm ne_a_sb2)
  have F_value_a : Fld Z h7 a "java/lang/String" "value" "[B" (.ref sb2) := F_value_a.other W7 (Or.inr (slot_ne (Or.inr (hw _ (List.mem_of_getElem? (i := 23) rfl))) (Or.inr (hw _ (List.mem_of_getElem? (i := 24) rfl))) (by decide) (t := (.array .byte)) (t' := .byte) (by decide) (by decide)))
  have E_sa5 : Exa Z h7 sa5 "java/lang/String" := E_sa5.wr W7
  have F_coder_sa5 : Fld Z h7 sa5 "java/lang/String" "coder" "B" (.int (0 : Int32)) := F_coder_sa5.other W7 (Or.inl (Ne.symm ne_a_sa5))
  have F_value_sa5 : Fld Z h7 sa5 "java/lang/String" "value" "[B" (.ref sb5) := F_value_sa5.other W7 (Or.inl (Ne.symm ne_a_sa5))
  have V_sb5 : Arv Z h7 sb5 kb5 .byte (0 : Int32) [] (.int (0 : Int32)) := V_sb5.other W7 (Ne.symm ne_a_sb5)
  have F_coder_a := Fn7
  have N7 := Fr.snoc X7 N4 g_a
  have O7 := O5.wr W7 g_a
  have KK7 : Keep h0 h7 [a] := KK5.wr W7 (Or.inl (List.mem_of_getElem? (i := 0) rfl))
  refine goS (n := 26) (Ls' := #[.val (.ref a), .val (.ref c0), .val (.int (0 : Int32)), .val (.int (0 : Int32)), .val .null, .unset]) (st' := []) st7 ?_
  exact goRetVH X7 hx hlk hS (by rw [e7]; exact hk) hZ hEL (by rw [hh, e7]; exact hC) Bd.returns (hb hby d3_26) (by decide) (by decide) (by rw [e7]; exact ⟨rfl, sb2, _, N7, KK7, F_value_a, F_coder_a, V_sb2⟩)
theorem d2_0 : decode jdk_42_method_3_code 0 = .ok (.aload_n 0, 1) := by decide +kernel
theorem d2_1 : decode jdk_42_method_3_code 1 = .ok (.aload_n 1, 1) := by decide +kernel
theorem d2_2 : decode jdk_42_method_3_code 2 = .ok (.iconst 0, 1) := by decide +kernel
theorem d2_3 : decode jdk_42_method_3_code 3 = .ok (.aload_n 1, 1) := by decide +kernel
theorem d2_4 : decode jdk_42_method_3_code 4 = .ok (.arraylength, 1) := by decide +kernel
theorem d2_5 : decode jdk_42_method_3_code 5 = .ok (.aconst_null, 1) := by decide +kernel
theorem d2_6 : decode jdk_42_method_3_code 6 = .ok (.invokespecial 27, 3) := by decide +kernel
theorem pd_0 : parseMethodDescriptor "([CIILjava/lang/Void;)V" = some ⟨[(.array .char), .int, .int, (.object "java/lang/Void")], none⟩ := by decide +kernel
theorem d2_9 : decode jdk_42_method_3_code 9 = .ok (.return_, 1) := by decide +kernel
theorem ef_strE1 (m : MethodId) (a : Addr) (c0 : Addr) : entryFrame m #[(.ref a), (.ref c0)] 2 = mkF m 0 #[.val (.ref a), .val (.ref c0)] [] := by first | (simp [entryFrame, mkF, argsToLocals, Value.category]; done) | rfl
abbrev R_strE1 : Room := { frames := 2, cells := 4, slots := 8, locals := 29 }
def Q_strE1 (Z : State) (a : Addr) (c0 : Addr) (kc : ClassId) (vs : List Value) (h0 : Heap) (n0 : Nat) (v : Option Value) (h : Heap) (L : List Loc) : Prop := v = none ∧ ∃ (t : Addr) (k : ClassId), Fr n0 L ∧ Keep h0 h [a] ∧ Fld Z h a "java/lang/String" "value" "[B" (.ref t) ∧ Fld Z h a "java/lang/String" "coder" "B" (.int (0 : Int32)) ∧ Arv Z h t k .byte (0 : Int32) [] (.int (0 : Int32))
set_option maxRecDepth 65536 in
set_option maxHeartbeats 40000000 in
theorem rm_strE1 (l : Launch) (Z : State) (a0 : Array Value) (hw : ∀ d ∈ tables_1, d.before a0 Z = true) (ws : List Jvm.Cond) (a : Addr) (c0 : Addr) (kc : ClassId) (vs : List Value) (h0 : Heap) (n0 : Nat) (O0 : Old Z n0 h0) (E_a : Exa Z h0 a "java/lang/String") (F_value_a : Fld Z h0 a "java/lang/String" "value" "[B" .null) (F_coder_a : Fld Z h0 a "java/lang/String" "coder" "B" (.int (0 : Int32))) (g_a : n0 ≤ a) (V_c0 : Arv Z h0 c0 kc .char (0 : Int32) vs (.int (0 : Int32))) :
    MetFree l (⟨"java/lang/String", "<init>", "([C)V"⟩ : MethodName) (head1 (Jvm.Cond.code (⟨"java/lang/String", "<init>", "([C)V"⟩ : MethodName) jdk_42_method_3_code 2 none :: ws) R_strE1) (fun as_ U => as_ = #[(.ref a), (.ref c0)] ∧ Z.Warmed39 U.vm ∧ U.heap = h0 ∧ CHv Z own_EL U.vm h0) (fun _ _ _ _ _ => True) (fun _ U o U' => ∃ v L, o = .returned v ∧ Q_strE1 Z a c0 kc vs h0 n0 v U'.heap L ∧ CHr Z own_EL U.vm U.heap U'.vm U'.heap ∧ ReturnedEndW U o U' L R_strE1.cells R_strE1.slots) := by
  refine MetFree.of_bodySF (plainFor_of_name pn_0) hisR ?_
  intro p e s m args below meth c s₁ Bd hml0 hP hK
  obtain ⟨rfl, hZ, hh, hC0⟩ := hP
  have hx := Bd.exec
  have hby := Bd.bytes
  have hml : c.maxLocals = 2 := hml0
  have hown : s.vm.findClass "java/lang/String" = some m.cls := findClass_of_methodNamed Bd.named
  have hnm := (name_of_methodNamed Bd.named Bd.method).1
  have hlk : meth.locks = false := BodyLoose.notSynchronized Bd
  have X0 : Stand p l e R_strE1 (s.setVm s.vm) m #[(.ref a), (.ref c0)] below meth c s₁ [] 0 0 := Stand.of_body Bd
  have e0 : s₁.heap = h0 := by rw [← hh, Bd.state]; rfl
  have N0 := Fr.nil n0
  have hS : s.Since s.vm s.heap.size := (State.WarmedH.refl s).since _
  have hk : s.heap.size ≤ h0.size := by rw [← hh]; exact Nat.le_refl _
  have hZ : Z.Warmed39 (s.setVm s.vm).vm := hZ
  have hown : (s.setVm s.vm).vm.findClass "java/lang/String" = some m.cls := hown
  have wS := own_wS hw
  have hC : CHr Z own_EL s.vm h0 s.vm h0 := CHr.refl hC0
  have hEL := own_EW hw
  have SF_a : Safe Z own_EL s.vm h0 a := safeNull hZ.alike E_a F_value_a
  refine enter (P := PQH Z own_EL s R_strE1.cells R_strE1.slots (Q_strE1 Z a c0 kc vs h0 n0)) (ef_strE1 m a c0) ?_
  refine goS (n := 1) (Ls' := #[.val (.ref a), .val (.ref c0)]) (st' := [(.ref a)]) (fun _ kz => XS.aloadN X0.here hx rfl (hb hby d2_0) rfl rfl kz) ?_
  refine goS (n := 2) (Ls' := #[.val (.ref a), .val (.ref c0)]) (st' := [(.ref c0), (.ref a)]) (fun _ kz => XS.aloadN X0.here hx rfl (hb hby d2_1) rfl rfl kz) ?_
  refine goS (n := 3) (Ls' := #[.val (.ref a), .val (.ref c0)]) (st' := [(.int (0 : Int32)), (.ref c0), (.ref a)]) (fun _ kz => XS.iconst X0.here hx rfl (hb hby d2_2) kz) ?_
  refine goS (n := 4) (Ls' := #[.val (.ref a), .val (.ref c0)]) (st' := [(.ref c0), (.int (0 : Int32)), (.ref c0), (.ref a)]) (fun _ kz => XS.aloadN X0.here hx rfl (hb hby d2_3) rfl rfl kz) ?_
  have vv1 := V_c0
  obtain ⟨cl1, Ar1, -, S1, Nn1, -, -⟩ := vv1
  refine goS (n := 5) (Ls' := #[.val (.ref a), .val (.ref c0)]) (st' := [(.int (0 : Int32)), (.int (0 : Int32)), (.ref c0), (.ref a)]) (fun tz kz => X0.arraylength hx (by rw [e0]; exact Ar1.1) (State.isArrayOf_alike hZ.alike Ar1.2.1) (g := (mkF m 4 #[.val (.ref a), .val (.ref c0)] [(.ref c0), (.int (0 : Int32)), (.ref c0), (.ref a)])) rfl rfl (hb hby d2_4) tz (by rw [len_of S1 Nn1]; exact kz)) ?_
  refine goS (n := 6) (Ls' := #[.val (.ref a), .val (.ref c0)]) (st' := [.null, (.int (0 : Int32)), (.int (0 : Int32)), (.ref c0), (.ref a)]) (fun _ kz => XS.aconstNull X0.here hx rfl (hb hby d2_5) kz) ?_
  obtain ⟨vr2, _, ⟨T2, L2, k2, n2⟩, -, X2, hS2, hgr2, ⟨Lc2, hQ2, l2, y2, z2, hCr2⟩, st2⟩ := X0.specialBackS hx (y := (⟨"java/lang/String", "<init>", "([CIILjava/lang/Void;)V"⟩ : MethodName)) rfl hown (mvT hZ (hw _ (List.mem_of_getElem? (i := 14) rfl))) (mvT hZ (hw _ (List.mem_of_getElem? (i := 15) rfl))) (mvT hZ (hw _ (List.mem_of_getElem? (i := 17) rfl))) (by decide) (backOfSH (W := 0) (rm_strE4 l Z a0 hw [] a c0 h0 n0 O0 E_a F_value_a F_coder_a g_a) hZ (hw _ (List.mem_of_getElem? (i := 17) rfl)) (hw _ (List.mem_of_getElem? (i := 9) rfl)) (by decide) (by decide) hEL hC.1) (g := (mkF m 6 #[.val (.ref a), .val (.ref c0)] [.null, (.int (0 : Int32)), (.int (0 : Int32)), (.ref c0), (.ref a)])) rfl (by rw [hml]; rfl) (Steps.refl _) (a := a) (argsL := [(.ref c0), (.int (0 : Int32)), (.int (0 : Int32)), .null]) (rest := []) (lenOf pd_0 rfl) rfl (by show 2 * 0 + _ ≤ _; exact Nat.le_of_eq rfl) (hb hby d2_6) (fun _ _ => ⟨rfl, e0, (Nat.le_of_ble_eq_true rfl), (Nat.le_of_ble_eq_true rfl)⟩)
  dsimp only [Pt.U, Pt.locs, Pt.cells, Pt.slots] at X2 l2 y2 z2 st2 hQ2 hS2 hgr2 hCr2
  subst l2 y2 z2
  obtain ⟨X2, hS, hZ, hown⟩ := rebS hS (n1 := s₁.heap.size) (by rw [e0]; exact hk) X2 hS2 hgr2 hZ hown
  have hk : T2.heap.size ≤ T2.heap.size := Nat.le_refl _
  obtain ⟨rfl, t2, kt2, N2q, K2, F_value_a, F_coder_a, V_t2⟩ := hQ2
  have N2 := Fr.app N0 N2q
  have e2 : T2.heap = T2.heap := rfl
  have O2 := O0.keep K2 (allS g_a all0)
  have KK2 : Keep h0 T2.heap [a] := (Keep.refl h0 [a]).trans K2 (allS (Or.inl (List.mem_of_getElem? (i := 0) rfl)) all0)
  have SF_a := CHr.safe hCr2 E_a.lt SF_a
  have hC := hC.trans hCr2
  have E_a : Exa Z T2.heap a "java/lang/String" := E_a.keep K2
  refine goT (n := 9) (Ls' := #[.val (.ref a), .val (.ref c0)]) (st' := []) st2 ?_
  exact goRetVH X2 hx hlk hS (by rw [e2]; exact hk) hZ hEL (by rw [hh, e2]; exact hC) Bd.returns (hb hby d2_9) (by decide) (by decide) (by rw [e2]; exact ⟨rfl, t2, _, N2, KK2, F_value_a, F_coder_a, V_t2⟩)
theorem d1_0 : decode method_2_code 0 = .ok (.iload_n 0, 1) := by decide +kernel
theorem d1_1 : decode method_2_code 1 = .ok (.ifCond .ne 14, 3) := by decide +kernel
theorem d1_4 : decode method_2_code 4 = .ok (.new 7, 3) := by decide +kernel
theorem d1_7 : decode method_2_code 7 = .ok (.dup, 1) := by decide +kernel
theorem d1_8 : decode method_2_code 8 = .ok (.iconst 0, 1) := by decide +kernel
theorem d1_9 : decode method_2_code 9 = .ok (.newarray .char, 2) := by decide +kernel
theorem d1_11 : decode method_2_code 11 = .ok (.invokespecial 9, 3) := by decide +kernel
theorem pd_1 : parseMethodDescriptor "([C)V" = some ⟨[(.array .char)], none⟩ := by decide +kernel
theorem d1_14 : decode method_2_code 14 = .ok (.areturn, 1) := by decide +kernel
theorem d1_15 : decode method_2_code 15 = .ok (.iload_n 0, 1) := by decide +kernel
theorem d1_16 : decode method_2_code 16 = .ok (.iconst 1, 1) := by decide +kernel
theorem d1_17 : decode method_2_code 17 = .ok (.if_icmp .ne 18, 3) := by decide +kernel
theorem d1_20 : decode method_2_code 20 = .ok (.new 7, 3) := by decide +kernel
theorem d1_23 : decode method_2_code 23 = .ok (.dup, 1) := by decide +kernel
theorem d1_24 : decode method_2_code 24 = .ok (.iconst 1, 1) := by decide +kernel
theorem d1_25 : decode method_2_code 25 = .ok (.newarray .char, 2) := by decide +kernel
theorem d1_27 : decode method_2_code 27 = .ok (.dup, 1) := by decide +kernel
theorem d1_28 : decode method_2_code 28 = .ok (.iconst 0, 1) := by decide +kernel
theorem d1_29 : decode method_2_code 29 = .ok (.iload_n 1, 1) := by decide +kernel
theorem d1_30 : decode method_2_code 30 = .ok (.castore, 1) := by decide +kernel
theorem d1_31 : decode method_2_code 31 = .ok (.invokespecial 9, 3) := by decide +kernel
theorem d1_34 : decode method_2_code 34 = .ok (.areturn, 1) := by decide +kernel
theorem d1_35 : decode method_2_code 35 = .ok (.new 7, 3) := by decide +kernel
theorem d1_38 : decode method_2_code 38 = .ok (.dup, 1) := by decide +kernel
theorem d1_39 : decode method_2_code 39 = .ok (.iconst 2, 1) := by decide +kernel
theorem d1_40 : decode method_2_code 40 = .ok (.newarray .char, 2) := by decide +kernel
theorem d1_42 : decode method_2_code 42 = .ok (.dup, 1) := by decide +kernel
theorem d1_43 : decode method_2_code 43 = .ok (.iconst 0, 1) := by decide +kernel
theorem d1_44 : decode method_2_code 44 = .ok (.iload_n 1, 1) := by decide +kernel
theorem d1_45 : decode method_2_code 45 = .ok (.castore, 1) := by decide +kernel
theorem d1_46 : decode method_2_code 46 = .ok (.dup, 1) := by decide +kernel
theorem d1_47 : decode method_2_code 47 = .ok (.iconst 1, 1) := by decide +kernel
theorem d1_48 : decode method_2_code 48 = .ok (.iload_n 2, 1) := by decide +kernel
theorem d1_49 : decode method_2_code 49 = .ok (.castore, 1) := by decide +kernel
theorem d1_50 : decode method_2_code 50 = .ok (.invokespecial 9, 3) := by decide +kernel
theorem d1_53 : decode method_2_code 53 = .ok (.areturn, 1) := by decide +kernel
theorem pn_1 : plainName "com/example/thingstead/thingstead/mimir/TreasureEqualsPinLaw" = true := by first | (simp [plainName, overriddenIn]; done) | decide +kernel
theorem ef_mk (m : MethodId) (n : Int32) (c0 : Int32) (c1 : Int32) : entryFrame m #[(.int n), (.int c0), (.int c1)] 3 = mkF m 0 #[.val (.int n), .val (.int c0), .val (.int c1)] [] := by first | (simp [entryFrame, mkF, argsToLocals, Value.category]; done) | rfl
abbrev R_mk : Room := { frames := 4, cells := 6, slots := 12, locals := 66 }
def Q_mk (Z : State) (n : Int32) (c0 : Int32) (c1 : Int32) (cs : Int32) (h0 : Heap) (n0 : Nat) (v : Option Value) (h : Heap) (L : List Loc) : Prop := ∃ (a : Addr) (t : Addr) (k : ClassId), v = some (.ref a) ∧ Fr n0 L ∧ Keep h0 h [] ∧ n0 ≤ a ∧ h0.size ≤ a ∧ Exa Z h a "java/lang/String" ∧ Fld Z h a "java/lang/String" "value" "[B" (.ref t) ∧ Fld Z h a "java/lang/String" "coder" "B" (.int (0 : Int32)) ∧ Arv Z h t k .byte (Int32.ofNat (List.length (own_mk n c0 c1))) ((List.map (fun c : Int32 => c.toInt8.toInt32) (own_mk n c0 c1)).map Value.int) (.int (0 : Int32))
set_option maxRecDepth 65536 in
set_option maxHeartbeats 40000000 in
theorem rm_mk (l : Launch) (Z : State) (a0 : Array Value) (hw : ∀ d ∈ tables_1, d.before a0 Z = true) (ws : List Jvm.Cond) (n : Int32) (c0 : Int32) (c1 : Int32) (cs : Int32) (h0 : Heap) (n0 : Nat) (O0 : Old Z n0 h0) (S_CS : Sta Z Z.heap "java/lang/String" "COMPACT_STRINGS" "Z" (.int cs)) (hcs : ¬ cs = (0 : Int32)) (hr0 : (¬ c0 < 0 ∧ ¬ (255 : Int32) < c0)) (hr1 : (¬ c1 < 0 ∧ ¬ (255 : Int32) < c1)) :
    MetFree l (⟨"com/example/thingstead/thingstead/mimir/TreasureEqualsPinLaw", "mk", "(ICC)Ljava/lang/String;"⟩ : MethodName) (head1 (Jvm.Cond.code (⟨"com/example/thingstead/thingstead/mimir/TreasureEqualsPinLaw", "mk", "(ICC)Ljava/lang/String;"⟩ : MethodName) method_2_code 3 (some (.object "java/lang/String")) :: ws) R_mk) (fun as_ U => as_ = #[(.int n), (.int c0), (.int c1)] ∧ Z.Warmed39 U.vm ∧ U.heap = h0 ∧ CHv Z own_EL U.vm h0) (fun _ _ _ _ _ => True) (fun _ U o U' => ∃ v L, o = .returned v ∧ Q_mk Z n c0 c1 cs h0 n0 v U'.heap L ∧ CHr Z own_EL U.vm U.heap U'.vm U'.heap ∧ ReturnedEndW U o U' L R_mk.cells R_mk.slots) := by
  refine MetFree.of_bodySF (plainFor_of_name pn_1) hisR ?_
  intro p e s m args below meth c s₁ Bd hml0 hP hK
  obtain ⟨rfl, hZ, hh, hC0⟩ := hP
  have hx := Bd.exec
  have hby := Bd.bytes
  have hml : c.maxLocals = 3 := hml0
  have hown : s.vm.findClass "com/example/thingstead/thingstead/mimir/TreasureEqualsPinLaw" = some m.cls := findClass_of_methodNamed Bd.named
  have hnm := (name_of_methodNamed Bd.named Bd.method).1
  have hlk : meth.locks = false := BodyLoose.notSynchronized Bd
  have X0 : Stand p l e R_mk (s.setVm s.vm) m #[(.int n), (.int c0), (.int c1)] below meth c s₁ [] 0 0 := Stand.of_body Bd
  have e0 : s₁.heap = h0 := by rw [← hh, Bd.state]; rfl
  have N0 := Fr.nil n0
  have hS : s.Since s.vm s.heap.size := (State.WarmedH.refl s).since _
  have hk : s.heap.size ≤ h0.size := by rw [← hh]; exact Nat.le_refl _
  have hZ : Z.Warmed39 (s.setVm s.vm).vm := hZ
  have hown : (s.setVm s.vm).vm.findClass "com/example/thingstead/thingstead/mimir/TreasureEqualsPinLaw" = some m.cls := hown
  have wS := own_wS hw
  have hC : CHr Z own_EL s.vm h0 s.vm h0 := CHr.refl hC0
  have hEL := own_EW hw
  refine enter (P := PQH Z own_EL s R_mk.cells R_mk.slots (Q_mk Z n c0 c1 cs h0 n0)) (ef_mk m n c0 c1) ?_
  refine goS (n := 1) (Ls' := #[.val (.int n), .val (.int c0), .val (.int c1)]) (st' := [(.int n)]) (fun _ kz => XS.iloadN X0.here hx rfl (hb hby d1_0) rfl kz) ?_
  by_cases hc1 : n = (0 : Int32)
  · refine goS (n := 4) (Ls' := #[.val (.int n), .val (.int c0), .val (.int c1)]) (st' := []) (fun _ kz => XS.ifNo X0.here hx rfl (hb hby d1_1) rfl ((if0 _ _).trans (teq hc1).2) kz) ?_
    obtain ⟨T2, h2, X2, e2, E2, A2, D2, -, st2⟩ := newO X0 hx hZ hown (hw _ (List.mem_of_getElem? (i := 7) rfl)) (hw _ (List.mem_of_getElem? (i := 8) rfl)) (hw _ (List.mem_of_getElem? (i := 9) rfl)) e0 (g := (mkF m 4 #[.val (.int n), .val (.int c0), .val (.int c1)] [])) rfl (hb hby d1_4) (by decide) (by decide)
    obtain ⟨b2, g2⟩ : ∃ z, z = h0.size := ⟨_, rfl⟩
    rw [← g2] at A2 D2 st2
    have g_b2 : n0 ≤ b2 := Nat.le_trans (O0.1 ▸ O0.2.1) (Nat.le_of_eq g2.symm)
    have z_b2 : h0.size ≤ b2 := Nat.le_trans (Keep.refl h0 []).1 (Nat.le_of_eq g2.symm)
    have SF_b2 : Safe Z own_EL s.vm h0 b2 := Safe.new (Nat.le_of_eq g2.symm)
    have hk := Nat.le_trans hk E2.1
    have SF_b2 := Safe.ext E2 hC.1 SF_b2
    have hC := hC.trans (CHr.ext E2 hC.1)
    have F_value_b2 : Fld Z h2 b2 "java/lang/String" "value" "[B" .null := D2 (Or.inr (hw _ (List.mem_of_getElem? (i := 23) rfl))) (ty := (.array .byte)) (by decide)
    have F_coder_b2 : Fld Z h2 b2 "java/lang/String" "coder" "B" (.int (0 : Int32)) := D2 (Or.inr (hw _ (List.mem_of_getElem? (i := 24) rfl))) (ty := .byte) (by decide)
    have E_b2 : Exa Z h2 b2 "java/lang/String" := A2
    have O2 := O0.ext E2
    have KK2 : Keep h0 h2 [] := (Keep.refl h0 []).ext E2
    refine goS (n := 7) (Ls' := #[.val (.int n), .val (.int c0), .val (.int c1)]) (st' := [(.ref b2)]) st2 ?_
    refine goS (n := 8) (Ls' := #[.val (.int n), .val (.int c0), .val (.int c1)]) (st' := [(.ref b2), (.ref b2)]) (fun _ kz => XS.dup X2.here hx rfl (hb hby d1_7) rfl rfl kz) ?_
    refine goS (n := 9) (Ls' := #[.val (.int n), .val (.int c0), .val (.int c1)]) (st' := [(.int (0 : Int32)), (.ref b2), (.ref b2)]) (fun _ kz => XS.iconst X2.here hx rfl (hb hby d1_8) kz) ?_
    obtain ⟨T3, h3, k3, X3, e3, E3, A3, Ex3, st3⟩ := newPE X2 hx hZ (hw _ (List.mem_of_getElem? (i := 10) rfl)) e2 (g := (mkF m 9 #[.val (.int n), .val (.int c0), .val (.int c1)] [(.int (0 : Int32)), (.ref b2), (.ref b2)])) rfl (hb hby d1_9) rfl (by decide) (cap := 0) (by decide) (by decide) (by decide) (by decide) (ad := "[C") (by decide +kernel)
    obtain ⟨b3, g3⟩ : ∃ z, z = h2.size := ⟨_, rfl⟩
    rw [← g3] at A3 st3 Ex3
    have g_b3 : n0 ≤ b3 := Nat.le_trans (O2.1 ▸ O2.2.1) (Nat.le_of_eq g3.symm)
    have z_b3 : h0.size ≤ b3 := Nat.le_trans KK2.1 (Nat.le_of_eq g3.symm)
    have SF_b3 : Safe Z own_EL s.vm h2 b3 := Safe.new (Nat.le_of_eq g3.symm)
    have ne_b2_b3 : b2 ≠ b3 := Nat.ne_of_lt (Nat.lt_of_lt_of_le E_b2.lt (Nat.le_of_eq g3.symm))
    have hk := Nat.le_trans hk E3.1
    have SF_b2 := Safe.ext E3 hC.1 SF_b2
    have SF_b3 := Safe.ext E3 hC.1 SF_b3
    have hC := hC.trans (CHr.ext E3 hC.1)
    have F_value_b2 : Fld Z h3 b2 "java/lang/String" "value" "[B" .null := F_value_b2.ext E3
    have F_coder_b2 : Fld Z h3 b2 "java/lang/String" "coder" "B" (.int (0 : Int32)) := F_coder_b2.ext E3
    have E_b2 : Exa Z h3 b2 "java/lang/String" := E_b2.ext E3
    have E_b3 : Exa Z h3 b3 "[C" := Ex3
    have V_b3 : Arv Z h3 b3 k3 .char (0 : Int32) [] (.int (0 : Int32)) := (Arv.new A3 (by decide)).pad (pad_rep [] (.int (0 : Int32)) 0)
    have O3 := O2.ext E3
    have KK3 : Keep h0 h3 [] := KK2.ext E3
    refine goS (n := 11) (Ls' := #[.val (.int n), .val (.int c0), .val (.int c1)]) (st' := [(.ref b3), (.ref b2), (.ref b2)]) st3 ?_
    obtain ⟨vr4, _, ⟨T4, L4, k4, n4⟩, -, X4, hS4, hgr4, ⟨Lc4, hQ4, l4, y4, z4, hCr4⟩, st4⟩ := X3.specialBackS hx (y := (⟨"java/lang/String", "<init>", "([C)V"⟩ : MethodName)) rfl hown (mvT hZ (hw _ (List.mem_of_getElem? (i := 11) rfl))) (mvT hZ (hw _ (List.mem_of_getElem? (i := 12) rfl))) (mvT hZ (hw _ (List.mem_of_getElem? (i := 13) rfl))) (by decide) (backOfSH (W := 1) (rm_strE1 l Z a0 hw [] b2 b3 k3 [] h3 n0 O3 E_b2 F_value_b2 F_coder_b2 g_b2 V_b3) hZ (hw _ (List.mem_of_getElem? (i := 13) rfl)) (hw _ (List.mem_of_getElem? (i := 9) rfl)) (by decide) (by decide) hEL hC.1) (g := (mkF m 11 #[.val (.int n), .val (.int c0), .val (.int c1)] [(.ref b3), (.ref b2), (.ref b2)])) rfl (by rw [hml]; rfl) (Steps.refl _) (a := b2) (argsL := [(.ref b3)]) (rest := [(.ref b2)]) (lenOf pd_1 rfl) rfl (by show 2 * 0 + _ ≤ _; exact Nat.le_of_eq rfl) (hb hby d1_11) (fun _ _ => ⟨rfl, e3, (Nat.le_of_ble_eq_true rfl), (Nat.le_of_ble_eq_true rfl)⟩)
    dsimp only [Pt.U, Pt.locs, Pt.cells, Pt.slots] at X4 l4 y4 z4 st4 hQ4 hS4 hgr4 hCr4
    subst l4 y4 z4
    obtain ⟨X4, hS, hZ, hown⟩ := rebS hS (n1 := T3.heap.size) (by rw [e3]; exact hk) X4 hS4 hgr4 hZ hown
    have hk : T4.heap.size ≤ T4.heap.size := Nat.le_refl _
    obtain ⟨rfl, t4, kt4, N4q, K4, F_value_b2, F_coder_b2, V_t4⟩ := hQ4
    have N4 := Fr.app N0 N4q
    have e4 : T4.heap = T4.heap := rfl
    have O4 := O3.keep K4 (allS g_b2 all0)
    have KK4 : Keep h0 T4.heap [] := KK3.trans K4 (allS (Or.inr z_b2) all0)
    have SF_b2 := CHr.safe hCr4 E_b2.lt SF_b2
    have SF_b3 := CHr.safe hCr4 E_b3.lt SF_b3
    have hC := hC.trans hCr4
    have E_b2 : Exa Z T4.heap b2 "java/lang/String" := E_b2.keep K4
    have E_b3 : Exa Z T4.heap b3 "[C" := E_b3.keep K4
    have V_b3 : Arv Z T4.heap b3 k3 .char (0 : Int32) [] (.int (0 : Int32)) := V_b3.keep K4 (ninS (Ne.symm ne_b2_b3) nin0)
    refine goT (n := 14) (Ls' := #[.val (.int n), .val (.int c0), .val (.int c1)]) (st' := [(.ref b2)]) st4 ?_
    exact goRetH X4 hx hlk hS (by rw [e4]; exact hk) hZ hEL (by rw [hh, e4]; exact hC) Bd.returns rfl (Or.inr (Or.inr (Or.inr (Or.inr ⟨rfl, rfl, rfl⟩)))) (hb hby d1_14) (by decide) (by decide) (by rw [e4]; exact ⟨b2, t4, _, rfl, N4, KK4, g_b2, z_b2, E_b2, F_value_b2, F_coder_b2, by rw [show (own_mk n c0 c1) = _ from by unfold own_mk; rw [if_pos hc1]]; exact V_t4⟩)
  · refine goS (n := 15) (Ls' := #[.val (.int n), .val (.int c0), .val (.int c1)]) (st' := []) (fun _ kz => XS.ifYes X0.here hx rfl (pc0 := 1) (pc' := 15) rfl (hb hby d1_1) rfl ((if0 _ _).trans (feq hc1).2) (by decide) (by decide) kz) ?_
    refine goS (n := 16) (Ls' := #[.val (.int n), .val (.int c0), .val (.int c1)]) (st' := [(.int n)]) (fun _ kz => XS.iloadN X0.here hx rfl (hb hby d1_15) rfl kz) ?_
    refine goS (n := 17) (Ls' := #[.val (.int n), .val (.int c0), .val (.int c1)]) (st' := [(.int (1 : Int32)), (.int n)]) (fun _ kz => XS.iconst X0.here hx rfl (hb hby d1_16) kz) ?_
    by_cases hc5 : n = (1 : Int32)
    · refine goS (n := 20) (Ls' := #[.val (.int n), .val (.int c0), .val (.int c1)]) (st' := []) (fun _ kz => XS.icmpNo X0.here hx rfl (hb hby d1_17) rfl (teq hc5).2 kz) ?_
      obtain ⟨T6, h6, X6, e6, E6, A6, D6, -, st6⟩ := newO X0 hx hZ hown (hw _ (List.mem_of_getElem? (i := 7) rfl)) (hw _ (List.mem_of_getElem? (i := 8) rfl)) (hw _ (List.mem_of_getElem? (i := 9) rfl)) e0 (g := (mkF m 20 #[.val (.int n), .val (.int c0), .val (.int c1)] [])) rfl (hb hby d1_20) (by decide) (by decide)
      obtain ⟨b6, g6⟩ : ∃ z, z = h0.size := ⟨_, rfl⟩
      rw [← g6] at A6 D6 st6
      have g_b6 : n0 ≤ b6 := Nat.le_trans (O0.1 ▸ O0.2.1) (Nat.le_of_eq g6.symm)
      have z_b6 : h0.size ≤ b6 := Nat.le_trans (Keep.refl h0 []).1 (Nat.le_of_eq g6.symm)
      have SF_b6 : Safe Z own_EL s.vm h0 b6 := Safe.new (Nat.le_of_eq g6.symm)
      have hk := Nat.le_trans hk E6.1
      have SF_b6 := Safe.ext E6 hC.1 SF_b6
      have hC := hC.trans (CHr.ext E6 hC.1)
      have F_value_b6 : Fld Z h6 b6 "java/lang/String" "value" "[B" .null := D6 (Or.inr (hw _ (List.mem_of_getElem? (i := 23) rfl))) (ty := (.array .byte)) (by decide)
      have F_coder_b6 : Fld Z h6 b6 "java/lang/String" "coder" "B" (.int (0 : Int32)) := D6 (Or.inr (hw _ (List.mem_of_getElem? (i := 24) rfl))) (ty := .byte) (by decide)
      have E_b6 : Exa Z h6 b6 "java/lang/String" := A6
      have O6 := O0.ext E6
      have KK6 : Keep h0 h6 [] := (Keep.refl h0 []).ext E6
      refine goS (n := 23) (Ls' := #[.val (.int n), .val (.int c0), .val (.int c1)]) (st' := [(.ref b6)]) st6 ?_
      refine goS (n := 24) (Ls' := #[.val (.int n), .val (.int c0), .val (.int c1)]) (st' := [(.ref b6), (.ref b6)]) (fun _ kz => XS.dup X6.here hx rfl (hb hby d1_23) rfl rfl kz) ?_
      refine goS (n := 25) (Ls' := #[.val (.int n), .val (.int c0), .val (.int c1)]) (st' := [(.int (1 : Int32)), (.ref b6), (.ref b6)]) (fun _ kz => XS.iconst X6.here hx rfl (hb hby d1_24) kz) ?_
      obtain ⟨T7, h7, k7, X7, e7, E7, A7, Ex7, st7⟩ := newPE X6 hx hZ (hw _ (List.mem_of_getElem? (i := 10) rfl)) e6 (g := (mkF m 25 #[.val (.int n), .val (.int c0), .val (.int c1)] [(.int (1 : Int32)), (.ref b6), (.ref b6)])) rfl (hb hby d1_25) rfl (by decide) (cap := 1) (by decide) (by decide) (by decide) (by decide) (ad := "[C") (by decide +kernel)
      obtain ⟨b7, g7⟩ : ∃ z, z = h6.size := ⟨_, rfl⟩
      rw [← g7] at A7 st7 Ex7
      have g_b7 : n0 ≤ b7 := Nat.le_trans (O6.1 ▸ O6.2.1) (Nat.le_of_eq g7.symm)
      have z_b7 : h0.size ≤ b7 := Nat.le_trans KK6.1 (Nat.le_of_eq g7.symm)
      have SF_b7 : Safe Z own_EL s.vm h6 b7 := Safe.new (Nat.le_of_eq g7.symm)
      have ne_b6_b7 : b6 ≠ b7 := Nat.ne_of_lt (Nat.lt_of_lt_of_le E_b6.lt (Nat.le_of_eq g7.symm))
      have hk := Nat.le_trans hk E7.1
      have SF_b6 := Safe.ext E7 hC.1 SF_b6
      have SF_b7 := Safe.ext E7 hC.1 SF_b7
      have hC := hC.trans (CHr.ext E7 hC.1)
      have F_value_b6 : Fld Z h7 b6 "java/lang/String" "value" "[B" .null := F_value_b6.ext E7
      have F_coder_b6 : Fld Z h7 b6 "java/lang/String" "coder" "B" (.int (0 : Int32)) := F_coder_b6.ext E7
      have E_b6 : Exa Z h7 b6 "java/lang/String" := E_b6.ext E7
      have E_b7 : Exa Z h7 b7 "[C" := Ex7
      have V_b7 : Arv Z h7 b7 k7 .char (1 : Int32) [(.int (0 : Int32))] (.int (0 : Int32)) := (Arv.new A7 (by decide)).pad (pad_rep [] (.int (0 : Int32)) 1)
      have O7 := O6.ext E7
      have KK7 : Keep h0 h7 [] := KK6.ext E7
      refine goS (n := 27) (Ls' := #[.val (.int n), .val (.int c0), .val (.int c1)]) (st' := [(.ref b7), (.ref b6), (.ref b6)]) st7 ?_
      refine goS (n := 28) (Ls' := #[.val (.int n), .val (.int c0), .val (.int c1)]) (st' := [(.ref b7), (.ref b7), (.ref b6), (.ref b6)]) (fun _ kz => XS.dup X7.here hx rfl (hb hby d1_27) rfl rfl kz) ?_
      refine goS (n := 29) (Ls' := #[.val (.int n), .val (.int c0), .val (.int c1)]) (st' := [(.int (0 : Int32)), (.ref b7), (.ref b7), (.ref b6), (.ref b6)]) (fun _ kz => XS.iconst X7.here hx rfl (hb hby d1_28) kz) ?_
      refine goS (n := 30) (Ls' := #[.val (.int n), .val (.int c0), .val (.int c1)]) (st' := [(.int c0), (.int (0 : Int32)), (.ref b7), (.ref b7), (.ref b6), (.ref b6)]) (fun _ kz => XS.iloadN X7.here hx rfl (hb hby d1_29) rfl kz) ?_
      obtain ⟨cl8, Ar8, q8, S8, Nn8, H8, G8⟩ := V_b7
      have hin8 : ¬ ((0 : Int32) < 0 ∨ cl8.slots.size ≤ ((0 : Int32)).toNatClampNeg) := inb_of S8 ⟨by decide, by decide⟩
      obtain ⟨T9, h9, X9, e9, W9, st9⟩ := stC X7 hx hZ e7 Ar8 (j := (0 : Int32)) hin8 (g := (mkF m 30 #[.val (.int n), .val (.int c0), .val (.int c1)] [(.int c0), (.int (0 : Int32)), (.ref b7), (.ref b7), (.ref b6), (.ref b6)])) rfl rfl (hb hby d1_30)
      rw [(own_narC _ hr0)] at W9
      have fz9 : fits .char (.int c0) = true := by have q := fits_nar_char c0; rw [(own_narC _ hr0)] at q; exact q
      have hk := Nat.le_trans hk (Keep.of_wr W9).1
      have sfw := SF_b7
      have SF_b6 := Safe.wr W9 sfw hC.1 SF_b6
      have SF_b7 := Safe.wr W9 sfw hC.1 SF_b7
      have hC := hC.trans (CHr.wr W9 sfw hC.1)
      have F_value_b6 : Fld Z h9 b6 "java/lang/String" "value" "[B" .null := F_value_b6.other W9 (Or.inl ne_b6_b7)
      have F_coder_b6 : Fld Z h9 b6 "java/lang/String" "coder" "B" (.int (0 : Int32)) := F_coder_b6.other W9 (Or.inl ne_b6_b7)
      have E_b6 : Exa Z h9 b6 "java/lang/String" := E_b6.wr W9
      have E_b7 : Exa Z h9 b7 "[C" := E_b7.wr W9
      have V_b7 : Arv Z h9 b7 k7 .char (1 : Int32) [(.int c0)] (.int (0 : Int32)) := Arv.set Ar8 q8 S8 Nn8 H8 G8 fz9 W9 0 rfl (Nat.le_of_ble_eq_true rfl)
      have N9 := Fr.snoc X9 N0 g_b7
      have O9 := O7.wr W9 g_b7
      have KK9 : Keep h0 h9 [] := KK7.wr W9 (Or.inr z_b7)
      refine goS (n := 31) (Ls' := #[.val (.int n), .val (.int c0), .val (.int c1)]) (st' := [(.ref b7), (.ref b6), (.ref b6)]) st9 ?_
      obtain ⟨vr10, _, ⟨T10, L10, k10, n10⟩, -, X10, ⟨Lc10, hQ10, l10, y10, z10⟩, st10⟩ := X9.specialBack hx (y := (⟨"java/lang/String", "<init>", "([C)V"⟩ : MethodName)) rfl hown (mvT hZ (hw _ (List.mem_of_getElem? (i := 11) rfl))) (mvT hZ (hw _ (List.mem_of_getElem? (i := 12) rfl))) (mvT hZ (hw _ (List.mem_of_getElem? (i := 13) rfl))) (by decide) (StrChars.Road.backV (W := 1) hZ (own_words hw) (kI := 4) (hw _ (List.mem_of_getElem? (i := 8) rfl)) (cs := [c0]) (bs := [(c0).toInt8.toInt32]) (n := 1) g_b6 (O9.1 ▸ O9.2.1) E_b6 F_value_b6 F_coder_b6 V_b7 (S_CS.ext O9.2) hcs rfl rfl (by decide) (by decide) (by intro c hc; simp only [List.mem_cons, List.not_mem_nil, or_false] at hc; subst hc; exact hr0) rfl (by decide) (by decide)) (g := (mkF m 31 #[.val (.int n), .val (.int c0), .val (.int c1)] [(.ref b7), (.ref b6), (.ref b6)])) rfl (by rw [hml]; rfl) (Steps.refl _) (a := b6) (argsL := [(.ref b7)]) (rest := [(.ref b6)]) (lenOf pd_1 rfl) rfl (by show 2 * 0 + _ ≤ _; exact Nat.le_of_eq rfl) (hb hby d1_31) (fun _ _ => ⟨rfl, e9, (Nat.le_of_ble_eq_true rfl), (Nat.le_of_ble_eq_true rfl)⟩)
      dsimp only [Pt.U, Pt.locs, Pt.cells, Pt.slots] at X10 l10 y10 z10 st10 hQ10
      subst l10 y10 z10
      obtain ⟨rfl, N10q, K10, -, F_coder_b6, t10, kt10, g_t10, zt10, -, F_value_b6, V_t10⟩ := hQ10
      have ne_b6_t10 : b6 ≠ t10 := Nat.ne_of_lt (Nat.lt_of_lt_of_le E_b6.lt zt10)
      have ne_b7_t10 : b7 ≠ t10 := Nat.ne_of_lt (Nat.lt_of_lt_of_le E_b7.lt zt10)
      have N10 := Fr.app N9 N10q
      have e10 : T10.heap = T10.heap := rfl
      have O10 := O9.keep K10 (allS g_b6 all0)
      have KK10 : Keep h0 T10.heap [] := KK9.trans K10 (allS (Or.inr z_b6) all0)
      have hk := Nat.le_trans hk K10.1
      have sfw : ∀ x ∈ [b6], Safe Z own_EL s.vm h9 x := (sfS SF_b6 sf0)
      have SF_b6 := Safe.keep K10 sfw hC.1 SF_b6
      have SF_b7 := Safe.keep K10 sfw hC.1 SF_b7
      have hC := hC.trans (CHr.keep K10 sfw hC.1)
      have E_b6 : Exa Z T10.heap b6 "java/lang/String" := E_b6.keep K10
      have E_b7 : Exa Z T10.heap b7 "[C" := E_b7.keep K10
      have V_b7 : Arv Z T10.heap b7 k7 .char (1 : Int32) [(.int c0)] (.int (0 : Int32)) := V_b7.keep K10 (ninS (Ne.symm ne_b6_b7) nin0)
      refine goT (n := 34) (Ls' := #[.val (.int n), .val (.int c0), .val (.int c1)]) (st' := [(.ref b6)]) st10 ?_
      exact goRetH X10 hx hlk hS (by rw [e10]; exact hk) hZ hEL (by rw [hh, e10]; exact hC) Bd.returns rfl (Or.inr (Or.inr (Or.inr (Or.inr ⟨rfl, rfl, rfl⟩)))) (hb hby d1_34) (by decide) (by decide) (by rw [e10]; exact ⟨b6, t10, _, rfl, N10, KK10, g_b6, z_b6, E_b6, F_value_b6, F_coder_b6, by rw [show (own_mk n c0 c1) = _ from by unfold own_mk; rw [if_neg hc1, if_pos hc5]]; exact V_t10⟩)
    · refine goS (n := 35) (Ls' := #[.val (.int n), .val (.int c0), .val (.int c1)]) (st' := []) (fun _ kz => XS.icmpYes X0.here hx rfl (pc0 := 17) (pc' := 35) rfl (hb hby d1_17) rfl (feq hc5).2 (by decide) (by decide) kz) ?_
      obtain ⟨T11, h11, X11, e11, E11, A11, D11, -, st11⟩ := newO X0 hx hZ hown (hw _ (List.mem_of_getElem? (i := 7) rfl)) (hw _ (List.mem_of_getElem? (i := 8) rfl)) (hw _ (List.mem_of_getElem? (i := 9) rfl)) e0 (g := (mkF m 35 #[.val (.int n), .val (.int c0), .val (.int c1)] [])) rfl (hb hby d1_35) (by decide) (by decide)
      obtain ⟨b11, g11⟩ : ∃ z, z = h0.size := ⟨_, rfl⟩
      rw [← g11] at A11 D11 st11
      have g_b11 : n0 ≤ b11 := Nat.le_trans (O0.1 ▸ O0.2.1) (Nat.le_of_eq g11.symm)
      have z_b11 : h0.size ≤ b11 := Nat.le_trans (Keep.refl h0 []).1 (Nat.le_of_eq g11.symm)
      have SF_b11 : Safe Z own_EL s.vm h0 b11 := Safe.new (Nat.le_of_eq g11.symm)
      have hk := Nat.le_trans hk E11.1
      have SF_b11 := Safe.ext E11 hC.1 SF_b11
      have hC := hC.trans (CHr.ext E11 hC.1)
      have F_value_b11 : Fld Z h11 b11 "java/lang/String" "value" "[B" .null := D11 (Or.inr (hw _ (List.mem_of_getElem? (i := 23) rfl))) (ty := (.array .byte)) (by decide)
      have F_coder_b11 : Fld Z h11 b11 "java/lang/String" "coder" "B" (.int (0 : Int32)) := D11 (Or.inr (hw _ (List.mem_of_getElem? (i := 24) rfl))) (ty := .byte) (by decide)
      have E_b11 : Exa Z h11 b11 "java/lang/String" := A11
      have O11 := O0.ext E11
      have KK11 : Keep h0 h11 [] := (Keep.refl h0 []).ext E11
      refine goS (n := 38) (Ls' := #[.val (.int n), .val (.int c0), .val (.int c1)]) (st' := [(.ref b11)]) st11 ?_
      refine goS (n := 39) (Ls' := #[.val (.int n), .val (.int c0), .val (.int c1)]) (st' := [(.ref b11), (.ref b11)]) (fun _ kz => XS.dup X11.here hx rfl (hb hby d1_38) rfl rfl kz) ?_
      refine goS (n := 40) (Ls' := #[.val (.int n), .val (.int c0), .val (.int c1)]) (st' := [(.int (2 : Int32)), (.ref b11), (.ref b11)]) (fun _ kz => XS.iconst X11.here hx rfl (hb hby d1_39) kz) ?_
      obtain ⟨T12, h12, k12, X12, e12, E12, A12, Ex12, st12⟩ := newPE X11 hx hZ (hw _ (List.mem_of_getElem? (i := 10) rfl)) e11 (g := (mkF m 40 #[.val (.int n), .val (.int c0), .val (.int c1)] [(.int (2 : Int32)), (.ref b11), (.ref b11)])) rfl (hb hby d1_40) rfl (by decide) (cap := 2) (by decide) (by decide) (by decide) (by decide) (ad := "[C") (by decide +kernel)
      obtain ⟨b12, g12⟩ : ∃ z, z = h11.size := ⟨_, rfl⟩
      rw [← g12] at A12 st12 Ex12
      have g_b12 : n0 ≤ b12 := Nat.le_trans (O11.1 ▸ O11.2.1) (Nat.le_of_eq g12.symm)
      have z_b12 : h0.size ≤ b12 := Nat.le_trans KK11.1 (Nat.le_of_eq g12.symm)
      have SF_b12 : Safe Z own_EL s.vm h11 b12 := Safe.new (Nat.le_of_eq g12.symm)
      have ne_b11_b12 : b11 ≠ b12 := Nat.ne_of_lt (Nat.lt_of_lt_of_le E_b11.lt (Nat.le_of_eq g12.symm))
      have hk := Nat.le_trans hk E12.1
      have SF_b11 := Safe.ext E12 hC.1 SF_b11
      have SF_b12 := Safe.ext E12 hC.1 SF_b12
      have hC := hC.trans (CHr.ext E12 hC.1)
      have F_value_b11 : Fld Z h12 b11 "java/lang/String" "value" "[B" .null := F_value_b11.ext E12
      have F_coder_b11 : Fld Z h12 b11 "java/lang/String" "coder" "B" (.int (0 : Int32)) := F_coder_b11.ext E12
      have E_b11 : Exa Z h12 b11 "java/lang/String" := E_b11.ext E12
      have E_b12 : Exa Z h12 b12 "[C" := Ex12
      have V_b12 : Arv Z h12 b12 k12 .char (2 : Int32) [(.int (0 : Int32)), (.int (0 : Int32))] (.int (0 : Int32)) := (Arv.new A12 (by decide)).pad (pad_rep [] (.int (0 : Int32)) 2)
      have O12 := O11.ext E12
      have KK12 : Keep h0 h12 [] := KK11.ext E12
      refine goS (n := 42) (Ls' := #[.val (.int n), .val (.int c0), .val (.int c1)]) (st' := [(.ref b12), (.ref b11), (.ref b11)]) st12 ?_
      refine goS (n := 43) (Ls' := #[.val (.int n), .val (.int c0), .val (.int c1)]) (st' := [(.ref b12), (.ref b12), (.ref b11), (.ref b11)]) (fun _ kz => XS.dup X12.here hx rfl (hb hby d1_42) rfl rfl kz) ?_
      refine goS (n := 44) (Ls' := #[.val (.int n), .val (.int c0), .val (.int c1)]) (st' := [(.int (0 : Int32)), (.ref b12), (.ref b12), (.ref b11), (.ref b11)]) (fun _ kz => XS.iconst X12.here hx rfl (hb hby d1_43) kz) ?_
      refine goS (n := 45) (Ls' := #[.val (.int n), .val (.int c0), .val (.int c1)]) (st' := [(.int c0), (.int (0 : Int32)), (.ref b12), (.ref b12), (.ref b11), (.ref b11)]) (fun _ kz => XS.iloadN X12.here hx rfl (hb hby d1_44) rfl kz) ?_
      obtain ⟨cl13, Ar13, q13, S13, Nn13, H13, G13⟩ := V_b12
      have hin13 : ¬ ((0 : Int32) < 0 ∨ cl13.slots.size ≤ ((0 : Int32)).toNatClampNeg) := inb_of S13 ⟨by decide, by decide⟩
      obtain ⟨T14, h14, X14, e14, W14, st14⟩ := stC X12 hx hZ e12 Ar13 (j := (0 : Int32)) hin13 (g := (mkF m 45 #[.val (.int n), .val (.int c0), .val (.int c1)] [(.int c0), (.int (0 : Int32)), (.ref b12), (.ref b12), (.ref b11), (.ref b11)])) rfl rfl (hb hby d1_45)
      rw [(own_narC _ hr0)] at W14
      have fz14 : fits .char (.int c0) = true := by have q := fits_nar_char c0; rw [(own_narC _ hr0)] at q; exact q
      have hk := Nat.le_trans hk (Keep.of_wr W14).1
      have sfw := SF_b12
      have SF_b11 := Safe.wr W14 sfw hC.1 SF_b11
      have SF_b12 := Safe.wr W14 sfw hC.1 SF_b12
      have hC := hC.trans (CHr.wr W14 sfw hC.1)
      have F_value_b11 : Fld Z h14 b11 "java/lang/String" "value" "[B" .null := F_value_b11.other W14 (Or.inl ne_b11_b12)
      have F_coder_b11 : Fld Z h14 b11 "java/lang/String" "coder" "B" (.int (0 : Int32)) := F_coder_b11.other W14 (Or.inl ne_b11_b12)
      have E_b11 : Exa Z h14 b11 "java/lang/String" := E_b11.wr W14
      have E_b12 : Exa Z h14 b12 "[C" := E_b12.wr W14
      have V_b12 : Arv Z h14 b12 k12 .char (2 : Int32) [(.int c0), (.int (0 : Int32))] (.int (0 : Int32)) := Arv.set Ar13 q13 S13 Nn13 H13 G13 fz14 W14 0 rfl (Nat.le_of_ble_eq_true rfl)
      have N14 := Fr.snoc X14 N0 g_b12
      have O14 := O12.wr W14 g_b12
      have KK14 : Keep h0 h14 [] := KK12.wr W14 (Or.inr z_b12)
      refine goS (n := 46) (Ls' := #[.val (.int n), .val (.int c0), .val (.int c1)]) (st' := [(.ref b12), (.ref b11), (.ref b11)]) st14 ?_
      refine goS (n := 47) (Ls' := #[.val (.int n), .val (.int c0), .val (.int c1)]) (st' := [(.ref b12), (.ref b12), (.ref b11), (.ref b11)]) (fun _ kz => XS.dup X14.here hx rfl (hb hby d1_46) rfl rfl kz) ?_
      refine goS (n := 48) (Ls' := #[.val (.int n), .val (.int c0), .val (.int c1)]) (st' := [(.int (1 : Int32)), (.ref b12), (.ref b12), (.ref b11), (.ref b11)]) (fun _ kz => XS.iconst X14.here hx rfl (hb hby d1_47) kz) ?_
      refine goS (n := 49) (Ls' := #[.val (.int n), .val (.int c0), .val (.int c1)]) (st' := [(.int c1), (.int (1 : Int32)), (.ref b12), (.ref b12), (.ref b11), (.ref b11)]) (fun _ kz => XS.iloadN X14.here hx rfl (hb hby d1_48) rfl kz) ?_
      obtain ⟨cl15, Ar15, q15, S15, Nn15, H15, G15⟩ := V_b12
      have hin15 : ¬ ((1 : Int32) < 0 ∨ cl15.slots.size ≤ ((1 : Int32)).toNatClampNeg) := inb_of S15 ⟨by decide, by decide⟩
      obtain ⟨T16, h16, X16, e16, W16, st16⟩ := stC X14 hx hZ e14 Ar15 (j := (1 : Int32)) hin15 (g := (mkF m 49 #[.val (.int n), .val (.int c0), .val (.int c1)] [(.int c1), (.int (1 : Int32)), (.ref b12), (.ref b12), (.ref b11), (.ref b11)])) rfl rfl (hb hby d1_49)
      rw [(own_narC _ hr1)] at W16
      have fz16 : fits .char (.int c1) = true := by have q := fits_nar_char c1; rw [(own_narC _ hr1)] at q; exact q
      have hk := Nat.le_trans hk (Keep.of_wr W16).1
      have sfw := SF_b12
      have SF_b11 := Safe.wr W16 sfw hC.1 SF_b11
      have SF_b12 := Safe.wr W16 sfw hC.1 SF_b12
      have hC := hC.trans (CHr.wr W16 sfw hC.1)
      have F_value_b11 : Fld Z h16 b11 "java/lang/String" "value" "[B" .null := F_value_b11.other W16 (Or.inl ne_b11_b12)
      have F_coder_b11 : Fld Z h16 b11 "java/lang/String" "coder" "B" (.int (0 : Int32)) := F_coder_b11.other W16 (Or.inl ne_b11_b12)
      have E_b11 : Exa Z h16 b11 "java/lang/String" := E_b11.wr W16
      have E_b12 : Exa Z h16 b12 "[C" := E_b12.wr W16
      have V_b12 : Arv Z h16 b12 k12 .char (2 : Int32) [(.int c0), (.int c1)] (.int (0 : Int32)) := Arv.set Ar15 q15 S15 Nn15 H15 G15 fz16 W16 1 rfl (Nat.le_of_ble_eq_true rfl)
      have N16 := Fr.snoc X16 N14 g_b12
      have O16 := O14.wr W16 g_b12
      have KK16 : Keep h0 h16 [] := KK14.wr W16 (Or.inr z_b12)
      refine goS (n := 50) (Ls' := #[.val (.int n), .val (.int c0), .val (.int c1)]) (st' := [(.ref b12), (.ref b11), (.ref b11)]) st16 ?_
      obtain ⟨vr17, _, ⟨T17, L17, k17, n17⟩, -, X17, ⟨Lc17, hQ17, l17, y17, z17⟩, st17⟩ := X16.specialBack hx (y := (⟨"java/lang/String", "<init>", "([C)V"⟩ : MethodName)) rfl hown (mvT hZ (hw _ (List.mem_of_getElem? (i := 11) rfl))) (mvT hZ (hw _ (List.mem_of_getElem? (i := 12) rfl))) (mvT hZ (hw _ (List.mem_of_getElem? (i := 13) rfl))) (by decide) (StrChars.Road.backV (W := 1) hZ (own_words hw) (kI := 4) (hw _ (List.mem_of_getElem? (i := 8) rfl)) (cs := [c0, c1]) (bs := [(c0).toInt8.toInt32, (c1).toInt8.toInt32]) (n := 2) g_b11 (O16.1 ▸ O16.2.1) E_b11 F_value_b11 F_coder_b11 V_b12 (S_CS.ext O16.2) hcs rfl rfl (by decide) (by decide) (by intro c hc; simp only [List.mem_cons, List.not_mem_nil, or_false] at hc; rcases hc with rfl | rfl <;> first | exact hr0 | exact hr1) rfl (by decide) (by decide)) (g := (mkF m 50 #[.val (.int n), .val (.int c0), .val (.int c1)] [(.ref b12), (.ref b11), (.ref b11)])) rfl (by rw [hml]; rfl) (Steps.refl _) (a := b11) (argsL := [(.ref b12)]) (rest := [(.ref b11)]) (lenOf pd_1 rfl) rfl (by show 2 * 0 + _ ≤ _; exact Nat.le_of_eq rfl) (hb hby d1_50) (fun _ _ => ⟨rfl, e16, (Nat.le_of_ble_eq_true rfl), (Nat.le_of_ble_eq_true rfl)⟩)
      dsimp only [Pt.U, Pt.locs, Pt.cells, Pt.slots] at X17 l17 y17 z17 st17 hQ17
      subst l17 y17 z17
      obtain ⟨rfl, N17q, K17, -, F_coder_b11, t17, kt17, g_t17, zt17, -, F_value_b11, V_t17⟩ := hQ17
      have ne_b11_t17 : b11 ≠ t17 := Nat.ne_of_lt (Nat.lt_of_lt_of_le E_b11.lt zt17)
      have ne_b12_t17 : b12 ≠ t17 := Nat.ne_of_lt (Nat.lt_of_lt_of_le E_b12.lt zt17)
      have N17 := Fr.app N16 N17q
      have e17 : T17.heap = T17.heap := rfl
      have O17 := O16.keep K17 (allS g_b11 all0)
      have KK17 : Keep h0 T17.heap [] := KK16.trans K17 (allS (Or.inr z_b11) all0)
      have hk := Nat.le_trans hk K17.1
      have sfw : ∀ x ∈ [b11], Safe Z own_EL s.vm h16 x := (sfS SF_b11 sf0)
      have SF_b11 := Safe.keep K17 sfw hC.1 SF_b11
      have SF_b12 := Safe.keep K17 sfw hC.1 SF_b12
      have hC := hC.trans (CHr.keep K17 sfw hC.1)
      have E_b11 : Exa Z T17.heap b11 "java/lang/String" := E_b11.keep K17
      have E_b12 : Exa Z T17.heap b12 "[C" := E_b12.keep K17
      have V_b12 : Arv Z T17.heap b12 k12 .char (2 : Int32) [(.int c0), (.int c1)] (.int (0 : Int32)) := V_b12.keep K17 (ninS (Ne.symm ne_b11_b12) nin0)
      refine goT (n := 53) (Ls' := #[.val (.int n), .val (.int c0), .val (.int c1)]) (st' := [(.ref b11)]) st17 ?_
      exact goRetH X17 hx hlk hS (by rw [e17]; exact hk) hZ hEL (by rw [hh, e17]; exact hC) Bd.returns rfl (Or.inr (Or.inr (Or.inr (Or.inr ⟨rfl, rfl, rfl⟩)))) (hb hby d1_53) (by decide) (by decide) (by rw [e17]; exact ⟨b11, t17, _, rfl, N17, KK17, g_b11, z_b11, E_b11, F_value_b11, F_coder_b11, by rw [show (own_mk n c0 c1) = _ from by unfold own_mk; rw [if_neg hc1, if_neg hc5]]; exact V_t17⟩)
theorem d6_0 : decode jdk_30_method_1_code 0 = .ok (.aload_n 0, 1) := by decide +kernel
theorem d6_1 : decode jdk_30_method_1_code 1 = .ok (.invokespecial 1, 3) := by decide +kernel
theorem d6_4 : decode jdk_30_method_1_code 4 = .ok (.return_, 1) := by decide +kernel
theorem pn_2 : plainName "java/lang/Record" = true := by first | (simp [plainName, overriddenIn]; done) | decide +kernel
theorem ef_rec (m : MethodId) (a : Addr) : entryFrame m #[(.ref a)] 1 = mkF m 0 #[.val (.ref a)] [] := by first | (simp [entryFrame, mkF, argsToLocals, Value.category]; done) | rfl
abbrev R_rec : Room := { frames := 1, cells := 0, slots := 0, locals := 12 }
def Q_rec (Z : State) (a : Addr) (h0 : Heap) (n0 : Nat) (v : Option Value) (h : Heap) (L : List Loc) : Prop := v = none ∧ Fr n0 L ∧ h = h0
set_option maxRecDepth 65536 in
set_option maxHeartbeats 40000000 in
theorem rm_rec (l : Launch) (Z : State) (a0 : Array Value) (hw : ∀ d ∈ tables_1, d.before a0 Z = true) (ws : List Jvm.Cond) (a : Addr) (h0 : Heap) (n0 : Nat) (O0 : Old Z n0 h0) :
    MetFree l (⟨"java/lang/Record", "<init>", "()V"⟩ : MethodName) (head1 (Jvm.Cond.code (⟨"java/lang/Record", "<init>", "()V"⟩ : MethodName) jdk_30_method_1_code 1 none :: ws) R_rec) (fun as_ U => as_ = #[(.ref a)] ∧ Z.Warmed39 U.vm ∧ U.heap = h0) (fun _ _ _ _ _ => True) (fun _ U o U' => ∃ v L, o = .returned v ∧ Q_rec Z a h0 n0 v U'.heap L ∧ FrameEnd U o U' L R_rec.cells R_rec.slots) := by
  refine MetFree.of_bodySF (plainFor_of_name pn_2) hisR ?_
  intro p e s m args below meth c s₁ Bd hml0 hP hK
  obtain ⟨rfl, hZ, hh⟩ := hP
  have hx := Bd.exec
  have hby := Bd.bytes
  have hml : c.maxLocals = 1 := hml0
  have hown : s.vm.findClass "java/lang/Record" = some m.cls := findClass_of_methodNamed Bd.named
  have hnm := (name_of_methodNamed Bd.named Bd.method).1
  have hlk : meth.locks = false := BodyLoose.notSynchronized Bd
  have X0 : Stand p l e R_rec s m #[(.ref a)] below meth c s₁ [] 0 0 := Stand.of_body Bd
  have e0 : s₁.heap = h0 := by rw [← hh, Bd.state]; rfl
  have N0 := Fr.nil n0
  refine enter (P := PQ s R_rec.cells R_rec.slots (Q_rec Z a h0 n0)) (ef_rec m a) ?_
  refine goS (n := 1) (Ls' := #[.val (.ref a)]) (st' := [(.ref a)]) (fun _ kz => XS.aloadN X0.here hx rfl (hb hby d6_0) rfl rfl kz) ?_
  obtain ⟨T1, X1, e1, st1⟩ := initO X0 hx hZ hown (hw _ (List.mem_of_getElem? (i := 37) rfl)) (hw _ (List.mem_of_getElem? (i := 19) rfl)) (hw _ (List.mem_of_getElem? (i := 20) rfl)) e0 (g := (mkF m 1 #[.val (.ref a)] [(.ref a)])) rfl (by rw [hml]; rfl) rfl (hb hby d6_1) (by decide) (W := 0) (by show 2 * 0 + _ ≤ _; exact Nat.le_of_eq rfl) (by decide)
  refine goS (n := 4) (Ls' := #[.val (.ref a)]) (st' := []) st1 ?_
  exact goRetV X1 hx hlk Bd.returns (hb hby d6_4) (by decide) (by decide) (by rw [e1]; exact ⟨rfl, N0, rfl⟩)
theorem d5_0 : decode prog_8_method_1_code 0 = .ok (.aload_n 0, 1) := by decide +kernel
theorem d5_1 : decode prog_8_method_1_code 1 = .ok (.invokespecial 1, 3) := by decide +kernel
theorem pd_2 : parseMethodDescriptor "()V" = some ⟨[], none⟩ := by decide +kernel
theorem d5_4 : decode prog_8_method_1_code 4 = .ok (.aload_n 0, 1) := by decide +kernel
theorem d5_5 : decode prog_8_method_1_code 5 = .ok (.aload_n 1, 1) := by decide +kernel
theorem d5_6 : decode prog_8_method_1_code 6 = .ok (.putfield 7, 3) := by decide +kernel
theorem d5_9 : decode prog_8_method_1_code 9 = .ok (.aload_n 0, 1) := by decide +kernel
theorem d5_10 : decode prog_8_method_1_code 10 = .ok (.iload_n 2, 1) := by decide +kernel
theorem d5_11 : decode prog_8_method_1_code 11 = .ok (.putfield 13, 3) := by decide +kernel
theorem d5_14 : decode prog_8_method_1_code 14 = .ok (.return_, 1) := by decide +kernel
theorem pn_3 : plainName "com/example/thingstead/thingstead/mimir/Treasure" = true := by first | (simp [plainName, overriddenIn]; done) | decide +kernel
theorem ef_init (m : MethodId) (a : Addr) (w : Addr) (x : Int32) : entryFrame m #[(.ref a), (.ref w), (.int x)] 3 = mkF m 0 #[.val (.ref a), .val (.ref w), .val (.int x)] [] := by first | (simp [entryFrame, mkF, argsToLocals, Value.category]; done) | rfl
abbrev R_init : Room := { frames := 2, cells := 0, slots := 0, locals := 24 }
def Q_init (Z : State) (a : Addr) (w : Addr) (x : Int32) (h0 : Heap) (n0 : Nat) (v : Option Value) (h : Heap) (L : List Loc) : Prop := v = none ∧ Fr n0 L ∧ Keep h0 h [a] ∧ Fld Z h a "com/example/thingstead/thingstead/mimir/Treasure" "material" "Ljava/lang/String;" (.ref w) ∧ Fld Z h a "com/example/thingstead/thingstead/mimir/Treasure" "points" "I" (.int x)
set_option maxRecDepth 65536 in
set_option maxHeartbeats 40000000 in
theorem rm_init (l : Launch) (Z : State) (a0 : Array Value) (hw : ∀ d ∈ tables_1, d.before a0 Z = true) (ws : List Jvm.Cond) (a : Addr) (w : Addr) (x : Int32) (h0 : Heap) (n0 : Nat) (O0 : Old Z n0 h0) (E_a : Exa Z h0 a "com/example/thingstead/thingstead/mimir/Treasure") (F_material_a : Fld Z h0 a "com/example/thingstead/thingstead/mimir/Treasure" "material" "Ljava/lang/String;" .null) (F_points_a : Fld Z h0 a "com/example/thingstead/thingstead/mimir/Treasure" "points" "I" (.int (0 : Int32))) (g_a : n0 ≤ a) :
    MetFree l (⟨"com/example/thingstead/thingstead/mimir/Treasure", "<init>", "(Ljava/lang/String;I)V"⟩ : MethodName) (head1 (Jvm.Cond.code (⟨"com/example/thingstead/thingstead/mimir/Treasure", "<init>", "(Ljava/lang/String;I)V"⟩ : MethodName) prog_8_method_1_code 3 none :: ws) R_init) (fun as_ U => as_ = #[(.ref a), (.ref w), (.int x)] ∧ Z.Warmed39 U.vm ∧ U.heap = h0) (fun _ _ _ _ _ => True) (fun _ U o U' => ∃ v L, o = .returned v ∧ Q_init Z a w x h0 n0 v U'.heap L ∧ FrameEnd U o U' L R_init.cells R_init.slots) := by
  refine MetFree.of_bodySF (plainFor_of_name pn_3) hisR ?_
  intro p e s m args below meth c s₁ Bd hml0 hP hK
  obtain ⟨rfl, hZ, hh⟩ := hP
  have hx := Bd.exec
  have hby := Bd.bytes
  have hml : c.maxLocals = 3 := hml0
  have hown : s.vm.findClass "com/example/thingstead/thingstead/mimir/Treasure" = some m.cls := findClass_of_methodNamed Bd.named
  have hnm := (name_of_methodNamed Bd.named Bd.method).1
  have hlk : meth.locks = false := BodyLoose.notSynchronized Bd
  have X0 : Stand p l e R_init s m #[(.ref a), (.ref w), (.int x)] below meth c s₁ [] 0 0 := Stand.of_body Bd
  have e0 : s₁.heap = h0 := by rw [← hh, Bd.state]; rfl
  have N0 := Fr.nil n0
  refine enter (P := PQ s R_init.cells R_init.slots (Q_init Z a w x h0 n0)) (ef_init m a w x) ?_
  refine goS (n := 1) (Ls' := #[.val (.ref a), .val (.ref w), .val (.int x)]) (st' := [(.ref a)]) (fun _ kz => XS.aloadN X0.here hx rfl (hb hby d5_0) rfl rfl kz) ?_
  obtain ⟨vr1, _, ⟨T1, L1, k1, n1⟩, -, X1, ⟨Lc1, hQ1, l1, y1, z1⟩, st1⟩ := X0.specialBack hx (y := (⟨"java/lang/Record", "<init>", "()V"⟩ : MethodName)) rfl hown (mvT hZ (hw _ (List.mem_of_getElem? (i := 32) rfl))) (mvT hZ (hw _ (List.mem_of_getElem? (i := 33) rfl))) (mvT hZ (hw _ (List.mem_of_getElem? (i := 36) rfl))) (by decide) (backOf (W := 0) (rm_rec l Z a0 hw [] a h0 n0 O0) hZ (hw _ (List.mem_of_getElem? (i := 36) rfl)) (hw _ (List.mem_of_getElem? (i := 35) rfl)) (by decide) (by decide)) (g := (mkF m 1 #[.val (.ref a), .val (.ref w), .val (.int x)] [(.ref a)])) rfl (by rw [hml]; rfl) (Steps.refl _) (a := a) (argsL := []) (rest := []) (lenOf pd_2 rfl) rfl (by show 2 * 0 + _ ≤ _; exact Nat.le_of_eq rfl) (hb hby d5_1) (fun _ _ => ⟨rfl, e0, (Nat.le_of_ble_eq_true rfl), (Nat.le_of_ble_eq_true rfl)⟩)
  dsimp only [Pt.U, Pt.locs, Pt.cells, Pt.slots] at X1 l1 y1 z1 st1 hQ1
  subst l1 y1 z1
  obtain ⟨rfl, N1q, e1⟩ := hQ1
  have N1 := Fr.app N0 N1q
  refine goT (n := 4) (Ls' := #[.val (.ref a), .val (.ref w), .val (.int x)]) (st' := []) st1 ?_
  refine goS (n := 5) (Ls' := #[.val (.ref a), .val (.ref w), .val (.int x)]) (st' := [(.ref a)]) (fun _ kz => XS.aloadN X1.here hx rfl (hb hby d5_4) rfl rfl kz) ?_
  refine goS (n := 6) (Ls' := #[.val (.ref a), .val (.ref w), .val (.int x)]) (st' := [(.ref w), (.ref a)]) (fun _ kz => XS.aloadN X1.here hx rfl (hb hby d5_5) rfl rfl kz) ?_
  obtain ⟨T2, h2, X2, e2, W2, st2⟩ := putF X1 hx hZ hown (host := "") (Or.inl (hw _ (List.mem_of_getElem? (i := 38) rfl))) Via.refl e1 F_material_a E_a (Or.inr ⟨(hw _ (List.mem_of_getElem? (i := 39) rfl)), rfl, hnm⟩) (hw _ (List.mem_of_getElem? (i := 1) rfl)) (ty := (.object "java/lang/String")) (v := (.ref w)) (by decide) rfl rfl (g := (mkF m 6 #[.val (.ref a), .val (.ref w), .val (.int x)] [(.ref w), (.ref a)])) rfl rfl (hb hby d5_6)
  have Fn2 : Fld Z h2 a "com/example/thingstead/thingstead/mimir/Treasure" "material" "Ljava/lang/String;" (.ref w) := F_material_a.same W2
  have E_a : Exa Z h2 a "com/example/thingstead/thingstead/mimir/Treasure" := E_a.wr W2
  have F_points_a : Fld Z h2 a "com/example/thingstead/thingstead/mimir/Treasure" "points" "I" (.int (0 : Int32)) := F_points_a.other W2 (Or.inr (slot_ne (Or.inr (hw _ (List.mem_of_getElem? (i := 41) rfl))) (Or.inr (hw _ (List.mem_of_getElem? (i := 39) rfl))) (by decide) (t := .int) (t' := (.object "java/lang/String")) (by decide) (by decide)))
  have F_material_a := Fn2
  have N2 := Fr.snoc X2 N1 g_a
  have O2 := O0.wr W2 g_a
  have KK2 : Keep h0 h2 [a] := (Keep.refl h0 [a]).wr W2 (Or.inl (List.mem_of_getElem? (i := 0) rfl))
  refine goS (n := 9) (Ls' := #[.val (.ref a), .val (.ref w), .val (.int x)]) (st' := []) st2 ?_
  refine goS (n := 10) (Ls' := #[.val (.ref a), .val (.ref w), .val (.int x)]) (st' := [(.ref a)]) (fun _ kz => XS.aloadN X2.here hx rfl (hb hby d5_9) rfl rfl kz) ?_
  refine goS (n := 11) (Ls' := #[.val (.ref a), .val (.ref w), .val (.int x)]) (st' := [(.int x), (.ref a)]) (fun _ kz => XS.iloadN X2.here hx rfl (hb hby d5_10) rfl kz) ?_
  obtain ⟨T3, h3, X3, e3, W3, st3⟩ := putF X2 hx hZ hown (host := "") (Or.inl (hw _ (List.mem_of_getElem? (i := 40) rfl))) Via.refl e2 F_points_a E_a (Or.inr ⟨(hw _ (List.mem_of_getElem? (i := 41) rfl)), rfl, hnm⟩) (hw _ (List.mem_of_getElem? (i := 1) rfl)) (ty := .int) (v := (.int x)) (by decide) rfl rfl (g := (mkF m 11 #[.val (.ref a), .val (.ref w), .val (.int x)] [(.int x), (.ref a)])) rfl rfl (hb hby d5_11)
  have Fn3 : Fld Z h3 a "com/example/thingstead/thingstead/mimir/Treasure" "points" "I" (.int x) := F_points_a.same W3
  have E_a : Exa Z h3 a "com/example/thingstead/thingstead/mimir/Treasure" := E_a.wr W3
  have F_material_a : Fld Z h3 a "com/example/thingstead/thingstead/mimir/Treasure" "material" "Ljava/lang/String;" (.ref w) := F_material_a.other W3 (Or.inr (slot_ne (Or.inr (hw _ (List.mem_of_getElem? (i := 39) rfl))) (Or.inr (hw _ (List.mem_of_getElem? (i := 41) rfl))) (by decide) (t := (.object "java/lang/String")) (t' := .int) (by decide) (by decide)))
  have F_points_a := Fn3
  have N3 := Fr.snoc X3 N2 g_a
  have O3 := O2.wr W3 g_a
  have KK3 : Keep h0 h3 [a] := KK2.wr W3 (Or.inl (List.mem_of_getElem? (i := 0) rfl))
  refine goS (n := 14) (Ls' := #[.val (.ref a), .val (.ref w), .val (.int x)]) (st' := []) st3 ?_
  exact goRetV X3 hx hlk Bd.returns (hb hby d5_14) (by decide) (by decide) (by rw [e3]; exact ⟨rfl, N3, KK3, F_material_a, F_points_a⟩)
theorem d7_0 : decode prog_8_method_2_code 0 = .ok (.aload_n 1, 1) := by decide +kernel
theorem d7_1 : decode prog_8_method_2_code 1 = .ok (.instanceof 8, 3) := by decide +kernel
theorem d7_4 : decode prog_8_method_2_code 4 = .ok (.ifCond .eq 37, 3) := by decide +kernel
theorem d7_7 : decode prog_8_method_2_code 7 = .ok (.aload_n 1, 1) := by decide +kernel
theorem d7_8 : decode prog_8_method_2_code 8 = .ok (.checkcast 8, 3) := by decide +kernel
theorem d7_11 : decode prog_8_method_2_code 11 = .ok (.astore_n 2, 1) := by decide +kernel
theorem d7_12 : decode prog_8_method_2_code 12 = .ok (.aload_n 0, 1) := by decide +kernel
theorem d7_13 : decode prog_8_method_2_code 13 = .ok (.getfield 13, 3) := by decide +kernel
theorem d7_16 : decode prog_8_method_2_code 16 = .ok (.aload_n 2, 1) := by decide +kernel
theorem d7_17 : decode prog_8_method_2_code 17 = .ok (.getfield 13, 3) := by decide +kernel
theorem d7_20 : decode prog_8_method_2_code 20 = .ok (.if_icmp .ne 21, 3) := by decide +kernel
theorem d7_23 : decode prog_8_method_2_code 23 = .ok (.aload_n 0, 1) := by decide +kernel
theorem d7_24 : decode prog_8_method_2_code 24 = .ok (.getfield 7, 3) := by decide +kernel
theorem d7_27 : decode prog_8_method_2_code 27 = .ok (.aload_n 2, 1) := by decide +kernel
theorem d7_28 : decode prog_8_method_2_code 28 = .ok (.getfield 7, 3) := by decide +kernel
theorem d7_31 : decode prog_8_method_2_code 31 = .ok (.invokevirtual 17, 3) := by decide +kernel
theorem pd_3 : parseMethodDescriptor "(Ljava/lang/Object;)Z" = some ⟨[(.object "java/lang/Object")], some .boolean⟩ := by decide +kernel
theorem d7_34 : decode prog_8_method_2_code 34 = .ok (.ifCond .eq 7, 3) := by decide +kernel
theorem d7_41 : decode prog_8_method_2_code 41 = .ok (.iconst 0, 1) := by decide +kernel
theorem d7_42 : decode prog_8_method_2_code 42 = .ok (.ireturn, 1) := by decide +kernel
theorem d7_37 : decode prog_8_method_2_code 37 = .ok (.iconst 1, 1) := by decide +kernel
theorem d7_38 : decode prog_8_method_2_code 38 = .ok (.goto 4, 3) := by decide +kernel
theorem ef_eqM (m : MethodId) (a : Addr) (b : Addr) : entryFrame m #[(.ref a), (.ref b)] 3 = mkF m 0 #[.val (.ref a), .val (.ref b), .unset] [] := by first | (simp [entryFrame, mkF, argsToLocals, Value.category]; done) | rfl
abbrev R_eqM : Room := { frames := 2, cells := 0, slots := 0, locals := 28 }
def Q_eqM (Z : State) (a : Addr) (b : Addr) (x : Int32) (y : Int32) (cs : Int32) (s1 : Addr) (t1 : Addr) (k1 : ClassId) (cs1 : List Int32) (s2 : Addr) (t2 : Addr) (k2 : ClassId) (cs2 : List Int32) (h0 : Heap) (n0 : Nat) (v : Option Value) (h : Heap) (L : List Loc) : Prop := v = some (.int (bi (x = y ∧ cs1 = cs2))) ∧ Fr n0 L ∧ h = h0
set_option maxRecDepth 65536 in
set_option maxHeartbeats 40000000 in
theorem rm_eqM (l : Launch) (Z : State) (a0 : Array Value) (hw : ∀ d ∈ tables_1, d.before a0 Z = true) (ws : List Jvm.Cond) (a : Addr) (b : Addr) (x : Int32) (y : Int32) (cs : Int32) (s1 : Addr) (t1 : Addr) (k1 : ClassId) (cs1 : List Int32) (s2 : Addr) (t2 : Addr) (k2 : ClassId) (cs2 : List Int32) (h0 : Heap) (n0 : Nat) (O0 : Old Z n0 h0) (S_CS : Sta Z Z.heap "java/lang/String" "COMPACT_STRINGS" "Z" (.int cs)) (hcs : ¬ cs = (0 : Int32)) (Es1 : Exa Z h0 s1 "java/lang/String") (Fv1 : Fld Z h0 s1 "java/lang/String" "value" "[B" (.ref t1)) (Fc1 : Fld Z h0 s1 "java/lang/String" "coder" "B" (.int (0 : Int32))) (Vt1 : Arv Z h0 t1 k1 .byte (Int32.ofNat (List.length cs1)) ((List.map (fun c : Int32 => c.toInt8.toInt32) cs1).map Value.int) (.int (0 : Int32))) (hb1 : ∀ c ∈ cs1, ¬ c < 0 ∧ ¬ (255 : Int32) < c) (hl1 : cs1.length ≤ 4000) (Es2 : Exa Z h0 s2 "java/lang/String") (Fv2 : Fld Z h0 s2 "java/lang/String" "value" "[B" (.ref t2)) (Fc2 : Fld Z h0 s2 "java/lang/String" "coder" "B" (.int (0 : Int32))) (Vt2 : Arv Z h0 t2 k2 .byte (Int32.ofNat (List.length cs2)) ((List.map (fun c : Int32 => c.toInt8.toInt32) cs2).map Value.int) (.int (0 : Int32))) (hb2 : ∀ c ∈ cs2, ¬ c < 0 ∧ ¬ (255 : Int32) < c) (hl2 : cs2.length ≤ 4000) (F1a : Fld Z h0 a "com/example/thingstead/thingstead/mimir/Treasure" "material" "Ljava/lang/String;" (.ref s1)) (F2a : Fld Z h0 a "com/example/thingstead/thingstead/mimir/Treasure" "points" "I" (.int x)) (F1b : Fld Z h0 b "com/example/thingstead/thingstead/mimir/Treasure" "material" "Ljava/lang/String;" (.ref s2)) (F2b : Fld Z h0 b "com/example/thingstead/thingstead/mimir/Treasure" "points" "I" (.int y)) (E_b : Exa Z h0 b "com/example/thingstead/thingstead/mimir/Treasure") :
    MetFree l (⟨"com/example/thingstead/thingstead/mimir/Treasure", "equals", "(Ljava/lang/Object;)Z"⟩ : MethodName) (head1 (Jvm.Cond.code (⟨"com/example/thingstead/thingstead/mimir/Treasure", "equals", "(Ljava/lang/Object;)Z"⟩ : MethodName) prog_8_method_2_code 3 (some .boolean) :: ws) R_eqM) (fun as_ U => as_ = #[(.ref a), (.ref b)] ∧ Z.Warmed39 U.vm ∧ U.heap = h0) (fun _ _ _ _ _ => True) (fun _ U o U' => ∃ v L, o = .returned v ∧ Q_eqM Z a b x y cs s1 t1 k1 cs1 s2 t2 k2 cs2 h0 n0 v U'.heap L ∧ FrameEnd U o U' L R_eqM.cells R_eqM.slots) := by
  refine MetFree.of_bodySF (plainFor_of_name pn_3) hisR ?_
  intro p e s m args below meth c s₁ Bd hml0 hP hK
  obtain ⟨rfl, hZ, hh⟩ := hP
  have hx := Bd.exec
  have hby := Bd.bytes
  have hml : c.maxLocals = 3 := hml0
  have hown : s.vm.findClass "com/example/thingstead/thingstead/mimir/Treasure" = some m.cls := findClass_of_methodNamed Bd.named
  have hnm := (name_of_methodNamed Bd.named Bd.method).1
  have hlk : meth.locks = false := BodyLoose.notSynchronized Bd
  have X0 : Stand p l e R_eqM s m #[(.ref a), (.ref b)] below meth c s₁ [] 0 0 := Stand.of_body Bd
  have e0 : s₁.heap = h0 := by rw [← hh, Bd.state]; rfl
  have N0 := Fr.nil n0
  refine enter (P := PQ s R_eqM.cells R_eqM.slots (Q_eqM Z a b x y cs s1 t1 k1 cs1 s2 t2 k2 cs2 h0 n0)) (ef_eqM m a b) ?_
  refine goS (n := 1) (Ls' := #[.val (.ref a), .val (.ref b), .unset]) (st' := [(.ref b)]) (fun _ kz => XS.aloadN X0.here hx rfl (hb hby d7_0) rfl rfl kz) ?_
  obtain ⟨T1, X1, e1, st1⟩ := instY X0 hx hZ hown (hw _ (List.mem_of_getElem? (i := 47) rfl)) e0 (Ins.self E_b) (g := (mkF m 1 #[.val (.ref a), .val (.ref b), .unset] [(.ref b)])) rfl rfl (hb hby d7_1)
  refine goS (n := 4) (Ls' := #[.val (.ref a), .val (.ref b), .unset]) (st' := [(.int (1 : Int32))]) st1 ?_
  refine goS (n := 7) (Ls' := #[.val (.ref a), .val (.ref b), .unset]) (st' := []) (fun _ kz => XS.ifNo X1.here hx rfl (hb hby d7_4) rfl (by decide) kz) ?_
  refine goS (n := 8) (Ls' := #[.val (.ref a), .val (.ref b), .unset]) (st' := [(.ref b)]) (fun _ kz => XS.aloadN X1.here hx rfl (hb hby d7_7) rfl rfl kz) ?_
  obtain ⟨T2, X2, e2, st2⟩ := castY X1 hx hZ hown (hw _ (List.mem_of_getElem? (i := 47) rfl)) e1 (Ins.self E_b) (g := (mkF m 8 #[.val (.ref a), .val (.ref b), .unset] [(.ref b)])) rfl rfl (hb hby d7_8)
  refine goS (n := 11) (Ls' := #[.val (.ref a), .val (.ref b), .unset]) (st' := [(.ref b)]) st2 ?_
  refine goS (n := 12) (Ls' := #[.val (.ref a), .val (.ref b), .val (.ref b)]) (st' := []) (fun _ kz => XS.astoreN X2.here hx rfl (hb hby d7_11) rfl rfl (l' := #[.val (.ref a), .val (.ref b), .val (.ref b)]) rfl kz) ?_
  refine goS (n := 13) (Ls' := #[.val (.ref a), .val (.ref b), .val (.ref b)]) (st' := [(.ref a)]) (fun _ kz => XS.aloadN X2.here hx rfl (hb hby d7_12) rfl rfl kz) ?_
  obtain ⟨T3, X3, e3, st3⟩ := getF X2 hx hZ hown (host := "") (Or.inl (hw _ (List.mem_of_getElem? (i := 40) rfl))) Via.refl e2 F2a (g := (mkF m 13 #[.val (.ref a), .val (.ref b), .val (.ref b)] [(.ref a)])) rfl rfl (hb hby d7_13)
  refine goS (n := 16) (Ls' := #[.val (.ref a), .val (.ref b), .val (.ref b)]) (st' := [(.int x)]) st3 ?_
  refine goS (n := 17) (Ls' := #[.val (.ref a), .val (.ref b), .val (.ref b)]) (st' := [(.ref b), (.int x)]) (fun _ kz => XS.aloadN X3.here hx rfl (hb hby d7_16) rfl rfl kz) ?_
  obtain ⟨T4, X4, e4, st4⟩ := getF X3 hx hZ hown (host := "") (Or.inl (hw _ (List.mem_of_getElem? (i := 40) rfl))) Via.refl e3 F2b (g := (mkF m 17 #[.val (.ref a), .val (.ref b), .val (.ref b)] [(.ref b), (.int x)])) rfl rfl (hb hby d7_17)
  refine goS (n := 20) (Ls' := #[.val (.ref a), .val (.ref b), .val (.ref b)]) (st' := [(.int y), (.int x)]) st4 ?_
  by_cases hc5 : x = y
  · refine goS (n := 23) (Ls' := #[.val (.ref a), .val (.ref b), .val (.ref b)]) (st' := []) (fun _ kz => XS.icmpNo X4.here hx rfl (hb hby d7_20) rfl (teq hc5).2 kz) ?_
    refine goS (n := 24) (Ls' := #[.val (.ref a), .val (.ref b), .val (.ref b)]) (st' := [(.ref a)]) (fun _ kz => XS.aloadN X4.here hx rfl (hb hby d7_23) rfl rfl kz) ?_
    obtain ⟨T6, X6, e6, st6⟩ := getF X4 hx hZ hown (host := "") (Or.inl (hw _ (List.mem_of_getElem? (i := 38) rfl))) Via.refl e4 F1a (g := (mkF m 24 #[.val (.ref a), .val (.ref b), .val (.ref b)] [(.ref a)])) rfl rfl (hb hby d7_24)
    refine goS (n := 27) (Ls' := #[.val (.ref a), .val (.ref b), .val (.ref b)]) (st' := [(.ref s1)]) st6 ?_
    refine goS (n := 28) (Ls' := #[.val (.ref a), .val (.ref b), .val (.ref b)]) (st' := [(.ref b), (.ref s1)]) (fun _ kz => XS.aloadN X6.here hx rfl (hb hby d7_27) rfl rfl kz) ?_
    obtain ⟨T7, X7, e7, st7⟩ := getF X6 hx hZ hown (host := "") (Or.inl (hw _ (List.mem_of_getElem? (i := 38) rfl))) Via.refl e6 F1b (g := (mkF m 28 #[.val (.ref a), .val (.ref b), .val (.ref b)] [(.ref b), (.ref s1)])) rfl rfl (hb hby d7_28)
    refine goS (n := 31) (Ls' := #[.val (.ref a), .val (.ref b), .val (.ref b)]) (st' := [(.ref s2), (.ref s1)]) st7 ?_
    obtain ⟨cq8, kq8, q8a, q8b, q8c⟩ := isOf hZ e7 Es1
    obtain ⟨vr8, _, ⟨T8, L8, k8, n8⟩, -, X8, ⟨Lc8, hQ8, l8, y8, z8⟩, st8⟩ := X7.virtualBack hx (y := (⟨"java/lang/String", "equals", "(Ljava/lang/Object;)Z"⟩ : MethodName)) (z := (⟨"java/lang/String", "equals", "(Ljava/lang/Object;)Z"⟩ : MethodName)) hown (mvT hZ (hw _ (List.mem_of_getElem? (i := 62) rfl))) (mvT hZ (hw _ (List.mem_of_getElem? (i := 63) rfl))) (notFace_of_selects (args := #[]) (mvT hZ (hw _ (List.mem_of_getElem? (i := 65) rfl)))) (mvT hZ (hw _ (List.mem_of_getElem? (i := 65) rfl))) (mvT hZ (hw _ (List.mem_of_getElem? (i := 64) rfl))) (by decide) (StrChars.Road.eqW (W := 0) hZ (own_wordsEq hw) (kI := 4) (hw _ (List.mem_of_getElem? (i := 8) rfl)) Es1 Fv1 Fc1 Vt1 (own_cod hb1) (own_up hb1) hl1 Es2 Fv2 Fc2 Vt2 (own_cod hb2) (own_up hb2) hl2 (S_CS.ext O0.2) hcs (by decide) (by decide)) q8a q8c (g := (mkF m 31 #[.val (.ref a), .val (.ref b), .val (.ref b)] [(.ref s2), (.ref s1)])) rfl (by rw [hml]; rfl) (Steps.refl _) (argsL := [(.ref s2)]) (rest := []) (lenOf pd_3 rfl) rfl (by show 2 * 0 + _ ≤ _; exact Nat.le_of_eq rfl) (hb hby d7_31) (fun _ _ => ⟨rfl, e7, (Nat.le_of_ble_eq_true rfl), (Nat.le_of_ble_eq_true rfl)⟩)
    dsimp only [Pt.U, Pt.locs, Pt.cells, Pt.slots] at X8 l8 y8 z8 st8 hQ8
    subst l8 y8 z8
    obtain ⟨hv8, hL8, e8⟩ := hQ8
    obtain ⟨q8, hvr8, h_q8⟩ : ∃ r : Int32, vr8 = some (.int r) ∧ r = bi (cs1 = cs2) := by rcases hv8 with ⟨q1, q2⟩ | ⟨q1, q2⟩; exact ⟨1, q1, (bi_t q2).symm⟩; exact ⟨0, q1, (bi_f q2).symm⟩
    subst hvr8
    subst hL8
    have N8q := Fr.nil n0
    have N8 := Fr.app N0 N8q
    refine goT (n := 34) (Ls' := #[.val (.ref a), .val (.ref b), .val (.ref b)]) (st' := [(.int q8)]) st8 ?_
    by_cases hc9 : q8 = (0 : Int32)
    · refine goS (n := 41) (Ls' := #[.val (.ref a), .val (.ref b), .val (.ref b)]) (st' := []) (fun _ kz => XS.ifYes X8.here hx rfl (pc0 := 34) (pc' := 41) rfl (hb hby d7_34) rfl ((if0 _ _).trans (teq hc9).1) (by decide) (by decide) kz) ?_
      refine goS (n := 42) (Ls' := #[.val (.ref a), .val (.ref b), .val (.ref b)]) (st' := [(.int (0 : Int32))]) (fun _ kz => XS.iconst X8.here hx rfl (hb hby d7_41) kz) ?_
      exact goRetZ X8 hx hlk Bd.returns (Or.inl rfl) (hb hby d7_42) (by decide) (by decide) (by rw [e8]; exact ⟨by rw [bi_f (fun q => absurd (hc9.symm.trans (h_q8.trans (bi_t q.2))) (by decide))], N8, rfl⟩)
    · refine goS (n := 37) (Ls' := #[.val (.ref a), .val (.ref b), .val (.ref b)]) (st' := []) (fun _ kz => XS.ifNo X8.here hx rfl (hb hby d7_34) rfl ((if0 _ _).trans (feq hc9).1) kz) ?_
      refine goS (n := 38) (Ls' := #[.val (.ref a), .val (.ref b), .val (.ref b)]) (st' := [(.int (1 : Int32))]) (fun _ kz => XS.iconst X8.here hx rfl (hb hby d7_37) kz) ?_
      refine goS (n := 42) (Ls' := #[.val (.ref a), .val (.ref b), .val (.ref b)]) (st' := [(.int (1 : Int32))]) (fun _ kz => XS.goto X8.here hx rfl (pc0 := 38) (pc' := 42) rfl (hb hby d7_38) (by decide) (by decide) kz) ?_
      exact goRetZ X8 hx hlk Bd.returns (Or.inr rfl) (hb hby d7_42) (by decide) (by decide) (by rw [e8]; exact ⟨by rw [bi_t ⟨hc5, Decidable.byContradiction fun q => hc9 (h_q8.trans (bi_f q))⟩], N8, rfl⟩)
  · refine goS (n := 41) (Ls' := #[.val (.ref a), .val (.ref b), .val (.ref b)]) (st' := []) (fun _ kz => XS.icmpYes X4.here hx rfl (pc0 := 20) (pc' := 41) rfl (hb hby d7_20) rfl (feq hc5).2 (by decide) (by decide) kz) ?_
    refine goS (n := 42) (Ls' := #[.val (.ref a), .val (.ref b), .val (.ref b)]) (st' := [(.int (0 : Int32))]) (fun _ kz => XS.iconst X4.here hx rfl (hb hby d7_41) kz) ?_
    exact goRetZ X4 hx hlk Bd.returns (Or.inl rfl) (hb hby d7_42) (by decide) (by decide) (by rw [e4]; exact ⟨by rw [bi_f (fun q => hc5 q.1)], N0, rfl⟩)
theorem ef_eqN (m : MethodId) (a : Addr) : entryFrame m #[(.ref a), .null] 3 = mkF m 0 #[.val (.ref a), .val .null, .unset] [] := by first | (simp [entryFrame, mkF, argsToLocals, Value.category]; done) | rfl
abbrev R_eqN : Room := { frames := 0, cells := 0, slots := 0, locals := 0 }
def Q_eqN (Z : State) (a : Addr) (h0 : Heap) (n0 : Nat) (v : Option Value) (h : Heap) (L : List Loc) : Prop := v = some (.int 0) ∧ Fr n0 L ∧ h = h0
set_option maxRecDepth 65536 in
set_option maxHeartbeats 40000000 in
theorem rm_eqN (l : Launch) (Z : State) (a0 : Array Value) (hw : ∀ d ∈ tables_1, d.before a0 Z = true) (ws : List Jvm.Cond) (a : Addr) (h0 : Heap) (n0 : Nat) (O0 : Old Z n0 h0) :
    MetFree l (⟨"com/example/thingstead/thingstead/mimir/Treasure", "equals", "(Ljava/lang/Object;)Z"⟩ : MethodName) (head1 (Jvm.Cond.code (⟨"com/example/thingstead/thingstead/mimir/Treasure", "equals", "(Ljava/lang/Object;)Z"⟩ : MethodName) prog_8_method_2_code 3 (some .boolean) :: ws) R_eqN) (fun as_ U => as_ = #[(.ref a), .null] ∧ Z.Warmed39 U.vm ∧ U.heap = h0) (fun _ _ _ _ _ => True) (fun _ U o U' => ∃ v L, o = .returned v ∧ Q_eqN Z a h0 n0 v U'.heap L ∧ FrameEnd U o U' L R_eqN.cells R_eqN.slots) := by
  refine MetFree.of_bodySF (plainFor_of_name pn_3) hisR ?_
  intro p e s m args below meth c s₁ Bd hml0 hP hK
  obtain ⟨rfl, hZ, hh⟩ := hP
  have hx := Bd.exec
  have hby := Bd.bytes
  have hml : c.maxLocals = 3 := hml0
  have hown : s.vm.findClass "com/example/thingstead/thingstead/mimir/Treasure" = some m.cls := findClass_of_methodNamed Bd.named
  have hnm := (name_of_methodNamed Bd.named Bd.method).1
  have hlk : meth.locks = false := BodyLoose.notSynchronized Bd
  have X0 : Stand p l e R_eqN s m #[(.ref a), .null] below meth c s₁ [] 0 0 := Stand.of_body Bd
  have e0 : s₁.heap = h0 := by rw [← hh, Bd.state]; rfl
  have N0 := Fr.nil n0
  refine enter (P := PQ s R_eqN.cells R_eqN.slots (Q_eqN Z a h0 n0)) (ef_eqN m a) ?_
  refine goS (n := 1) (Ls' := #[.val (.ref a), .val .null, .unset]) (st' := [.null]) (fun _ kz => XS.aloadN X0.here hx rfl (hb hby d7_0) rfl rfl kz) ?_
  refine goS (n := 4) (Ls' := #[.val (.ref a), .val .null, .unset]) (st' := [(.int (0 : Int32))]) (fun tz kz => X0.instanceofNull hx (g := (mkF m 1 #[.val (.ref a), .val .null, .unset] [.null])) rfl rfl (hb hby d7_1) tz kz) ?_
  refine goS (n := 41) (Ls' := #[.val (.ref a), .val .null, .unset]) (st' := []) (fun _ kz => XS.ifYes X0.here hx rfl (pc0 := 4) (pc' := 41) rfl (hb hby d7_4) rfl (by decide) (by decide) (by decide) kz) ?_
  refine goS (n := 42) (Ls' := #[.val (.ref a), .val .null, .unset]) (st' := [(.int (0 : Int32))]) (fun _ kz => XS.iconst X0.here hx rfl (hb hby d7_41) kz) ?_
  exact goRetZ X0 hx hlk Bd.returns (Or.inl rfl) (hb hby d7_42) (by decide) (by decide) (by rw [e0]; exact ⟨rfl, N0, rfl⟩)
theorem ef_eqS (m : MethodId) (a : Addr) (b : Addr) : entryFrame m #[(.ref a), (.ref b)] 3 = mkF m 0 #[.val (.ref a), .val (.ref b), .unset] [] := by first | (simp [entryFrame, mkF, argsToLocals, Value.category]; done) | rfl
abbrev R_eqS : Room := { frames := 0, cells := 0, slots := 0, locals := 0 }
def Q_eqS (Z : State) (a : Addr) (b : Addr) (h0 : Heap) (n0 : Nat) (v : Option Value) (h : Heap) (L : List Loc) : Prop := v = some (.int 0) ∧ Fr n0 L ∧ h = h0
set_option maxRecDepth 65536 in
set_option maxHeartbeats 40000000 in
theorem rm_eqS (l : Launch) (Z : State) (a0 : Array Value) (hw : ∀ d ∈ tables_1, d.before a0 Z = true) (ws : List Jvm.Cond) (a : Addr) (b : Addr) (h0 : Heap) (n0 : Nat) (O0 : Old Z n0 h0) (E_b : Exa Z h0 b "java/lang/String") :
    MetFree l (⟨"com/example/thingstead/thingstead/mimir/Treasure", "equals", "(Ljava/lang/Object;)Z"⟩ : MethodName) (head1 (Jvm.Cond.code (⟨"com/example/thingstead/thingstead/mimir/Treasure", "equals", "(Ljava/lang/Object;)Z"⟩ : MethodName) prog_8_method_2_code 3 (some .boolean) :: ws) R_eqS) (fun as_ U => as_ = #[(.ref a), (.ref b)] ∧ Z.Warmed39 U.vm ∧ U.heap = h0) (fun _ _ _ _ _ => True) (fun _ U o U' => ∃ v L, o = .returned v ∧ Q_eqS Z a b h0 n0 v U'.heap L ∧ FrameEnd U o U' L R_eqS.cells R_eqS.slots) := by
  refine MetFree.of_bodySF (plainFor_of_name pn_3) hisR ?_
  intro p e s m args below meth c s₁ Bd hml0 hP hK
  obtain ⟨rfl, hZ, hh⟩ := hP
  have hx := Bd.exec
  have hby := Bd.bytes
  have hml : c.maxLocals = 3 := hml0
  have hown : s.vm.findClass "com/example/thingstead/thingstead/mimir/Treasure" = some m.cls := findClass_of_methodNamed Bd.named
  have hnm := (name_of_methodNamed Bd.named Bd.method).1
  have hlk : meth.locks = false := BodyLoose.notSynchronized Bd
  have X0 : Stand p l e R_eqS s m #[(.ref a), (.ref b)] below meth c s₁ [] 0 0 := Stand.of_body Bd
  have e0 : s₁.heap = h0 := by rw [← hh, Bd.state]; rfl
  have N0 := Fr.nil n0
  refine enter (P := PQ s R_eqS.cells R_eqS.slots (Q_eqS Z a b h0 n0)) (ef_eqS m a b) ?_
  refine goS (n := 1) (Ls' := #[.val (.ref a), .val (.ref b), .unset]) (st' := [(.ref b)]) (fun _ kz => XS.aloadN X0.here hx rfl (hb hby d7_0) rfl rfl kz) ?_
  obtain ⟨T1, X1, e1, st1⟩ := instNo X0 hx hZ hown (hw _ (List.mem_of_getElem? (i := 47) rfl)) e0 E_b (nsNo (hw _ (List.mem_of_getElem? (i := 60) rfl)) (hw _ (List.mem_of_getElem? (i := 1) rfl)) (NS.step (hw _ (List.mem_of_getElem? (i := 60) rfl)) (nsRoot (hw _ (List.mem_of_getElem? (i := 61) rfl)) (hw _ (List.mem_of_getElem? (i := 1) rfl)) (by decide)) (by decide)) (by decide)) (g := (mkF m 1 #[.val (.ref a), .val (.ref b), .unset] [(.ref b)])) rfl rfl (hb hby d7_1)
  refine goS (n := 4) (Ls' := #[.val (.ref a), .val (.ref b), .unset]) (st' := [(.int (0 : Int32))]) st1 ?_
  refine goS (n := 41) (Ls' := #[.val (.ref a), .val (.ref b), .unset]) (st' := []) (fun _ kz => XS.ifYes X1.here hx rfl (pc0 := 4) (pc' := 41) rfl (hb hby d7_4) rfl (by decide) (by decide) (by decide) kz) ?_
  refine goS (n := 42) (Ls' := #[.val (.ref a), .val (.ref b), .unset]) (st' := [(.int (0 : Int32))]) (fun _ kz => XS.iconst X1.here hx rfl (hb hby d7_41) kz) ?_
  exact goRetZ X1 hx hlk Bd.returns (Or.inl rfl) (hb hby d7_42) (by decide) (by decide) (by rw [e1]; exact ⟨rfl, N0, rfl⟩)
theorem own_cr (x : Int32) : ¬ ((x &&& (255 : Int32)).toUInt32.toUInt16.toUInt32.toInt32) < 0 ∧ ¬ (255 : Int32) < ((x &&& (255 : Int32)).toUInt32.toUInt16.toUInt32.toInt32) := by
  rw [i2c_mask, Int32.lt_iff_toInt_lt, Int32.lt_iff_toInt_lt]
  have := c_and x 255 (by decide)
  have z : (255 : Int32).toInt = 255 := rfl
  have z0 : (0 : Int32).toInt = 0 := rfl
  omega
theorem own_m3 (x : Int32) : ((x &&& (3 : Int32)) % (3 : Int32)) = 0 ∨ ((x &&& (3 : Int32)) % (3 : Int32)) = 1 ∨ ((x &&& (3 : Int32)) % (3 : Int32)) = 2 := by
  have h := (c_and x 3 (by decide)).1
  have h1 := (c_irem (x &&& (3 : Int32)) 3 3 rfl).1 h
  have h4 : ((x &&& (3 : Int32)) % (3 : Int32)).toInt = 0 ∨ ((x &&& (3 : Int32)) % (3 : Int32)).toInt = 1 ∨ ((x &&& (3 : Int32)) % (3 : Int32)).toInt = 2 := by omega
  rcases h4 with q | q | q
  · exact Or.inl (Int32.toInt_inj.mp q)
  · exact Or.inr (Or.inl (Int32.toInt_inj.mp q))
  · exact Or.inr (Or.inr (Int32.toInt_inj.mp q))
theorem own_eqC (l1 l2 a0 a1 b0 b1 : Int32) (h1 : l1 = 0 ∨ l1 = 1 ∨ l1 = 2) (h2 : l2 = 0 ∨ l2 = 1 ∨ l2 = 2) : own_mk l1 a0 a1 = own_mk l2 b0 b1 ↔ (l1 = l2 ∧ (l1 < (1 : Int32) ∨ a0 = b0) ∧ (l1 < (2 : Int32) ∨ a1 = b1)) := by
  rcases h1 with rfl | rfl | rfl <;> rcases h2 with rfl | rfl | rfl <;> simp +decide [own_mk]
theorem pd_4 : parseMethodDescriptor "(ICC)Ljava/lang/String;" = some ⟨[.int, .char, .char], some (.object "java/lang/String")⟩ := by decide +kernel
theorem pd_5 : parseMethodDescriptor "(Ljava/lang/String;I)V" = some ⟨[(.object "java/lang/String"), .int], none⟩ := by decide +kernel
theorem ef_law (m : MethodId) (p1 : Int32) (p2 : Int32) (p3 : Int32) (p4 : Int32) (p5 : Int32) : entryFrame m #[(.int p1), (.int p2), (.int p3), (.int p4), (.int p5)] maxLocals = mkF m 0 #[.val (.int p1), .val (.int p2), .val (.int p3), .val (.int p4), .val (.int p5), .unset, .unset, .unset, .unset, .unset, .unset, .unset, .unset, .unset, .unset, .unset, .unset] [] := by first | (simp [entryFrame, mkF, argsToLocals, Value.category, maxLocals]; done) | rfl
def Q_law (Z : State) (p1 : Int32) (p2 : Int32) (p3 : Int32) (p4 : Int32) (p5 : Int32) (cs : Int32) (h0 : Heap) (n0 : Nat) (v : Option Value) (h : Heap) (L : List Loc) : Prop := v = some (.int 1) ∧ Fr n0 L
set_option maxRecDepth 65536 in
set_option maxHeartbeats 40000000 in
theorem rm_law (l : Launch) (Z : State) (a0 : Array Value) (hw : ∀ d ∈ tables_1, d.before a0 Z = true) (ws : List Jvm.Cond) (p1 : Int32) (p2 : Int32) (p3 : Int32) (p4 : Int32) (p5 : Int32) (cs : Int32) (h0 : Heap) (n0 : Nat) (O0 : Old Z n0 h0) (S_CS : Sta Z Z.heap "java/lang/String" "COMPACT_STRINGS" "Z" (.int cs)) (hcs : ¬ cs = (0 : Int32)) :
    MetFree l x (head1 (Jvm.Cond.code x code maxLocals ret :: ws) room_1) (fun as_ U => as_ = #[(.int p1), (.int p2), (.int p3), (.int p4), (.int p5)] ∧ Z.Warmed39 U.vm ∧ U.heap = h0 ∧ CHv Z own_EL U.vm h0) (fun _ _ _ _ _ => True) (fun _ U o U' => ∃ v L, o = .returned v ∧ Q_law Z p1 p2 p3 p4 p5 cs h0 n0 v U'.heap L ∧ CHr Z own_EL U.vm U.heap U'.vm U'.heap ∧ ReturnedEndW U o U' L room_1.cells room_1.slots) := by
  refine MetFree.of_bodySF (plainFor_of_name pn_1) hisR ?_
  intro p e s m args below meth c s₁ Bd hml0 hP hK
  obtain ⟨rfl, hZ, hh, hC0⟩ := hP
  have hx := Bd.exec
  have hby := Bd.bytes
  have hml : c.maxLocals = 17 := hml0
  have hown : s.vm.findClass "com/example/thingstead/thingstead/mimir/TreasureEqualsPinLaw" = some m.cls := findClass_of_methodNamed Bd.named
  have hnm := (name_of_methodNamed Bd.named Bd.method).1
  have hlk : meth.locks = false := BodyLoose.notSynchronized Bd
  have X0 : Stand p l e room_1 (s.setVm s.vm) m #[(.int p1), (.int p2), (.int p3), (.int p4), (.int p5)] below meth c s₁ [] 0 0 := Stand.of_body Bd
  have e0 : s₁.heap = h0 := by rw [← hh, Bd.state]; rfl
  have N0 := Fr.nil n0
  have hS : s.Since s.vm s.heap.size := (State.WarmedH.refl s).since _
  have hk : s.heap.size ≤ h0.size := by rw [← hh]; exact Nat.le_refl _
  have hZ : Z.Warmed39 (s.setVm s.vm).vm := hZ
  have hown : (s.setVm s.vm).vm.findClass "com/example/thingstead/thingstead/mimir/TreasureEqualsPinLaw" = some m.cls := hown
  have wS := own_wS hw
  have hC : CHr Z own_EL s.vm h0 s.vm h0 := CHr.refl hC0
  have hEL := own_EW hw
  refine enter (P := PQH Z own_EL s room_1.cells room_1.slots (Q_law Z p1 p2 p3 p4 p5 cs h0 n0)) (ef_law m p1 p2 p3 p4 p5) ?_
  refine goS (n := 2) (Ls' := #[.val (.int p1), .val (.int p2), .val (.int p3), .val (.int p4), .val (.int p5), .unset, .unset, .unset, .unset, .unset, .unset, .unset, .unset, .unset, .unset, .unset, .unset]) (st' := [(.int p5)]) (fun _ kz => XS.iload X0.here hx rfl (hb hby at_0) rfl kz) ?_
  refine goS (n := 3) (Ls' := #[.val (.int p1), .val (.int p2), .val (.int p3), .val (.int p4), .val (.int p5), .unset, .unset, .unset, .unset, .unset, .unset, .unset, .unset, .unset, .unset, .unset, .unset]) (st' := [(.int (3 : Int32)), (.int p5)]) (fun _ kz => XS.iconst X0.here hx rfl (hb hby at_2) kz) ?_
  refine goS (n := 4) (Ls' := #[.val (.int p1), .val (.int p2), .val (.int p3), .val (.int p4), .val (.int p5), .unset, .unset, .unset, .unset, .unset, .unset, .unset, .unset, .unset, .unset, .unset, .unset]) (st' := [(.int (p5 &&& (3 : Int32)))]) (fun _ kz => XS.iand X0.here hx rfl (hb hby at_3) rfl kz) ?_
  refine goS (n := 5) (Ls' := #[.val (.int p1), .val (.int p2), .val (.int p3), .val (.int p4), .val (.int p5), .unset, .unset, .unset, .unset, .unset, .unset, .unset, .unset, .unset, .unset, .unset, .unset]) (st' := [(.int (3 : Int32)), (.int (p5 &&& (3 : Int32)))]) (fun _ kz => XS.iconst X0.here hx rfl (hb hby at_4) kz) ?_
  refine goS (n := 6) (Ls' := #[.val (.int p1), .val (.int p2), .val (.int p3), .val (.int p4), .val (.int p5), .unset, .unset, .unset, .unset, .unset, .unset, .unset, .unset, .unset, .unset, .unset, .unset]) (st' := [(.int ((p5 &&& (3 : Int32)) % (3 : Int32)))]) (fun _ kz => iremM X0 hx rfl (hb hby at_5) rfl (by decide) kz) ?_
  refine goS (n := 8) (Ls' := #[.val (.int p1), .val (.int p2), .val (.int p3), .val (.int p4), .val (.int p5), .val (.int ((p5 &&& (3 : Int32)) % (3 : Int32))), .unset, .unset, .unset, .unset, .unset, .unset, .unset, .unset, .unset, .unset, .unset]) (st' := []) (fun _ kz => XS.istore X0.here hx rfl (hb hby at_6) rfl (l' := #[.val (.int p1), .val (.int p2), .val (.int p3), .val (.int p4), .val (.int p5), .val (.int ((p5 &&& (3 : Int32)) % (3 : Int32))), .unset, .unset, .unset, .unset, .unset, .unset, .unset, .unset, .unset, .unset, .unset]) rfl kz) ?_
  obtain ⟨l1, d_l1⟩ : ∃ i : Int32, i = ((p5 &&& (3 : Int32)) % (3 : Int32)) := ⟨_, rfl⟩
  rw [← d_l1]
  have hl1 : l1 = 0 ∨ l1 = 1 ∨ l1 = 2 := by rw [d_l1]; exact own_m3 _
  refine goS (n := 10) (Ls' := #[.val (.int p1), .val (.int p2), .val (.int p3), .val (.int p4), .val (.int p5), .val (.int l1), .unset, .unset, .unset, .unset, .unset, .unset, .unset, .unset, .unset, .unset, .unset]) (st' := [(.int p5)]) (fun _ kz => XS.iload X0.here hx rfl (hb hby at_8) rfl kz) ?_
  refine goS (n := 12) (Ls' := #[.val (.int p1), .val (.int p2), .val (.int p3), .val (.int p4), .val (.int p5), .val (.int l1), .unset, .unset, .unset, .unset, .unset, .unset, .unset, .unset, .unset, .unset, .unset]) (st' := [(.int (8 : Int32)), (.int p5)]) (fun _ kz => XS.bipush X0.here hx rfl (hb hby at_10) kz) ?_
  refine goS (n := 13) (Ls' := #[.val (.int p1), .val (.int p2), .val (.int p3), .val (.int p4), .val (.int p5), .val (.int l1), .unset, .unset, .unset, .unset, .unset, .unset, .unset, .unset, .unset, .unset, .unset]) (st' := [(.int (p5 &&& (8 : Int32)))]) (fun _ kz => XS.iand X0.here hx rfl (hb hby at_12) rfl kz) ?_
  have jn1 : ∀ l2 : Int32, (l2 = 0 ∨ l2 = 1 ∨ l2 = 2) → Go p e below (PQH Z own_EL s room_1.cells room_1.slots (Q_law Z p1 p2 p3 p4 p5 cs h0 n0)) s₁ (mkF m 29 #[.val (.int p1), .val (.int p2), .val (.int p3), .val (.int p4), .val (.int p5), .val (.int l1), .unset, .unset, .unset, .unset, .unset, .unset, .unset, .unset, .unset, .unset, .unset] [(.int l2)]) := by
    intro l2 h_l2
    refine goS (n := 31) (Ls' := #[.val (.int p1), .val (.int p2), .val (.int p3), .val (.int p4), .val (.int p5), .val (.int l1), .val (.int l2), .unset, .unset, .unset, .unset, .unset, .unset, .unset, .unset, .unset, .unset]) (st' := []) (fun _ kz => XS.istore X0.here hx rfl (hb hby at_29) rfl (l' := #[.val (.int p1), .val (.int p2), .val (.int p3), .val (.int p4), .val (.int p5), .val (.int l1), .val (.int l2), .unset, .unset, .unset, .unset, .unset, .unset, .unset, .unset, .unset, .unset]) rfl kz) ?_
    refine goS (n := 32) (Ls' := #[.val (.int p1), .val (.int p2), .val (.int p3), .val (.int p4), .val (.int p5), .val (.int l1), .val (.int l2), .unset, .unset, .unset, .unset, .unset, .unset, .unset, .unset, .unset, .unset]) (st' := [(.int p3)]) (fun _ kz => XS.iloadN X0.here hx rfl (hb hby at_31) rfl kz) ?_
    refine goS (n := 35) (Ls' := #[.val (.int p1), .val (.int p2), .val (.int p3), .val (.int p4), .val (.int p5), .val (.int l1), .val (.int l2), .unset, .unset, .unset, .unset, .unset, .unset, .unset, .unset, .unset, .unset]) (st' := [(.int (255 : Int32)), (.int p3)]) (fun _ kz => XS.sipush X0.here hx rfl (hb hby at_32) kz) ?_
    refine goS (n := 36) (Ls' := #[.val (.int p1), .val (.int p2), .val (.int p3), .val (.int p4), .val (.int p5), .val (.int l1), .val (.int l2), .unset, .unset, .unset, .unset, .unset, .unset, .unset, .unset, .unset, .unset]) (st' := [(.int (p3 &&& (255 : Int32)))]) (fun _ kz => XS.iand X0.here hx rfl (hb hby at_35) rfl kz) ?_
    refine goS (n := 37) (Ls' := #[.val (.int p1), .val (.int p2), .val (.int p3), .val (.int p4), .val (.int p5), .val (.int l1), .val (.int l2), .unset, .unset, .unset, .unset, .unset, .unset, .unset, .unset, .unset, .unset]) (st' := [(.int ((p3 &&& (255 : Int32)).toUInt32.toUInt16.toUInt32.toInt32))]) (fun _ kz => XS.i2c X0.here hx rfl (hb hby at_36) rfl kz) ?_
    refine goS (n := 39) (Ls' := #[.val (.int p1), .val (.int p2), .val (.int p3), .val (.int p4), .val (.int p5), .val (.int l1), .val (.int l2), .val (.int ((p3 &&& (255 : Int32)).toUInt32.toUInt16.toUInt32.toInt32)), .unset, .unset, .unset, .unset, .unset, .unset, .unset, .unset, .unset]) (st' := []) (fun _ kz => XS.istore X0.here hx rfl (hb hby at_37) rfl (l' := #[.val (.int p1), .val (.int p2), .val (.int p3), .val (.int p4), .val (.int p5), .val (.int l1), .val (.int l2), .val (.int ((p3 &&& (255 : Int32)).toUInt32.toUInt16.toUInt32.toInt32)), .unset, .unset, .unset, .unset, .unset, .unset, .unset, .unset, .unset]) rfl kz) ?_
    refine goS (n := 40) (Ls' := #[.val (.int p1), .val (.int p2), .val (.int p3), .val (.int p4), .val (.int p5), .val (.int l1), .val (.int l2), .val (.int ((p3 &&& (255 : Int32)).toUInt32.toUInt16.toUInt32.toInt32)), .unset, .unset, .unset, .unset, .unset, .unset, .unset, .unset, .unset]) (st' := [(.int p3)]) (fun _ kz => XS.iloadN X0.here hx rfl (hb hby at_39) rfl kz) ?_
    refine goS (n := 42) (Ls' := #[.val (.int p1), .val (.int p2), .val (.int p3), .val (.int p4), .val (.int p5), .val (.int l1), .val (.int l2), .val (.int ((p3 &&& (255 : Int32)).toUInt32.toUInt16.toUInt32.toInt32)), .unset, .unset, .unset, .unset, .unset, .unset, .unset, .unset, .unset]) (st' := [(.int (8 : Int32)), (.int p3)]) (fun _ kz => XS.bipush X0.here hx rfl (hb hby at_40) kz) ?_
    refine goS (n := 43) (Ls' := #[.val (.int p1), .val (.int p2), .val (.int p3), .val (.int p4), .val (.int p5), .val (.int l1), .val (.int l2), .val (.int ((p3 &&& (255 : Int32)).toUInt32.toUInt16.toUInt32.toInt32)), .unset, .unset, .unset, .unset, .unset, .unset, .unset, .unset, .unset]) (st' := [(.int ((p3.toUInt32 >>> ((8 : Int32) &&& 31).toUInt32).toInt32))]) (fun _ kz => XS.iushr X0.here hx rfl (hb hby at_42) rfl kz) ?_
    refine goS (n := 46) (Ls' := #[.val (.int p1), .val (.int p2), .val (.int p3), .val (.int p4), .val (.int p5), .val (.int l1), .val (.int l2), .val (.int ((p3 &&& (255 : Int32)).toUInt32.toUInt16.toUInt32.toInt32)), .unset, .unset, .unset, .unset, .unset, .unset, .unset, .unset, .unset]) (st' := [(.int (255 : Int32)), (.int ((p3.toUInt32 >>> ((8 : Int32) &&& 31).toUInt32).toInt32))]) (fun _ kz => XS.sipush X0.here hx rfl (hb hby at_43) kz) ?_
    refine goS (n := 47) (Ls' := #[.val (.int p1), .val (.int p2), .val (.int p3), .val (.int p4), .val (.int p5), .val (.int l1), .val (.int l2), .val (.int ((p3 &&& (255 : Int32)).toUInt32.toUInt16.toUInt32.toInt32)), .unset, .unset, .unset, .unset, .unset, .unset, .unset, .unset, .unset]) (st' := [(.int (((p3.toUInt32 >>> ((8 : Int32) &&& 31).toUInt32).toInt32) &&& (255 : Int32)))]) (fun _ kz => XS.iand X0.here hx rfl (hb hby at_46) rfl kz) ?_
    refine goS (n := 48) (Ls' := #[.val (.int p1), .val (.int p2), .val (.int p3), .val (.int p4), .val (.int p5), .val (.int l1), .val (.int l2), .val (.int ((p3 &&& (255 : Int32)).toUInt32.toUInt16.toUInt32.toInt32)), .unset, .unset, .unset, .unset, .unset, .unset, .unset, .unset, .unset]) (st' := [(.int ((((p3.toUInt32 >>> ((8 : Int32) &&& 31).toUInt32).toInt32) &&& (255 : Int32)).toUInt32.toUInt16.toUInt32.toInt32))]) (fun _ kz => XS.i2c X0.here hx rfl (hb hby at_47) rfl kz) ?_
    refine goS (n := 50) (Ls' := #[.val (.int p1), .val (.int p2), .val (.int p3), .val (.int p4), .val (.int p5), .val (.int l1), .val (.int l2), .val (.int ((p3 &&& (255 : Int32)).toUInt32.toUInt16.toUInt32.toInt32)), .val (.int ((((p3.toUInt32 >>> ((8 : Int32) &&& 31).toUInt32).toInt32) &&& (255 : Int32)).toUInt32.toUInt16.toUInt32.toInt32)), .unset, .unset, .unset, .unset, .unset, .unset, .unset, .unset]) (st' := []) (fun _ kz => XS.istore X0.here hx rfl (hb hby at_48) rfl (l' := #[.val (.int p1), .val (.int p2), .val (.int p3), .val (.int p4), .val (.int p5), .val (.int l1), .val (.int l2), .val (.int ((p3 &&& (255 : Int32)).toUInt32.toUInt16.toUInt32.toInt32)), .val (.int ((((p3.toUInt32 >>> ((8 : Int32) &&& 31).toUInt32).toInt32) &&& (255 : Int32)).toUInt32.toUInt16.toUInt32.toInt32)), .unset, .unset, .unset, .unset, .unset, .unset, .unset, .unset]) rfl kz) ?_
    obtain ⟨a0c, d_a0c⟩ : ∃ i : Int32, i = ((p3 &&& (255 : Int32)).toUInt32.toUInt16.toUInt32.toInt32) := ⟨_, rfl⟩
    rw [← d_a0c]
    have ra0c : (¬ a0c < 0 ∧ ¬ (255 : Int32) < a0c) := by rw [d_a0c]; exact own_cr _
    obtain ⟨a1c, d_a1c⟩ : ∃ i : Int32, i = ((((p3.toUInt32 >>> ((8 : Int32) &&& 31).toUInt32).toInt32) &&& (255 : Int32)).toUInt32.toUInt16.toUInt32.toInt32) := ⟨_, rfl⟩
    rw [← d_a1c]
    have ra1c : (¬ a1c < 0 ∧ ¬ (255 : Int32) < a1c) := by rw [d_a1c]; exact own_cr _
    refine goS (n := 52) (Ls' := #[.val (.int p1), .val (.int p2), .val (.int p3), .val (.int p4), .val (.int p5), .val (.int l1), .val (.int l2), .val (.int a0c), .val (.int a1c), .unset, .unset, .unset, .unset, .unset, .unset, .unset, .unset]) (st' := [(.int p5)]) (fun _ kz => XS.iload X0.here hx rfl (hb hby at_50) rfl kz) ?_
    refine goS (n := 53) (Ls' := #[.val (.int p1), .val (.int p2), .val (.int p3), .val (.int p4), .val (.int p5), .val (.int l1), .val (.int l2), .val (.int a0c), .val (.int a1c), .unset, .unset, .unset, .unset, .unset, .unset, .unset, .unset]) (st' := [(.int (4 : Int32)), (.int p5)]) (fun _ kz => XS.iconst X0.here hx rfl (hb hby at_52) kz) ?_
    refine goS (n := 54) (Ls' := #[.val (.int p1), .val (.int p2), .val (.int p3), .val (.int p4), .val (.int p5), .val (.int l1), .val (.int l2), .val (.int a0c), .val (.int a1c), .unset, .unset, .unset, .unset, .unset, .unset, .unset, .unset]) (st' := [(.int (p5 &&& (4 : Int32)))]) (fun _ kz => XS.iand X0.here hx rfl (hb hby at_53) rfl kz) ?_
    have jn2 : ∀ sm : Int32, sm = bi (¬ ((p5 &&& (4 : Int32)) = (0 : Int32))) → Go p e below (PQH Z own_EL s room_1.cells room_1.slots (Q_law Z p1 p2 p3 p4 p5 cs h0 n0)) s₁ (mkF m 62 #[.val (.int p1), .val (.int p2), .val (.int p3), .val (.int p4), .val (.int p5), .val (.int l1), .val (.int l2), .val (.int a0c), .val (.int a1c), .unset, .unset, .unset, .unset, .unset, .unset, .unset, .unset] [(.int sm)]) := by
      intro sm h_sm
      refine goS (n := 64) (Ls' := #[.val (.int p1), .val (.int p2), .val (.int p3), .val (.int p4), .val (.int p5), .val (.int l1), .val (.int l2), .val (.int a0c), .val (.int a1c), .val (.int sm), .unset, .unset, .unset, .unset, .unset, .unset, .unset]) (st' := []) (fun _ kz => XS.istore X0.here hx rfl (hb hby at_62) rfl (l' := #[.val (.int p1), .val (.int p2), .val (.int p3), .val (.int p4), .val (.int p5), .val (.int l1), .val (.int l2), .val (.int a0c), .val (.int a1c), .val (.int sm), .unset, .unset, .unset, .unset, .unset, .unset, .unset]) rfl kz) ?_
      refine goS (n := 66) (Ls' := #[.val (.int p1), .val (.int p2), .val (.int p3), .val (.int p4), .val (.int p5), .val (.int l1), .val (.int l2), .val (.int a0c), .val (.int a1c), .val (.int sm), .unset, .unset, .unset, .unset, .unset, .unset, .unset]) (st' := [(.int sm)]) (fun _ kz => XS.iload X0.here hx rfl (hb hby at_64) rfl kz) ?_
      have jn3 : ∀ b0c : Int32, ((¬ b0c < 0 ∧ ¬ (255 : Int32) < b0c)) → Go p e below (PQH Z own_EL s room_1.cells room_1.slots (Q_law Z p1 p2 p3 p4 p5 cs h0 n0)) s₁ (mkF m 80 #[.val (.int p1), .val (.int p2), .val (.int p3), .val (.int p4), .val (.int p5), .val (.int l1), .val (.int l2), .val (.int a0c), .val (.int a1c), .val (.int sm), .unset, .unset, .unset, .unset, .unset, .unset, .unset] [(.int b0c)]) := by
        intro b0c h_b0c
        refine goS (n := 82) (Ls' := #[.val (.int p1), .val (.int p2), .val (.int p3), .val (.int p4), .val (.int p5), .val (.int l1), .val (.int l2), .val (.int a0c), .val (.int a1c), .val (.int sm), .val (.int b0c), .unset, .unset, .unset, .unset, .unset, .unset]) (st' := []) (fun _ kz => XS.istore X0.here hx rfl (hb hby at_80) rfl (l' := #[.val (.int p1), .val (.int p2), .val (.int p3), .val (.int p4), .val (.int p5), .val (.int l1), .val (.int l2), .val (.int a0c), .val (.int a1c), .val (.int sm), .val (.int b0c), .unset, .unset, .unset, .unset, .unset, .unset]) rfl kz) ?_
        refine goS (n := 84) (Ls' := #[.val (.int p1), .val (.int p2), .val (.int p3), .val (.int p4), .val (.int p5), .val (.int l1), .val (.int l2), .val (.int a0c), .val (.int a1c), .val (.int sm), .val (.int b0c), .unset, .unset, .unset, .unset, .unset, .unset]) (st' := [(.int sm)]) (fun _ kz => XS.iload X0.here hx rfl (hb hby at_82) rfl kz) ?_
        have jn4 : ∀ b1c : Int32, ((¬ b1c < 0 ∧ ¬ (255 : Int32) < b1c)) → Go p e below (PQH Z own_EL s room_1.cells room_1.slots (Q_law Z p1 p2 p3 p4 p5 cs h0 n0)) s₁ (mkF m 101 #[.val (.int p1), .val (.int p2), .val (.int p3), .val (.int p4), .val (.int p5), .val (.int l1), .val (.int l2), .val (.int a0c), .val (.int a1c), .val (.int sm), .val (.int b0c), .unset, .unset, .unset, .unset, .unset, .unset] [(.int b1c)]) := by
          intro b1c h_b1c
          refine goS (n := 103) (Ls' := #[.val (.int p1), .val (.int p2), .val (.int p3), .val (.int p4), .val (.int p5), .val (.int l1), .val (.int l2), .val (.int a0c), .val (.int a1c), .val (.int sm), .val (.int b0c), .val (.int b1c), .unset, .unset, .unset, .unset, .unset]) (st' := []) (fun _ kz => XS.istore X0.here hx rfl (hb hby at_101) rfl (l' := #[.val (.int p1), .val (.int p2), .val (.int p3), .val (.int p4), .val (.int p5), .val (.int l1), .val (.int l2), .val (.int a0c), .val (.int a1c), .val (.int sm), .val (.int b0c), .val (.int b1c), .unset, .unset, .unset, .unset, .unset]) rfl kz) ?_
          refine goS (n := 105) (Ls' := #[.val (.int p1), .val (.int p2), .val (.int p3), .val (.int p4), .val (.int p5), .val (.int l1), .val (.int l2), .val (.int a0c), .val (.int a1c), .val (.int sm), .val (.int b0c), .val (.int b1c), .unset, .unset, .unset, .unset, .unset]) (st' := [(.int p5)]) (fun _ kz => XS.iload X0.here hx rfl (hb hby at_103) rfl kz) ?_
          refine goS (n := 107) (Ls' := #[.val (.int p1), .val (.int p2), .val (.int p3), .val (.int p4), .val (.int p5), .val (.int l1), .val (.int l2), .val (.int a0c), .val (.int a1c), .val (.int sm), .val (.int b0c), .val (.int b1c), .unset, .unset, .unset, .unset, .unset]) (st' := [(.int (64 : Int32)), (.int p5)]) (fun _ kz => XS.bipush X0.here hx rfl (hb hby at_105) kz) ?_
          refine goS (n := 108) (Ls' := #[.val (.int p1), .val (.int p2), .val (.int p3), .val (.int p4), .val (.int p5), .val (.int l1), .val (.int l2), .val (.int a0c), .val (.int a1c), .val (.int sm), .val (.int b0c), .val (.int b1c), .unset, .unset, .unset, .unset, .unset]) (st' := [(.int (p5 &&& (64 : Int32)))]) (fun _ kz => XS.iand X0.here hx rfl (hb hby at_107) rfl kz) ?_
          have jn5 : ∀ q2 : Int32, (True) → Go p e below (PQH Z own_EL s room_1.cells room_1.slots (Q_law Z p1 p2 p3 p4 p5 cs h0 n0)) s₁ (mkF m 116 #[.val (.int p1), .val (.int p2), .val (.int p3), .val (.int p4), .val (.int p5), .val (.int l1), .val (.int l2), .val (.int a0c), .val (.int a1c), .val (.int sm), .val (.int b0c), .val (.int b1c), .unset, .unset, .unset, .unset, .unset] [(.int q2)]) := by
            intro q2 h_q2
            refine goS (n := 118) (Ls' := #[.val (.int p1), .val (.int p2), .val (.int p3), .val (.int p4), .val (.int p5), .val (.int l1), .val (.int l2), .val (.int a0c), .val (.int a1c), .val (.int sm), .val (.int b0c), .val (.int b1c), .val (.int q2), .unset, .unset, .unset, .unset]) (st' := []) (fun _ kz => XS.istore X0.here hx rfl (hb hby at_116) rfl (l' := #[.val (.int p1), .val (.int p2), .val (.int p3), .val (.int p4), .val (.int p5), .val (.int l1), .val (.int l2), .val (.int a0c), .val (.int a1c), .val (.int sm), .val (.int b0c), .val (.int b1c), .val (.int q2), .unset, .unset, .unset, .unset]) rfl kz) ?_
            refine goS (n := 120) (Ls' := #[.val (.int p1), .val (.int p2), .val (.int p3), .val (.int p4), .val (.int p5), .val (.int l1), .val (.int l2), .val (.int a0c), .val (.int a1c), .val (.int sm), .val (.int b0c), .val (.int b1c), .val (.int q2), .unset, .unset, .unset, .unset]) (st' := [(.int p5)]) (fun _ kz => XS.iload X0.here hx rfl (hb hby at_118) rfl kz) ?_
            refine goS (n := 122) (Ls' := #[.val (.int p1), .val (.int p2), .val (.int p3), .val (.int p4), .val (.int p5), .val (.int l1), .val (.int l2), .val (.int a0c), .val (.int a1c), .val (.int sm), .val (.int b0c), .val (.int b1c), .val (.int q2), .unset, .unset, .unset, .unset]) (st' := [(.int (7 : Int32)), (.int p5)]) (fun _ kz => XS.bipush X0.here hx rfl (hb hby at_120) kz) ?_
            refine goS (n := 123) (Ls' := #[.val (.int p1), .val (.int p2), .val (.int p3), .val (.int p4), .val (.int p5), .val (.int l1), .val (.int l2), .val (.int a0c), .val (.int a1c), .val (.int sm), .val (.int b0c), .val (.int b1c), .val (.int q2), .unset, .unset, .unset, .unset]) (st' := [(.int ((p5.toUInt32 >>> ((7 : Int32) &&& 31).toUInt32).toInt32))]) (fun _ kz => XS.iushr X0.here hx rfl (hb hby at_122) rfl kz) ?_
            refine goS (n := 124) (Ls' := #[.val (.int p1), .val (.int p2), .val (.int p3), .val (.int p4), .val (.int p5), .val (.int l1), .val (.int l2), .val (.int a0c), .val (.int a1c), .val (.int sm), .val (.int b0c), .val (.int b1c), .val (.int q2), .unset, .unset, .unset, .unset]) (st' := [(.int (3 : Int32)), (.int ((p5.toUInt32 >>> ((7 : Int32) &&& 31).toUInt32).toInt32))]) (fun _ kz => XS.iconst X0.here hx rfl (hb hby at_123) kz) ?_
            refine goS (n := 125) (Ls' := #[.val (.int p1), .val (.int p2), .val (.int p3), .val (.int p4), .val (.int p5), .val (.int l1), .val (.int l2), .val (.int a0c), .val (.int a1c), .val (.int sm), .val (.int b0c), .val (.int b1c), .val (.int q2), .unset, .unset, .unset, .unset]) (st' := [(.int (((p5.toUInt32 >>> ((7 : Int32) &&& 31).toUInt32).toInt32) &&& (3 : Int32)))]) (fun _ kz => XS.iand X0.here hx rfl (hb hby at_124) rfl kz) ?_
            refine goS (n := 127) (Ls' := #[.val (.int p1), .val (.int p2), .val (.int p3), .val (.int p4), .val (.int p5), .val (.int l1), .val (.int l2), .val (.int a0c), .val (.int a1c), .val (.int sm), .val (.int b0c), .val (.int b1c), .val (.int q2), .val (.int (((p5.toUInt32 >>> ((7 : Int32) &&& 31).toUInt32).toInt32) &&& (3 : Int32))), .unset, .unset, .unset]) (st' := []) (fun _ kz => XS.istore X0.here hx rfl (hb hby at_125) rfl (l' := #[.val (.int p1), .val (.int p2), .val (.int p3), .val (.int p4), .val (.int p5), .val (.int l1), .val (.int l2), .val (.int a0c), .val (.int a1c), .val (.int sm), .val (.int b0c), .val (.int b1c), .val (.int q2), .val (.int (((p5.toUInt32 >>> ((7 : Int32) &&& 31).toUInt32).toInt32) &&& (3 : Int32))), .unset, .unset, .unset]) rfl kz) ?_
            obtain ⟨kd, d_kd⟩ : ∃ i : Int32, i = (((p5.toUInt32 >>> ((7 : Int32) &&& 31).toUInt32).toInt32) &&& (3 : Int32)) := ⟨_, rfl⟩
            rw [← d_kd]
            obtain ⟨T6, h6, X6, e6, E6, A6, D6, -, st6⟩ := newO X0 hx hZ hown (hw _ (List.mem_of_getElem? (i := 0) rfl)) (hw _ (List.mem_of_getElem? (i := 1) rfl)) (hw _ (List.mem_of_getElem? (i := 2) rfl)) e0 (g := (mkF m 127 #[.val (.int p1), .val (.int p2), .val (.int p3), .val (.int p4), .val (.int p5), .val (.int l1), .val (.int l2), .val (.int a0c), .val (.int a1c), .val (.int sm), .val (.int b0c), .val (.int b1c), .val (.int q2), .val (.int kd), .unset, .unset, .unset] [])) rfl (hb hby at_127) (by decide) (by decide)
            obtain ⟨b6, g6⟩ : ∃ z, z = h0.size := ⟨_, rfl⟩
            rw [← g6] at A6 D6 st6
            have g_b6 : n0 ≤ b6 := Nat.le_trans (O0.1 ▸ O0.2.1) (Nat.le_of_eq g6.symm)
            have SF_b6 : Safe Z own_EL s.vm h0 b6 := Safe.new (Nat.le_of_eq g6.symm)
            have hk := Nat.le_trans hk E6.1
            have SF_b6 := Safe.ext E6 hC.1 SF_b6
            have hC := hC.trans (CHr.ext E6 hC.1)
            have F_material_b6 : Fld Z h6 b6 "com/example/thingstead/thingstead/mimir/Treasure" "material" "Ljava/lang/String;" .null := D6 (Or.inr (hw _ (List.mem_of_getElem? (i := 39) rfl))) (ty := (.object "java/lang/String")) (by decide)
            have F_points_b6 : Fld Z h6 b6 "com/example/thingstead/thingstead/mimir/Treasure" "points" "I" (.int (0 : Int32)) := D6 (Or.inr (hw _ (List.mem_of_getElem? (i := 41) rfl))) (ty := .int) (by decide)
            have E_b6 : Exa Z h6 b6 "com/example/thingstead/thingstead/mimir/Treasure" := A6
            have O6 := O0.ext E6
            refine goS (n := 130) (Ls' := #[.val (.int p1), .val (.int p2), .val (.int p3), .val (.int p4), .val (.int p5), .val (.int l1), .val (.int l2), .val (.int a0c), .val (.int a1c), .val (.int sm), .val (.int b0c), .val (.int b1c), .val (.int q2), .val (.int kd), .unset, .unset, .unset]) (st' := [(.ref b6)]) st6 ?_
            refine goS (n := 131) (Ls' := #[.val (.int p1), .val (.int p2), .val (.int p3), .val (.int p4), .val (.int p5), .val (.int l1), .val (.int l2), .val (.int a0c), .val (.int a1c), .val (.int sm), .val (.int b0c), .val (.int b1c), .val (.int q2), .val (.int kd), .unset, .unset, .unset]) (st' := [(.ref b6), (.ref b6)]) (fun _ kz => XS.dup X6.here hx rfl (hb hby at_130) rfl rfl kz) ?_
            refine goS (n := 133) (Ls' := #[.val (.int p1), .val (.int p2), .val (.int p3), .val (.int p4), .val (.int p5), .val (.int l1), .val (.int l2), .val (.int a0c), .val (.int a1c), .val (.int sm), .val (.int b0c), .val (.int b1c), .val (.int q2), .val (.int kd), .unset, .unset, .unset]) (st' := [(.int l1), (.ref b6), (.ref b6)]) (fun _ kz => XS.iload X6.here hx rfl (hb hby at_131) rfl kz) ?_
            refine goS (n := 135) (Ls' := #[.val (.int p1), .val (.int p2), .val (.int p3), .val (.int p4), .val (.int p5), .val (.int l1), .val (.int l2), .val (.int a0c), .val (.int a1c), .val (.int sm), .val (.int b0c), .val (.int b1c), .val (.int q2), .val (.int kd), .unset, .unset, .unset]) (st' := [(.int a0c), (.int l1), (.ref b6), (.ref b6)]) (fun _ kz => XS.iload X6.here hx rfl (hb hby at_133) rfl kz) ?_
            refine goS (n := 137) (Ls' := #[.val (.int p1), .val (.int p2), .val (.int p3), .val (.int p4), .val (.int p5), .val (.int l1), .val (.int l2), .val (.int a0c), .val (.int a1c), .val (.int sm), .val (.int b0c), .val (.int b1c), .val (.int q2), .val (.int kd), .unset, .unset, .unset]) (st' := [(.int a1c), (.int a0c), (.int l1), (.ref b6), (.ref b6)]) (fun _ kz => XS.iload X6.here hx rfl (hb hby at_135) rfl kz) ?_
            obtain ⟨vr7, _, ⟨T7, L7, k7, n7⟩, -, X7, hS7, hgr7, ⟨Lc7, hQ7, l7, y7, z7, hCr7⟩, st7⟩ := callSS X6 hx (y := (⟨"com/example/thingstead/thingstead/mimir/TreasureEqualsPinLaw", "mk", "(ICC)Ljava/lang/String;"⟩ : MethodName)) hown (mvT hZ (hw _ (List.mem_of_getElem? (i := 3) rfl))) (mvT hZ (hw _ (List.mem_of_getElem? (i := 4) rfl))) (mvT hZ (hw _ (List.mem_of_getElem? (i := 5) rfl))) (mvT hZ (hw _ (List.mem_of_getElem? (i := 6) rfl))) (by decide) (backOfSH (W := 2) (rm_mk l Z a0 hw [] l1 a0c a1c cs h6 n0 O6 S_CS hcs ra0c ra1c) hZ (hw _ (List.mem_of_getElem? (i := 6) rfl)) (hw _ (List.mem_of_getElem? (i := 5) rfl)) (by decide) (by decide) hEL hC.1) (g := (mkF m 137 #[.val (.int p1), .val (.int p2), .val (.int p3), .val (.int p4), .val (.int p5), .val (.int l1), .val (.int l2), .val (.int a0c), .val (.int a1c), .val (.int sm), .val (.int b0c), .val (.int b1c), .val (.int q2), .val (.int kd), .unset, .unset, .unset] [(.int a1c), (.int a0c), (.int l1), (.ref b6), (.ref b6)])) rfl (by rw [hml]; rfl) (argsL := [(.int l1), (.int a0c), (.int a1c)]) (rest := [(.ref b6), (.ref b6)]) (lenOf pd_4 rfl) rfl (by show 2 * 0 + _ ≤ _; exact Nat.le_of_eq rfl) (hb hby at_137) (fun _ _ => ⟨rfl, e6, (Nat.le_of_ble_eq_true rfl), (Nat.le_of_ble_eq_true rfl)⟩)
            dsimp only [Pt.U, Pt.locs, Pt.cells, Pt.slots] at X7 l7 y7 z7 st7 hQ7 hS7 hgr7 hCr7
            subst l7 y7 z7
            obtain ⟨X7, hS, hZ, hown⟩ := rebS hS (n1 := T6.heap.size) (by rw [e6]; exact hk) X7 hS7 hgr7 hZ hown
            have hk : T7.heap.size ≤ T7.heap.size := Nat.le_refl _
            obtain ⟨a7, t7, kt7, rfl, N7q, K7, g_a7, za7, E_a7, F_value_a7, F_coder_a7, V_t7⟩ := hQ7
            have ne_b6_a7 : b6 ≠ a7 := Nat.ne_of_lt (Nat.lt_of_lt_of_le E_b6.lt za7)
            have N7 := Fr.app N0 N7q
            have e7 : T7.heap = T7.heap := rfl
            have O7 := O6.keep K7 all0
            have SF_b6 := CHr.safe hCr7 E_b6.lt SF_b6
            have hC := hC.trans hCr7
            have F_material_b6 : Fld Z T7.heap b6 "com/example/thingstead/thingstead/mimir/Treasure" "material" "Ljava/lang/String;" .null := F_material_b6.keep K7 nin0
            have F_points_b6 : Fld Z T7.heap b6 "com/example/thingstead/thingstead/mimir/Treasure" "points" "I" (.int (0 : Int32)) := F_points_b6.keep K7 nin0
            have E_b6 : Exa Z T7.heap b6 "com/example/thingstead/thingstead/mimir/Treasure" := E_b6.keep K7
            refine goT (n := 140) (Ls' := #[.val (.int p1), .val (.int p2), .val (.int p3), .val (.int p4), .val (.int p5), .val (.int l1), .val (.int l2), .val (.int a0c), .val (.int a1c), .val (.int sm), .val (.int b0c), .val (.int b1c), .val (.int q2), .val (.int kd), .unset, .unset, .unset]) (st' := [(.ref a7), (.ref b6), (.ref b6)]) st7 ?_
            refine goS (n := 141) (Ls' := #[.val (.int p1), .val (.int p2), .val (.int p3), .val (.int p4), .val (.int p5), .val (.int l1), .val (.int l2), .val (.int a0c), .val (.int a1c), .val (.int sm), .val (.int b0c), .val (.int b1c), .val (.int q2), .val (.int kd), .unset, .unset, .unset]) (st' := [(.int p1), (.ref a7), (.ref b6), (.ref b6)]) (fun _ kz => XS.iloadN X7.here hx rfl (hb hby at_140) rfl kz) ?_
            have ne9 : b6 ≠ t7 := neEA E_b6 (hw _ (List.mem_of_getElem? (i := 1) rfl)) V_t7
            obtain ⟨vr8, _, ⟨T8, L8, k8, n8⟩, -, X8, ⟨Lc8, hQ8, l8, y8, z8⟩, st8⟩ := X7.specialBack hx (y := (⟨"com/example/thingstead/thingstead/mimir/Treasure", "<init>", "(Ljava/lang/String;I)V"⟩ : MethodName)) rfl hown (mvT hZ (hw _ (List.mem_of_getElem? (i := 29) rfl))) (mvT hZ (hw _ (List.mem_of_getElem? (i := 30) rfl))) (mvT hZ (hw _ (List.mem_of_getElem? (i := 31) rfl))) (by decide) (backOf (W := 1) (rm_init l Z a0 hw [] b6 a7 p1 T7.heap n0 O7 E_b6 F_material_b6 F_points_b6 g_b6) hZ (hw _ (List.mem_of_getElem? (i := 31) rfl)) (hw _ (List.mem_of_getElem? (i := 2) rfl)) (by decide) (by decide)) (g := (mkF m 141 #[.val (.int p1), .val (.int p2), .val (.int p3), .val (.int p4), .val (.int p5), .val (.int l1), .val (.int l2), .val (.int a0c), .val (.int a1c), .val (.int sm), .val (.int b0c), .val (.int b1c), .val (.int q2), .val (.int kd), .unset, .unset, .unset] [(.int p1), (.ref a7), (.ref b6), (.ref b6)])) rfl (by rw [hml]; rfl) (Steps.refl _) (a := b6) (argsL := [(.ref a7), (.int p1)]) (rest := [(.ref b6)]) (lenOf pd_5 rfl) rfl (by show 2 * 0 + _ ≤ _; exact Nat.le_of_eq rfl) (hb hby at_141) (fun _ _ => ⟨rfl, e7, (Nat.le_of_ble_eq_true rfl), (Nat.le_of_ble_eq_true rfl)⟩)
            dsimp only [Pt.U, Pt.locs, Pt.cells, Pt.slots] at X8 l8 y8 z8 st8 hQ8
            subst l8 y8 z8
            obtain ⟨rfl, N8q, K8, F_material_b6, F_points_b6⟩ := hQ8
            have N8 := Fr.app N7 N8q
            have e8 : T8.heap = T8.heap := rfl
            have O8 := O7.keep K8 (allS g_b6 all0)
            have hk := Nat.le_trans hk K8.1
            have sfw : ∀ x ∈ [b6], Safe Z own_EL T7.vm T7.heap x := (sfS SF_b6 sf0)
            have SF_b6 := Safe.keep K8 sfw hC.1 SF_b6
            have hC := hC.trans (CHr.keep K8 sfw hC.1)
            have E_b6 : Exa Z T8.heap b6 "com/example/thingstead/thingstead/mimir/Treasure" := E_b6.keep K8
            have E_a7 : Exa Z T8.heap a7 "java/lang/String" := E_a7.keep K8
            have F_value_a7 : Fld Z T8.heap a7 "java/lang/String" "value" "[B" (.ref t7) := F_value_a7.keep K8 (ninS (Ne.symm ne_b6_a7) nin0)
            have F_coder_a7 : Fld Z T8.heap a7 "java/lang/String" "coder" "B" (.int (0 : Int32)) := F_coder_a7.keep K8 (ninS (Ne.symm ne_b6_a7) nin0)
            have V_t7 : Arv Z T8.heap t7 kt7 .byte (Int32.ofNat (List.length (own_mk l1 a0c a1c))) ((List.map (fun c : Int32 => c.toInt8.toInt32) (own_mk l1 a0c a1c)).map Value.int) (.int (0 : Int32)) := V_t7.keep K8 (ninS (Ne.symm ne9) nin0)
            refine goT (n := 144) (Ls' := #[.val (.int p1), .val (.int p2), .val (.int p3), .val (.int p4), .val (.int p5), .val (.int l1), .val (.int l2), .val (.int a0c), .val (.int a1c), .val (.int sm), .val (.int b0c), .val (.int b1c), .val (.int q2), .val (.int kd), .unset, .unset, .unset]) (st' := [(.ref b6)]) st8 ?_
            refine goS (n := 146) (Ls' := #[.val (.int p1), .val (.int p2), .val (.int p3), .val (.int p4), .val (.int p5), .val (.int l1), .val (.int l2), .val (.int a0c), .val (.int a1c), .val (.int sm), .val (.int b0c), .val (.int b1c), .val (.int q2), .val (.int kd), .val (.ref b6), .unset, .unset]) (st' := []) (fun _ kz => XS.astore X8.here hx rfl (hb hby at_144) rfl rfl (l' := #[.val (.int p1), .val (.int p2), .val (.int p3), .val (.int p4), .val (.int p5), .val (.int l1), .val (.int l2), .val (.int a0c), .val (.int a1c), .val (.int sm), .val (.int b0c), .val (.int b1c), .val (.int q2), .val (.int kd), .val (.ref b6), .unset, .unset]) rfl kz) ?_
            refine goS (n := 148) (Ls' := #[.val (.int p1), .val (.int p2), .val (.int p3), .val (.int p4), .val (.int p5), .val (.int l1), .val (.int l2), .val (.int a0c), .val (.int a1c), .val (.int sm), .val (.int b0c), .val (.int b1c), .val (.int q2), .val (.int kd), .val (.ref b6), .unset, .unset]) (st' := [(.int kd)]) (fun _ kz => XS.iload X8.here hx rfl (hb hby at_146) rfl kz) ?_
            refine goS (n := 149) (Ls' := #[.val (.int p1), .val (.int p2), .val (.int p3), .val (.int p4), .val (.int p5), .val (.int l1), .val (.int l2), .val (.int a0c), .val (.int a1c), .val (.int sm), .val (.int b0c), .val (.int b1c), .val (.int q2), .val (.int kd), .val (.ref b6), .unset, .unset]) (st' := [(.int (1 : Int32)), (.int kd)]) (fun _ kz => XS.iconst X8.here hx rfl (hb hby at_148) kz) ?_
            by_cases hc10 : kd = (1 : Int32)
            · refine goS (n := 152) (Ls' := #[.val (.int p1), .val (.int p2), .val (.int p3), .val (.int p4), .val (.int p5), .val (.int l1), .val (.int l2), .val (.int a0c), .val (.int a1c), .val (.int sm), .val (.int b0c), .val (.int b1c), .val (.int q2), .val (.int kd), .val (.ref b6), .unset, .unset]) (st' := []) (fun _ kz => XS.icmpNo X8.here hx rfl (hb hby at_149) rfl (teq hc10).2 kz) ?_
              refine goS (n := 154) (Ls' := #[.val (.int p1), .val (.int p2), .val (.int p3), .val (.int p4), .val (.int p5), .val (.int l1), .val (.int l2), .val (.int a0c), .val (.int a1c), .val (.int sm), .val (.int b0c), .val (.int b1c), .val (.int q2), .val (.int kd), .val (.ref b6), .unset, .unset]) (st' := [(.ref b6)]) (fun _ kz => XS.aload X8.here hx rfl (hb hby at_152) rfl rfl kz) ?_
              refine goS (n := 155) (Ls' := #[.val (.int p1), .val (.int p2), .val (.int p3), .val (.int p4), .val (.int p5), .val (.int l1), .val (.int l2), .val (.int a0c), .val (.int a1c), .val (.int sm), .val (.int b0c), .val (.int b1c), .val (.int q2), .val (.int kd), .val (.ref b6), .unset, .unset]) (st' := [.null, (.ref b6)]) (fun _ kz => XS.aconstNull X8.here hx rfl (hb hby at_154) kz) ?_
              obtain ⟨cq11, kq11, q11a, q11b, q11c⟩ := isOf hZ e8 E_b6
              obtain ⟨vr11, _, ⟨T11, L11, k11, n11⟩, -, X11, ⟨Lc11, hQ11, l11, y11, z11⟩, st11⟩ := X8.virtualBack hx (y := (⟨"com/example/thingstead/thingstead/mimir/Treasure", "equals", "(Ljava/lang/Object;)Z"⟩ : MethodName)) (z := (⟨"com/example/thingstead/thingstead/mimir/Treasure", "equals", "(Ljava/lang/Object;)Z"⟩ : MethodName)) hown (mvT hZ (hw _ (List.mem_of_getElem? (i := 42) rfl))) (mvT hZ (hw _ (List.mem_of_getElem? (i := 43) rfl))) (notFace_of_selects (args := #[]) (mvT hZ (hw _ (List.mem_of_getElem? (i := 45) rfl)))) (mvT hZ (hw _ (List.mem_of_getElem? (i := 45) rfl))) (mvT hZ (hw _ (List.mem_of_getElem? (i := 44) rfl))) (by decide) (backOf (W := 0) (rm_eqN l Z a0 hw [] b6 T8.heap n0 O8) hZ (hw _ (List.mem_of_getElem? (i := 46) rfl)) (hw _ (List.mem_of_getElem? (i := 2) rfl)) (by decide) (by decide)) q11a q11c (g := (mkF m 155 #[.val (.int p1), .val (.int p2), .val (.int p3), .val (.int p4), .val (.int p5), .val (.int l1), .val (.int l2), .val (.int a0c), .val (.int a1c), .val (.int sm), .val (.int b0c), .val (.int b1c), .val (.int q2), .val (.int kd), .val (.ref b6), .unset, .unset] [.null, (.ref b6)])) rfl (by rw [hml]; rfl) (Steps.refl _) (argsL := [.null]) (rest := []) (lenOf pd_3 rfl) rfl (by show 2 * 0 + _ ≤ _; exact Nat.le_of_eq rfl) (hb hby at_155) (fun _ _ => ⟨rfl, e8, (Nat.le_of_ble_eq_true rfl), (Nat.le_of_ble_eq_true rfl)⟩)
              dsimp only [Pt.U, Pt.locs, Pt.cells, Pt.slots] at X11 l11 y11 z11 st11 hQ11
              subst l11 y11 z11
              obtain ⟨rfl, N11q, e11⟩ := hQ11
              have N11 := Fr.app N8 N11q
              refine goT (n := 158) (Ls' := #[.val (.int p1), .val (.int p2), .val (.int p3), .val (.int p4), .val (.int p5), .val (.int l1), .val (.int l2), .val (.int a0c), .val (.int a1c), .val (.int sm), .val (.int b0c), .val (.int b1c), .val (.int q2), .val (.int kd), .val (.ref b6), .unset, .unset]) (st' := [(.int (0 : Int32))]) st11 ?_
              refine goS (n := 161) (Ls' := #[.val (.int p1), .val (.int p2), .val (.int p3), .val (.int p4), .val (.int p5), .val (.int l1), .val (.int l2), .val (.int a0c), .val (.int a1c), .val (.int sm), .val (.int b0c), .val (.int b1c), .val (.int q2), .val (.int kd), .val (.ref b6), .unset, .unset]) (st' := []) (fun _ kz => XS.ifNo X11.here hx rfl (hb hby at_158) rfl (by decide) kz) ?_
              refine goS (n := 162) (Ls' := #[.val (.int p1), .val (.int p2), .val (.int p3), .val (.int p4), .val (.int p5), .val (.int l1), .val (.int l2), .val (.int a0c), .val (.int a1c), .val (.int sm), .val (.int b0c), .val (.int b1c), .val (.int q2), .val (.int kd), .val (.ref b6), .unset, .unset]) (st' := [(.int (1 : Int32))]) (fun _ kz => XS.iconst X11.here hx rfl (hb hby at_161) kz) ?_
              refine goS (n := 166) (Ls' := #[.val (.int p1), .val (.int p2), .val (.int p3), .val (.int p4), .val (.int p5), .val (.int l1), .val (.int l2), .val (.int a0c), .val (.int a1c), .val (.int sm), .val (.int b0c), .val (.int b1c), .val (.int q2), .val (.int kd), .val (.ref b6), .unset, .unset]) (st' := [(.int (1 : Int32))]) (fun _ kz => XS.goto X11.here hx rfl (pc0 := 162) (pc' := 166) rfl (hb hby at_162) (by decide) (by decide) kz) ?_
              exact goRetH X11 hx hlk hS (by rw [e11]; exact hk) hZ hEL (by rw [hh, e11]; exact hC) Bd.returns (narZ (Or.inr rfl)) (Or.inl ⟨rfl, Or.inr (Or.inl rfl), _, rfl⟩) (hb hby at_166) (by decide) (by decide) (by rw [e11]; exact ⟨rfl, N11⟩)
            · refine goS (n := 167) (Ls' := #[.val (.int p1), .val (.int p2), .val (.int p3), .val (.int p4), .val (.int p5), .val (.int l1), .val (.int l2), .val (.int a0c), .val (.int a1c), .val (.int sm), .val (.int b0c), .val (.int b1c), .val (.int q2), .val (.int kd), .val (.ref b6), .unset, .unset]) (st' := []) (fun _ kz => XS.icmpYes X8.here hx rfl (pc0 := 149) (pc' := 167) rfl (hb hby at_149) rfl (feq hc10).2 (by decide) (by decide) kz) ?_
              refine goS (n := 169) (Ls' := #[.val (.int p1), .val (.int p2), .val (.int p3), .val (.int p4), .val (.int p5), .val (.int l1), .val (.int l2), .val (.int a0c), .val (.int a1c), .val (.int sm), .val (.int b0c), .val (.int b1c), .val (.int q2), .val (.int kd), .val (.ref b6), .unset, .unset]) (st' := [(.int kd)]) (fun _ kz => XS.iload X8.here hx rfl (hb hby at_167) rfl kz) ?_
              refine goS (n := 170) (Ls' := #[.val (.int p1), .val (.int p2), .val (.int p3), .val (.int p4), .val (.int p5), .val (.int l1), .val (.int l2), .val (.int a0c), .val (.int a1c), .val (.int sm), .val (.int b0c), .val (.int b1c), .val (.int q2), .val (.int kd), .val (.ref b6), .unset, .unset]) (st' := [(.int (2 : Int32)), (.int kd)]) (fun _ kz => XS.iconst X8.here hx rfl (hb hby at_169) kz) ?_
              by_cases hc12 : kd = (2 : Int32)
              · refine goS (n := 173) (Ls' := #[.val (.int p1), .val (.int p2), .val (.int p3), .val (.int p4), .val (.int p5), .val (.int l1), .val (.int l2), .val (.int a0c), .val (.int a1c), .val (.int sm), .val (.int b0c), .val (.int b1c), .val (.int q2), .val (.int kd), .val (.ref b6), .unset, .unset]) (st' := []) (fun _ kz => XS.icmpNo X8.here hx rfl (hb hby at_170) rfl (teq hc12).2 kz) ?_
                refine goS (n := 175) (Ls' := #[.val (.int p1), .val (.int p2), .val (.int p3), .val (.int p4), .val (.int p5), .val (.int l1), .val (.int l2), .val (.int a0c), .val (.int a1c), .val (.int sm), .val (.int b0c), .val (.int b1c), .val (.int q2), .val (.int kd), .val (.ref b6), .unset, .unset]) (st' := [(.int l1)]) (fun _ kz => XS.iload X8.here hx rfl (hb hby at_173) rfl kz) ?_
                refine goS (n := 177) (Ls' := #[.val (.int p1), .val (.int p2), .val (.int p3), .val (.int p4), .val (.int p5), .val (.int l1), .val (.int l2), .val (.int a0c), .val (.int a1c), .val (.int sm), .val (.int b0c), .val (.int b1c), .val (.int q2), .val (.int kd), .val (.ref b6), .unset, .unset]) (st' := [(.int a0c), (.int l1)]) (fun _ kz => XS.iload X8.here hx rfl (hb hby at_175) rfl kz) ?_
                refine goS (n := 179) (Ls' := #[.val (.int p1), .val (.int p2), .val (.int p3), .val (.int p4), .val (.int p5), .val (.int l1), .val (.int l2), .val (.int a0c), .val (.int a1c), .val (.int sm), .val (.int b0c), .val (.int b1c), .val (.int q2), .val (.int kd), .val (.ref b6), .unset, .unset]) (st' := [(.int a1c), (.int a0c), (.int l1)]) (fun _ kz => XS.iload X8.here hx rfl (hb hby at_177) rfl kz) ?_
                obtain ⟨vr13, _, ⟨T13, L13, k13, n13⟩, -, X13, hS13, hgr13, ⟨Lc13, hQ13, l13, y13, z13, hCr13⟩, st13⟩ := callSS X8 hx (y := (⟨"com/example/thingstead/thingstead/mimir/TreasureEqualsPinLaw", "mk", "(ICC)Ljava/lang/String;"⟩ : MethodName)) hown (mvT hZ (hw _ (List.mem_of_getElem? (i := 3) rfl))) (mvT hZ (hw _ (List.mem_of_getElem? (i := 4) rfl))) (mvT hZ (hw _ (List.mem_of_getElem? (i := 5) rfl))) (mvT hZ (hw _ (List.mem_of_getElem? (i := 6) rfl))) (by decide) (backOfSH (W := 0) (rm_mk l Z a0 hw [] l1 a0c a1c cs T8.heap n0 O8 S_CS hcs ra0c ra1c) hZ (hw _ (List.mem_of_getElem? (i := 6) rfl)) (hw _ (List.mem_of_getElem? (i := 5) rfl)) (by decide) (by decide) hEL hC.1) (g := (mkF m 179 #[.val (.int p1), .val (.int p2), .val (.int p3), .val (.int p4), .val (.int p5), .val (.int l1), .val (.int l2), .val (.int a0c), .val (.int a1c), .val (.int sm), .val (.int b0c), .val (.int b1c), .val (.int q2), .val (.int kd), .val (.ref b6), .unset, .unset] [(.int a1c), (.int a0c), (.int l1)])) rfl (by rw [hml]; rfl) (argsL := [(.int l1), (.int a0c), (.int a1c)]) (rest := []) (lenOf pd_4 rfl) rfl (by show 2 * 0 + _ ≤ _; exact Nat.le_of_eq rfl) (hb hby at_179) (fun _ _ => ⟨rfl, e8, (Nat.le_of_ble_eq_true rfl), (Nat.le_of_ble_eq_true rfl)⟩)
                dsimp only [Pt.U, Pt.locs, Pt.cells, Pt.slots] at X13 l13 y13 z13 st13 hQ13 hS13 hgr13 hCr13
                subst l13 y13 z13
                obtain ⟨X13, hS, hZ, hown⟩ := rebS hS (n1 := T8.heap.size) (by rw [e8]; exact hk) X13 hS13 hgr13 hZ hown
                have hk : T13.heap.size ≤ T13.heap.size := Nat.le_refl _
                obtain ⟨a13, t13, kt13, rfl, N13q, K13, g_a13, za13, E_a13, F_value_a13, F_coder_a13, V_t13⟩ := hQ13
                have ne_b6_a13 : b6 ≠ a13 := Nat.ne_of_lt (Nat.lt_of_lt_of_le E_b6.lt za13)
                have ne_a7_a13 : a7 ≠ a13 := Nat.ne_of_lt (Nat.lt_of_lt_of_le E_a7.lt za13)
                have ne_t7_a13 : t7 ≠ a13 := Nat.ne_of_lt (Nat.lt_of_lt_of_le V_t7.lt za13)
                have N13 := Fr.app N8 N13q
                have e13 : T13.heap = T13.heap := rfl
                have O13 := O8.keep K13 all0
                have SF_b6 := CHr.safe hCr13 E_b6.lt SF_b6
                have hC := hC.trans hCr13
                have E_b6 : Exa Z T13.heap b6 "com/example/thingstead/thingstead/mimir/Treasure" := E_b6.keep K13
                have E_a7 : Exa Z T13.heap a7 "java/lang/String" := E_a7.keep K13
                have F_value_a7 : Fld Z T13.heap a7 "java/lang/String" "value" "[B" (.ref t7) := F_value_a7.keep K13 nin0
                have F_coder_a7 : Fld Z T13.heap a7 "java/lang/String" "coder" "B" (.int (0 : Int32)) := F_coder_a7.keep K13 nin0
                have V_t7 : Arv Z T13.heap t7 kt7 .byte (Int32.ofNat (List.length (own_mk l1 a0c a1c))) ((List.map (fun c : Int32 => c.toInt8.toInt32) (own_mk l1 a0c a1c)).map Value.int) (.int (0 : Int32)) := V_t7.keep K13 nin0
                have F_material_b6 : Fld Z T13.heap b6 "com/example/thingstead/thingstead/mimir/Treasure" "material" "Ljava/lang/String;" (.ref a7) := F_material_b6.keep K13 nin0
                have F_points_b6 : Fld Z T13.heap b6 "com/example/thingstead/thingstead/mimir/Treasure" "points" "I" (.int p1) := F_points_b6.keep K13 nin0
                refine goT (n := 182) (Ls' := #[.val (.int p1), .val (.int p2), .val (.int p3), .val (.int p4), .val (.int p5), .val (.int l1), .val (.int l2), .val (.int a0c), .val (.int a1c), .val (.int sm), .val (.int b0c), .val (.int b1c), .val (.int q2), .val (.int kd), .val (.ref b6), .unset, .unset]) (st' := [(.ref a13)]) st13 ?_
                refine goS (n := 184) (Ls' := #[.val (.int p1), .val (.int p2), .val (.int p3), .val (.int p4), .val (.int p5), .val (.int l1), .val (.int l2), .val (.int a0c), .val (.int a1c), .val (.int sm), .val (.int b0c), .val (.int b1c), .val (.int q2), .val (.int kd), .val (.ref b6), .val (.ref a13), .unset]) (st' := []) (fun _ kz => XS.astore X13.here hx rfl (hb hby at_182) rfl rfl (l' := #[.val (.int p1), .val (.int p2), .val (.int p3), .val (.int p4), .val (.int p5), .val (.int l1), .val (.int l2), .val (.int a0c), .val (.int a1c), .val (.int sm), .val (.int b0c), .val (.int b1c), .val (.int q2), .val (.int kd), .val (.ref b6), .val (.ref a13), .unset]) rfl kz) ?_
                refine goS (n := 186) (Ls' := #[.val (.int p1), .val (.int p2), .val (.int p3), .val (.int p4), .val (.int p5), .val (.int l1), .val (.int l2), .val (.int a0c), .val (.int a1c), .val (.int sm), .val (.int b0c), .val (.int b1c), .val (.int q2), .val (.int kd), .val (.ref b6), .val (.ref a13), .unset]) (st' := [(.ref b6)]) (fun _ kz => XS.aload X13.here hx rfl (hb hby at_184) rfl rfl kz) ?_
                refine goS (n := 188) (Ls' := #[.val (.int p1), .val (.int p2), .val (.int p3), .val (.int p4), .val (.int p5), .val (.int l1), .val (.int l2), .val (.int a0c), .val (.int a1c), .val (.int sm), .val (.int b0c), .val (.int b1c), .val (.int q2), .val (.int kd), .val (.ref b6), .val (.ref a13), .unset]) (st' := [(.ref a13), (.ref b6)]) (fun _ kz => XS.aload X13.here hx rfl (hb hby at_186) rfl rfl kz) ?_
                obtain ⟨cq14, kq14, q14a, q14b, q14c⟩ := isOf hZ e13 E_b6
                obtain ⟨vr14, _, ⟨T14, L14, k14, n14⟩, -, X14, ⟨Lc14, hQ14, l14, y14, z14⟩, st14⟩ := X13.virtualBack hx (y := (⟨"com/example/thingstead/thingstead/mimir/Treasure", "equals", "(Ljava/lang/Object;)Z"⟩ : MethodName)) (z := (⟨"com/example/thingstead/thingstead/mimir/Treasure", "equals", "(Ljava/lang/Object;)Z"⟩ : MethodName)) hown (mvT hZ (hw _ (List.mem_of_getElem? (i := 42) rfl))) (mvT hZ (hw _ (List.mem_of_getElem? (i := 43) rfl))) (notFace_of_selects (args := #[]) (mvT hZ (hw _ (List.mem_of_getElem? (i := 45) rfl)))) (mvT hZ (hw _ (List.mem_of_getElem? (i := 45) rfl))) (mvT hZ (hw _ (List.mem_of_getElem? (i := 44) rfl))) (by decide) (backOf (W := 0) (rm_eqS l Z a0 hw [] b6 a13 T13.heap n0 O13 E_a13) hZ (hw _ (List.mem_of_getElem? (i := 46) rfl)) (hw _ (List.mem_of_getElem? (i := 2) rfl)) (by decide) (by decide)) q14a q14c (g := (mkF m 188 #[.val (.int p1), .val (.int p2), .val (.int p3), .val (.int p4), .val (.int p5), .val (.int l1), .val (.int l2), .val (.int a0c), .val (.int a1c), .val (.int sm), .val (.int b0c), .val (.int b1c), .val (.int q2), .val (.int kd), .val (.ref b6), .val (.ref a13), .unset] [(.ref a13), (.ref b6)])) rfl (by rw [hml]; rfl) (Steps.refl _) (argsL := [(.ref a13)]) (rest := []) (lenOf pd_3 rfl) rfl (by show 2 * 0 + _ ≤ _; exact Nat.le_of_eq rfl) (hb hby at_188) (fun _ _ => ⟨rfl, e13, (Nat.le_of_ble_eq_true rfl), (Nat.le_of_ble_eq_true rfl)⟩)
                dsimp only [Pt.U, Pt.locs, Pt.cells, Pt.slots] at X14 l14 y14 z14 st14 hQ14
                subst l14 y14 z14
                obtain ⟨rfl, N14q, e14⟩ := hQ14
                have N14 := Fr.app N13 N14q
                refine goT (n := 191) (Ls' := #[.val (.int p1), .val (.int p2), .val (.int p3), .val (.int p4), .val (.int p5), .val (.int l1), .val (.int l2), .val (.int a0c), .val (.int a1c), .val (.int sm), .val (.int b0c), .val (.int b1c), .val (.int q2), .val (.int kd), .val (.ref b6), .val (.ref a13), .unset]) (st' := [(.int (0 : Int32))]) st14 ?_
                refine goS (n := 194) (Ls' := #[.val (.int p1), .val (.int p2), .val (.int p3), .val (.int p4), .val (.int p5), .val (.int l1), .val (.int l2), .val (.int a0c), .val (.int a1c), .val (.int sm), .val (.int b0c), .val (.int b1c), .val (.int q2), .val (.int kd), .val (.ref b6), .val (.ref a13), .unset]) (st' := []) (fun _ kz => XS.ifNo X14.here hx rfl (hb hby at_191) rfl (by decide) kz) ?_
                refine goS (n := 195) (Ls' := #[.val (.int p1), .val (.int p2), .val (.int p3), .val (.int p4), .val (.int p5), .val (.int l1), .val (.int l2), .val (.int a0c), .val (.int a1c), .val (.int sm), .val (.int b0c), .val (.int b1c), .val (.int q2), .val (.int kd), .val (.ref b6), .val (.ref a13), .unset]) (st' := [(.int (1 : Int32))]) (fun _ kz => XS.iconst X14.here hx rfl (hb hby at_194) kz) ?_
                refine goS (n := 199) (Ls' := #[.val (.int p1), .val (.int p2), .val (.int p3), .val (.int p4), .val (.int p5), .val (.int l1), .val (.int l2), .val (.int a0c), .val (.int a1c), .val (.int sm), .val (.int b0c), .val (.int b1c), .val (.int q2), .val (.int kd), .val (.ref b6), .val (.ref a13), .unset]) (st' := [(.int (1 : Int32))]) (fun _ kz => XS.goto X14.here hx rfl (pc0 := 195) (pc' := 199) rfl (hb hby at_195) (by decide) (by decide) kz) ?_
                exact goRetH X14 hx hlk hS (by rw [e14]; exact hk) hZ hEL (by rw [hh, e14]; exact hC) Bd.returns (narZ (Or.inr rfl)) (Or.inl ⟨rfl, Or.inr (Or.inl rfl), _, rfl⟩) (hb hby at_199) (by decide) (by decide) (by rw [e14]; exact ⟨rfl, N14⟩)
              · refine goS (n := 200) (Ls' := #[.val (.int p1), .val (.int p2), .val (.int p3), .val (.int p4), .val (.int p5), .val (.int l1), .val (.int l2), .val (.int a0c), .val (.int a1c), .val (.int sm), .val (.int b0c), .val (.int b1c), .val (.int q2), .val (.int kd), .val (.ref b6), .unset, .unset]) (st' := []) (fun _ kz => XS.icmpYes X8.here hx rfl (pc0 := 170) (pc' := 200) rfl (hb hby at_170) rfl (feq hc12).2 (by decide) (by decide) kz) ?_
                refine goS (n := 202) (Ls' := #[.val (.int p1), .val (.int p2), .val (.int p3), .val (.int p4), .val (.int p5), .val (.int l1), .val (.int l2), .val (.int a0c), .val (.int a1c), .val (.int sm), .val (.int b0c), .val (.int b1c), .val (.int q2), .val (.int kd), .val (.ref b6), .unset, .unset]) (st' := [(.int kd)]) (fun _ kz => XS.iload X8.here hx rfl (hb hby at_200) rfl kz) ?_
                refine goS (n := 203) (Ls' := #[.val (.int p1), .val (.int p2), .val (.int p3), .val (.int p4), .val (.int p5), .val (.int l1), .val (.int l2), .val (.int a0c), .val (.int a1c), .val (.int sm), .val (.int b0c), .val (.int b1c), .val (.int q2), .val (.int kd), .val (.ref b6), .unset, .unset]) (st' := [(.int (3 : Int32)), (.int kd)]) (fun _ kz => XS.iconst X8.here hx rfl (hb hby at_202) kz) ?_
                by_cases hc15 : kd = (3 : Int32)
                · refine goS (n := 206) (Ls' := #[.val (.int p1), .val (.int p2), .val (.int p3), .val (.int p4), .val (.int p5), .val (.int l1), .val (.int l2), .val (.int a0c), .val (.int a1c), .val (.int sm), .val (.int b0c), .val (.int b1c), .val (.int q2), .val (.int kd), .val (.ref b6), .unset, .unset]) (st' := []) (fun _ kz => XS.icmpNo X8.here hx rfl (hb hby at_203) rfl (teq hc15).2 kz) ?_
                  refine goS (n := 208) (Ls' := #[.val (.int p1), .val (.int p2), .val (.int p3), .val (.int p4), .val (.int p5), .val (.int l1), .val (.int l2), .val (.int a0c), .val (.int a1c), .val (.int sm), .val (.int b0c), .val (.int b1c), .val (.int q2), .val (.int kd), .val (.ref b6), .unset, .unset]) (st' := [(.ref b6)]) (fun _ kz => XS.aload X8.here hx rfl (hb hby at_206) rfl rfl kz) ?_
                  refine goS (n := 210) (Ls' := #[.val (.int p1), .val (.int p2), .val (.int p3), .val (.int p4), .val (.int p5), .val (.int l1), .val (.int l2), .val (.int a0c), .val (.int a1c), .val (.int sm), .val (.int b0c), .val (.int b1c), .val (.int q2), .val (.int kd), .val (.ref b6), .unset, .unset]) (st' := [(.ref b6), (.ref b6)]) (fun _ kz => XS.aload X8.here hx rfl (hb hby at_208) rfl rfl kz) ?_
                  obtain ⟨cq16, kq16, q16a, q16b, q16c⟩ := isOf hZ e8 E_b6
                  obtain ⟨vr16, _, ⟨T16, L16, k16, n16⟩, -, X16, ⟨Lc16, hQ16, l16, y16, z16⟩, st16⟩ := X8.virtualBack hx (y := (⟨"com/example/thingstead/thingstead/mimir/Treasure", "equals", "(Ljava/lang/Object;)Z"⟩ : MethodName)) (z := (⟨"com/example/thingstead/thingstead/mimir/Treasure", "equals", "(Ljava/lang/Object;)Z"⟩ : MethodName)) hown (mvT hZ (hw _ (List.mem_of_getElem? (i := 42) rfl))) (mvT hZ (hw _ (List.mem_of_getElem? (i := 43) rfl))) (notFace_of_selects (args := #[]) (mvT hZ (hw _ (List.mem_of_getElem? (i := 45) rfl)))) (mvT hZ (hw _ (List.mem_of_getElem? (i := 45) rfl))) (mvT hZ (hw _ (List.mem_of_getElem? (i := 44) rfl))) (by decide) (backOf (W := 0) (rm_eqM l Z a0 hw [] b6 b6 p1 p1 cs a7 t7 kt7 (own_mk l1 a0c a1c) a7 t7 kt7 (own_mk l1 a0c a1c) T8.heap n0 O8 S_CS hcs E_a7 F_value_a7 F_coder_a7 V_t7 (own_mkR l1 a0c a1c ra0c ra1c) (own_mkL l1 a0c a1c) E_a7 F_value_a7 F_coder_a7 V_t7 (own_mkR l1 a0c a1c ra0c ra1c) (own_mkL l1 a0c a1c) F_material_b6 F_points_b6 F_material_b6 F_points_b6 E_b6) hZ (hw _ (List.mem_of_getElem? (i := 46) rfl)) (hw _ (List.mem_of_getElem? (i := 2) rfl)) (by decide) (by decide)) q16a q16c (g := (mkF m 210 #[.val (.int p1), .val (.int p2), .val (.int p3), .val (.int p4), .val (.int p5), .val (.int l1), .val (.int l2), .val (.int a0c), .val (.int a1c), .val (.int sm), .val (.int b0c), .val (.int b1c), .val (.int q2), .val (.int kd), .val (.ref b6), .unset, .unset] [(.ref b6), (.ref b6)])) rfl (by rw [hml]; rfl) (Steps.refl _) (argsL := [(.ref b6)]) (rest := []) (lenOf pd_3 rfl) rfl (by show 2 * 0 + _ ≤ _; exact Nat.le_of_eq rfl) (hb hby at_210) (fun _ _ => ⟨rfl, e8, (Nat.le_of_ble_eq_true rfl), (Nat.le_of_ble_eq_true rfl)⟩)
                  dsimp only [Pt.U, Pt.locs, Pt.cells, Pt.slots] at X16 l16 y16 z16 st16 hQ16
                  subst l16 y16 z16
                  obtain ⟨v16, N16q, e16⟩ := hQ16
                  rw [bi_t ⟨rfl, rfl⟩] at v16
                  subst v16
                  have N16 := Fr.app N8 N16q
                  refine goT (n := 213) (Ls' := #[.val (.int p1), .val (.int p2), .val (.int p3), .val (.int p4), .val (.int p5), .val (.int l1), .val (.int l2), .val (.int a0c), .val (.int a1c), .val (.int sm), .val (.int b0c), .val (.int b1c), .val (.int q2), .val (.int kd), .val (.ref b6), .unset, .unset]) (st' := [(.int (1 : Int32))]) st16 ?_
                  exact goRetH X16 hx hlk hS (by rw [e16]; exact hk) hZ hEL (by rw [hh, e16]; exact hC) Bd.returns (narZ (Or.inr rfl)) (Or.inl ⟨rfl, Or.inr (Or.inl rfl), _, rfl⟩) (hb hby at_213) (by decide) (by decide) (by rw [e16]; exact ⟨rfl, N16⟩)
                · refine goS (n := 214) (Ls' := #[.val (.int p1), .val (.int p2), .val (.int p3), .val (.int p4), .val (.int p5), .val (.int l1), .val (.int l2), .val (.int a0c), .val (.int a1c), .val (.int sm), .val (.int b0c), .val (.int b1c), .val (.int q2), .val (.int kd), .val (.ref b6), .unset, .unset]) (st' := []) (fun _ kz => XS.icmpYes X8.here hx rfl (pc0 := 203) (pc' := 214) rfl (hb hby at_203) rfl (feq hc15).2 (by decide) (by decide) kz) ?_
                  obtain ⟨T17, h17, X17, e17, E17, A17, D17, -, st17⟩ := newO X8 hx hZ hown (hw _ (List.mem_of_getElem? (i := 0) rfl)) (hw _ (List.mem_of_getElem? (i := 1) rfl)) (hw _ (List.mem_of_getElem? (i := 2) rfl)) e8 (g := (mkF m 214 #[.val (.int p1), .val (.int p2), .val (.int p3), .val (.int p4), .val (.int p5), .val (.int l1), .val (.int l2), .val (.int a0c), .val (.int a1c), .val (.int sm), .val (.int b0c), .val (.int b1c), .val (.int q2), .val (.int kd), .val (.ref b6), .unset, .unset] [])) rfl (hb hby at_214) (by decide) (by decide)
                  obtain ⟨b17, g17⟩ : ∃ z, z = T8.heap.size := ⟨_, rfl⟩
                  rw [← g17] at A17 D17 st17
                  have g_b17 : n0 ≤ b17 := Nat.le_trans (O8.1 ▸ O8.2.1) (Nat.le_of_eq g17.symm)
                  have SF_b17 : Safe Z own_EL T7.vm T8.heap b17 := Safe.new (Nat.le_of_eq g17.symm)
                  have ne_b6_b17 : b6 ≠ b17 := Nat.ne_of_lt (Nat.lt_of_lt_of_le E_b6.lt (Nat.le_of_eq g17.symm))
                  have ne_a7_b17 : a7 ≠ b17 := Nat.ne_of_lt (Nat.lt_of_lt_of_le E_a7.lt (Nat.le_of_eq g17.symm))
                  have ne_t7_b17 : t7 ≠ b17 := Nat.ne_of_lt (Nat.lt_of_lt_of_le V_t7.lt (Nat.le_of_eq g17.symm))
                  have hk := Nat.le_trans hk E17.1
                  have SF_b6 := Safe.ext E17 hC.1 SF_b6
                  have SF_b17 := Safe.ext E17 hC.1 SF_b17
                  have hC := hC.trans (CHr.ext E17 hC.1)
                  have E_b6 : Exa Z h17 b6 "com/example/thingstead/thingstead/mimir/Treasure" := E_b6.ext E17
                  have E_a7 : Exa Z h17 a7 "java/lang/String" := E_a7.ext E17
                  have F_value_a7 : Fld Z h17 a7 "java/lang/String" "value" "[B" (.ref t7) := F_value_a7.ext E17
                  have F_coder_a7 : Fld Z h17 a7 "java/lang/String" "coder" "B" (.int (0 : Int32)) := F_coder_a7.ext E17
                  have V_t7 : Arv Z h17 t7 kt7 .byte (Int32.ofNat (List.length (own_mk l1 a0c a1c))) ((List.map (fun c : Int32 => c.toInt8.toInt32) (own_mk l1 a0c a1c)).map Value.int) (.int (0 : Int32)) := V_t7.ext E17
                  have F_material_b6 : Fld Z h17 b6 "com/example/thingstead/thingstead/mimir/Treasure" "material" "Ljava/lang/String;" (.ref a7) := F_material_b6.ext E17
                  have F_points_b6 : Fld Z h17 b6 "com/example/thingstead/thingstead/mimir/Treasure" "points" "I" (.int p1) := F_points_b6.ext E17
                  have F_material_b17 : Fld Z h17 b17 "com/example/thingstead/thingstead/mimir/Treasure" "material" "Ljava/lang/String;" .null := D17 (Or.inr (hw _ (List.mem_of_getElem? (i := 39) rfl))) (ty := (.object "java/lang/String")) (by decide)
                  have F_points_b17 : Fld Z h17 b17 "com/example/thingstead/thingstead/mimir/Treasure" "points" "I" (.int (0 : Int32)) := D17 (Or.inr (hw _ (List.mem_of_getElem? (i := 41) rfl))) (ty := .int) (by decide)
                  have E_b17 : Exa Z h17 b17 "com/example/thingstead/thingstead/mimir/Treasure" := A17
                  have O17 := O8.ext E17
                  refine goS (n := 217) (Ls' := #[.val (.int p1), .val (.int p2), .val (.int p3), .val (.int p4), .val (.int p5), .val (.int l1), .val (.int l2), .val (.int a0c), .val (.int a1c), .val (.int sm), .val (.int b0c), .val (.int b1c), .val (.int q2), .val (.int kd), .val (.ref b6), .unset, .unset]) (st' := [(.ref b17)]) st17 ?_
                  refine goS (n := 218) (Ls' := #[.val (.int p1), .val (.int p2), .val (.int p3), .val (.int p4), .val (.int p5), .val (.int l1), .val (.int l2), .val (.int a0c), .val (.int a1c), .val (.int sm), .val (.int b0c), .val (.int b1c), .val (.int q2), .val (.int kd), .val (.ref b6), .unset, .unset]) (st' := [(.ref b17), (.ref b17)]) (fun _ kz => XS.dup X17.here hx rfl (hb hby at_217) rfl rfl kz) ?_
                  refine goS (n := 220) (Ls' := #[.val (.int p1), .val (.int p2), .val (.int p3), .val (.int p4), .val (.int p5), .val (.int l1), .val (.int l2), .val (.int a0c), .val (.int a1c), .val (.int sm), .val (.int b0c), .val (.int b1c), .val (.int q2), .val (.int kd), .val (.ref b6), .unset, .unset]) (st' := [(.int l2), (.ref b17), (.ref b17)]) (fun _ kz => XS.iload X17.here hx rfl (hb hby at_218) rfl kz) ?_
                  refine goS (n := 222) (Ls' := #[.val (.int p1), .val (.int p2), .val (.int p3), .val (.int p4), .val (.int p5), .val (.int l1), .val (.int l2), .val (.int a0c), .val (.int a1c), .val (.int sm), .val (.int b0c), .val (.int b1c), .val (.int q2), .val (.int kd), .val (.ref b6), .unset, .unset]) (st' := [(.int b0c), (.int l2), (.ref b17), (.ref b17)]) (fun _ kz => XS.iload X17.here hx rfl (hb hby at_220) rfl kz) ?_
                  refine goS (n := 224) (Ls' := #[.val (.int p1), .val (.int p2), .val (.int p3), .val (.int p4), .val (.int p5), .val (.int l1), .val (.int l2), .val (.int a0c), .val (.int a1c), .val (.int sm), .val (.int b0c), .val (.int b1c), .val (.int q2), .val (.int kd), .val (.ref b6), .unset, .unset]) (st' := [(.int b1c), (.int b0c), (.int l2), (.ref b17), (.ref b17)]) (fun _ kz => XS.iload X17.here hx rfl (hb hby at_222) rfl kz) ?_
                  obtain ⟨vr18, _, ⟨T18, L18, k18, n18⟩, -, X18, hS18, hgr18, ⟨Lc18, hQ18, l18, y18, z18, hCr18⟩, st18⟩ := callSS X17 hx (y := (⟨"com/example/thingstead/thingstead/mimir/TreasureEqualsPinLaw", "mk", "(ICC)Ljava/lang/String;"⟩ : MethodName)) hown (mvT hZ (hw _ (List.mem_of_getElem? (i := 3) rfl))) (mvT hZ (hw _ (List.mem_of_getElem? (i := 4) rfl))) (mvT hZ (hw _ (List.mem_of_getElem? (i := 5) rfl))) (mvT hZ (hw _ (List.mem_of_getElem? (i := 6) rfl))) (by decide) (backOfSH (W := 2) (rm_mk l Z a0 hw [] l2 b0c b1c cs h17 n0 O17 S_CS hcs h_b0c h_b1c) hZ (hw _ (List.mem_of_getElem? (i := 6) rfl)) (hw _ (List.mem_of_getElem? (i := 5) rfl)) (by decide) (by decide) hEL hC.1) (g := (mkF m 224 #[.val (.int p1), .val (.int p2), .val (.int p3), .val (.int p4), .val (.int p5), .val (.int l1), .val (.int l2), .val (.int a0c), .val (.int a1c), .val (.int sm), .val (.int b0c), .val (.int b1c), .val (.int q2), .val (.int kd), .val (.ref b6), .unset, .unset] [(.int b1c), (.int b0c), (.int l2), (.ref b17), (.ref b17)])) rfl (by rw [hml]; rfl) (argsL := [(.int l2), (.int b0c), (.int b1c)]) (rest := [(.ref b17), (.ref b17)]) (lenOf pd_4 rfl) rfl (by show 2 * 0 + _ ≤ _; exact Nat.le_of_eq rfl) (hb hby at_224) (fun _ _ => ⟨rfl, e17, (Nat.le_of_ble_eq_true rfl), (Nat.le_of_ble_eq_true rfl)⟩)
                  dsimp only [Pt.U, Pt.locs, Pt.cells, Pt.slots] at X18 l18 y18 z18 st18 hQ18 hS18 hgr18 hCr18
                  subst l18 y18 z18
                  obtain ⟨X18, hS, hZ, hown⟩ := rebS hS (n1 := T17.heap.size) (by rw [e17]; exact hk) X18 hS18 hgr18 hZ hown
                  have hk : T18.heap.size ≤ T18.heap.size := Nat.le_refl _
                  obtain ⟨a18, t18, kt18, rfl, N18q, K18, g_a18, za18, E_a18, F_value_a18, F_coder_a18, V_t18⟩ := hQ18
                  have ne_b6_a18 : b6 ≠ a18 := Nat.ne_of_lt (Nat.lt_of_lt_of_le E_b6.lt za18)
                  have ne_a7_a18 : a7 ≠ a18 := Nat.ne_of_lt (Nat.lt_of_lt_of_le E_a7.lt za18)
                  have ne_t7_a18 : t7 ≠ a18 := Nat.ne_of_lt (Nat.lt_of_lt_of_le V_t7.lt za18)
                  have ne_b17_a18 : b17 ≠ a18 := Nat.ne_of_lt (Nat.lt_of_lt_of_le E_b17.lt za18)
                  have N18 := Fr.app N8 N18q
                  have e18 : T18.heap = T18.heap := rfl
                  have O18 := O17.keep K18 all0
                  have SF_b6 := CHr.safe hCr18 E_b6.lt SF_b6
                  have SF_b17 := CHr.safe hCr18 E_b17.lt SF_b17
                  have hC := hC.trans hCr18
                  have E_b6 : Exa Z T18.heap b6 "com/example/thingstead/thingstead/mimir/Treasure" := E_b6.keep K18
                  have E_a7 : Exa Z T18.heap a7 "java/lang/String" := E_a7.keep K18
                  have F_value_a7 : Fld Z T18.heap a7 "java/lang/String" "value" "[B" (.ref t7) := F_value_a7.keep K18 nin0
                  have F_coder_a7 : Fld Z T18.heap a7 "java/lang/String" "coder" "B" (.int (0 : Int32)) := F_coder_a7.keep K18 nin0
                  have V_t7 : Arv Z T18.heap t7 kt7 .byte (Int32.ofNat (List.length (own_mk l1 a0c a1c))) ((List.map (fun c : Int32 => c.toInt8.toInt32) (own_mk l1 a0c a1c)).map Value.int) (.int (0 : Int32)) := V_t7.keep K18 nin0
                  have F_material_b6 : Fld Z T18.heap b6 "com/example/thingstead/thingstead/mimir/Treasure" "material" "Ljava/lang/String;" (.ref a7) := F_material_b6.keep K18 nin0
                  have F_points_b6 : Fld Z T18.heap b6 "com/example/thingstead/thingstead/mimir/Treasure" "points" "I" (.int p1) := F_points_b6.keep K18 nin0
                  have F_material_b17 : Fld Z T18.heap b17 "com/example/thingstead/thingstead/mimir/Treasure" "material" "Ljava/lang/String;" .null := F_material_b17.keep K18 nin0
                  have F_points_b17 : Fld Z T18.heap b17 "com/example/thingstead/thingstead/mimir/Treasure" "points" "I" (.int (0 : Int32)) := F_points_b17.keep K18 nin0
                  have E_b17 : Exa Z T18.heap b17 "com/example/thingstead/thingstead/mimir/Treasure" := E_b17.keep K18
                  refine goT (n := 227) (Ls' := #[.val (.int p1), .val (.int p2), .val (.int p3), .val (.int p4), .val (.int p5), .val (.int l1), .val (.int l2), .val (.int a0c), .val (.int a1c), .val (.int sm), .val (.int b0c), .val (.int b1c), .val (.int q2), .val (.int kd), .val (.ref b6), .unset, .unset]) (st' := [(.ref a18), (.ref b17), (.ref b17)]) st18 ?_
                  refine goS (n := 229) (Ls' := #[.val (.int p1), .val (.int p2), .val (.int p3), .val (.int p4), .val (.int p5), .val (.int l1), .val (.int l2), .val (.int a0c), .val (.int a1c), .val (.int sm), .val (.int b0c), .val (.int b1c), .val (.int q2), .val (.int kd), .val (.ref b6), .unset, .unset]) (st' := [(.int q2), (.ref a18), (.ref b17), (.ref b17)]) (fun _ kz => XS.iload X18.here hx rfl (hb hby at_227) rfl kz) ?_
                  have ne20 : b17 ≠ t18 := neEA E_b17 (hw _ (List.mem_of_getElem? (i := 1) rfl)) V_t18
                  obtain ⟨vr19, _, ⟨T19, L19, k19, n19⟩, -, X19, ⟨Lc19, hQ19, l19, y19, z19⟩, st19⟩ := X18.specialBack hx (y := (⟨"com/example/thingstead/thingstead/mimir/Treasure", "<init>", "(Ljava/lang/String;I)V"⟩ : MethodName)) rfl hown (mvT hZ (hw _ (List.mem_of_getElem? (i := 29) rfl))) (mvT hZ (hw _ (List.mem_of_getElem? (i := 30) rfl))) (mvT hZ (hw _ (List.mem_of_getElem? (i := 31) rfl))) (by decide) (backOf (W := 1) (rm_init l Z a0 hw [] b17 a18 q2 T18.heap n0 O18 E_b17 F_material_b17 F_points_b17 g_b17) hZ (hw _ (List.mem_of_getElem? (i := 31) rfl)) (hw _ (List.mem_of_getElem? (i := 2) rfl)) (by decide) (by decide)) (g := (mkF m 229 #[.val (.int p1), .val (.int p2), .val (.int p3), .val (.int p4), .val (.int p5), .val (.int l1), .val (.int l2), .val (.int a0c), .val (.int a1c), .val (.int sm), .val (.int b0c), .val (.int b1c), .val (.int q2), .val (.int kd), .val (.ref b6), .unset, .unset] [(.int q2), (.ref a18), (.ref b17), (.ref b17)])) rfl (by rw [hml]; rfl) (Steps.refl _) (a := b17) (argsL := [(.ref a18), (.int q2)]) (rest := [(.ref b17)]) (lenOf pd_5 rfl) rfl (by show 2 * 0 + _ ≤ _; exact Nat.le_of_eq rfl) (hb hby at_229) (fun _ _ => ⟨rfl, e18, (Nat.le_of_ble_eq_true rfl), (Nat.le_of_ble_eq_true rfl)⟩)
                  dsimp only [Pt.U, Pt.locs, Pt.cells, Pt.slots] at X19 l19 y19 z19 st19 hQ19
                  subst l19 y19 z19
                  obtain ⟨rfl, N19q, K19, F_material_b17, F_points_b17⟩ := hQ19
                  have N19 := Fr.app N18 N19q
                  have e19 : T19.heap = T19.heap := rfl
                  have O19 := O18.keep K19 (allS g_b17 all0)
                  have hk := Nat.le_trans hk K19.1
                  have sfw : ∀ x ∈ [b17], Safe Z own_EL T18.vm T18.heap x := (sfS SF_b17 sf0)
                  have SF_b6 := Safe.keep K19 sfw hC.1 SF_b6
                  have SF_b17 := Safe.keep K19 sfw hC.1 SF_b17
                  have hC := hC.trans (CHr.keep K19 sfw hC.1)
                  have E_b6 : Exa Z T19.heap b6 "com/example/thingstead/thingstead/mimir/Treasure" := E_b6.keep K19
                  have E_a7 : Exa Z T19.heap a7 "java/lang/String" := E_a7.keep K19
                  have F_value_a7 : Fld Z T19.heap a7 "java/lang/String" "value" "[B" (.ref t7) := F_value_a7.keep K19 (ninS ne_a7_b17 nin0)
                  have F_coder_a7 : Fld Z T19.heap a7 "java/lang/String" "coder" "B" (.int (0 : Int32)) := F_coder_a7.keep K19 (ninS ne_a7_b17 nin0)
                  have V_t7 : Arv Z T19.heap t7 kt7 .byte (Int32.ofNat (List.length (own_mk l1 a0c a1c))) ((List.map (fun c : Int32 => c.toInt8.toInt32) (own_mk l1 a0c a1c)).map Value.int) (.int (0 : Int32)) := V_t7.keep K19 (ninS ne_t7_b17 nin0)
                  have F_material_b6 : Fld Z T19.heap b6 "com/example/thingstead/thingstead/mimir/Treasure" "material" "Ljava/lang/String;" (.ref a7) := F_material_b6.keep K19 (ninS ne_b6_b17 nin0)
                  have F_points_b6 : Fld Z T19.heap b6 "com/example/thingstead/thingstead/mimir/Treasure" "points" "I" (.int p1) := F_points_b6.keep K19 (ninS ne_b6_b17 nin0)
                  have E_b17 : Exa Z T19.heap b17 "com/example/thingstead/thingstead/mimir/Treasure" := E_b17.keep K19
                  have E_a18 : Exa Z T19.heap a18 "java/lang/String" := E_a18.keep K19
                  have F_value_a18 : Fld Z T19.heap a18 "java/lang/String" "value" "[B" (.ref t18) := F_value_a18.keep K19 (ninS (Ne.symm ne_b17_a18) nin0)
                  have F_coder_a18 : Fld Z T19.heap a18 "java/lang/String" "coder" "B" (.int (0 : Int32)) := F_coder_a18.keep K19 (ninS (Ne.symm ne_b17_a18) nin0)
                  have V_t18 : Arv Z T19.heap t18 kt18 .byte (Int32.ofNat (List.length (own_mk l2 b0c b1c))) ((List.map (fun c : Int32 => c.toInt8.toInt32) (own_mk l2 b0c b1c)).map Value.int) (.int (0 : Int32)) := V_t18.keep K19 (ninS (Ne.symm ne20) nin0)
                  refine goT (n := 232) (Ls' := #[.val (.int p1), .val (.int p2), .val (.int p3), .val (.int p4), .val (.int p5), .val (.int l1), .val (.int l2), .val (.int a0c), .val (.int a1c), .val (.int sm), .val (.int b0c), .val (.int b1c), .val (.int q2), .val (.int kd), .val (.ref b6), .unset, .unset]) (st' := [(.ref b17)]) st19 ?_
                  refine goS (n := 234) (Ls' := #[.val (.int p1), .val (.int p2), .val (.int p3), .val (.int p4), .val (.int p5), .val (.int l1), .val (.int l2), .val (.int a0c), .val (.int a1c), .val (.int sm), .val (.int b0c), .val (.int b1c), .val (.int q2), .val (.int kd), .val (.ref b6), .val (.ref b17), .unset]) (st' := []) (fun _ kz => XS.astore X19.here hx rfl (hb hby at_232) rfl rfl (l' := #[.val (.int p1), .val (.int p2), .val (.int p3), .val (.int p4), .val (.int p5), .val (.int l1), .val (.int l2), .val (.int a0c), .val (.int a1c), .val (.int sm), .val (.int b0c), .val (.int b1c), .val (.int q2), .val (.int kd), .val (.ref b6), .val (.ref b17), .unset]) rfl kz) ?_
                  refine goS (n := 235) (Ls' := #[.val (.int p1), .val (.int p2), .val (.int p3), .val (.int p4), .val (.int p5), .val (.int l1), .val (.int l2), .val (.int a0c), .val (.int a1c), .val (.int sm), .val (.int b0c), .val (.int b1c), .val (.int q2), .val (.int kd), .val (.ref b6), .val (.ref b17), .unset]) (st' := [(.int p1)]) (fun _ kz => XS.iloadN X19.here hx rfl (hb hby at_234) rfl kz) ?_
                  refine goS (n := 237) (Ls' := #[.val (.int p1), .val (.int p2), .val (.int p3), .val (.int p4), .val (.int p5), .val (.int l1), .val (.int l2), .val (.int a0c), .val (.int a1c), .val (.int sm), .val (.int b0c), .val (.int b1c), .val (.int q2), .val (.int kd), .val (.ref b6), .val (.ref b17), .unset]) (st' := [(.int q2), (.int p1)]) (fun _ kz => XS.iload X19.here hx rfl (hb hby at_235) rfl kz) ?_
                  have jn21 : ∀ re : Int32, re = bi (p1 = q2 ∧ l1 = l2 ∧ (l1 < (1 : Int32) ∨ a0c = b0c) ∧ (l1 < (2 : Int32) ∨ a1c = b1c)) → Go p e below (PQH Z own_EL s room_1.cells room_1.slots (Q_law Z p1 p2 p3 p4 p5 cs h0 n0)) T19 (mkF m 278 #[.val (.int p1), .val (.int p2), .val (.int p3), .val (.int p4), .val (.int p5), .val (.int l1), .val (.int l2), .val (.int a0c), .val (.int a1c), .val (.int sm), .val (.int b0c), .val (.int b1c), .val (.int q2), .val (.int kd), .val (.ref b6), .val (.ref b17), .unset] [(.int re)]) := by
                    intro re h_re
                    refine goS (n := 280) (Ls' := #[.val (.int p1), .val (.int p2), .val (.int p3), .val (.int p4), .val (.int p5), .val (.int l1), .val (.int l2), .val (.int a0c), .val (.int a1c), .val (.int sm), .val (.int b0c), .val (.int b1c), .val (.int q2), .val (.int kd), .val (.ref b6), .val (.ref b17), .val (.int re)]) (st' := []) (fun _ kz => XS.istore X19.here hx rfl (hb hby at_278) rfl (l' := #[.val (.int p1), .val (.int p2), .val (.int p3), .val (.int p4), .val (.int p5), .val (.int l1), .val (.int l2), .val (.int a0c), .val (.int a1c), .val (.int sm), .val (.int b0c), .val (.int b1c), .val (.int q2), .val (.int kd), .val (.ref b6), .val (.ref b17), .val (.int re)]) rfl kz) ?_
                    refine goS (n := 282) (Ls' := #[.val (.int p1), .val (.int p2), .val (.int p3), .val (.int p4), .val (.int p5), .val (.int l1), .val (.int l2), .val (.int a0c), .val (.int a1c), .val (.int sm), .val (.int b0c), .val (.int b1c), .val (.int q2), .val (.int kd), .val (.ref b6), .val (.ref b17), .val (.int re)]) (st' := [(.ref b6)]) (fun _ kz => XS.aload X19.here hx rfl (hb hby at_280) rfl rfl kz) ?_
                    refine goS (n := 284) (Ls' := #[.val (.int p1), .val (.int p2), .val (.int p3), .val (.int p4), .val (.int p5), .val (.int l1), .val (.int l2), .val (.int a0c), .val (.int a1c), .val (.int sm), .val (.int b0c), .val (.int b1c), .val (.int q2), .val (.int kd), .val (.ref b6), .val (.ref b17), .val (.int re)]) (st' := [(.ref b17), (.ref b6)]) (fun _ kz => XS.aload X19.here hx rfl (hb hby at_282) rfl rfl kz) ?_
                    obtain ⟨cq22, kq22, q22a, q22b, q22c⟩ := isOf hZ e19 E_b6
                    obtain ⟨vr22, _, ⟨T22, L22, k22, n22⟩, -, X22, ⟨Lc22, hQ22, l22, y22, z22⟩, st22⟩ := X19.virtualBack hx (y := (⟨"com/example/thingstead/thingstead/mimir/Treasure", "equals", "(Ljava/lang/Object;)Z"⟩ : MethodName)) (z := (⟨"com/example/thingstead/thingstead/mimir/Treasure", "equals", "(Ljava/lang/Object;)Z"⟩ : MethodName)) hown (mvT hZ (hw _ (List.mem_of_getElem? (i := 42) rfl))) (mvT hZ (hw _ (List.mem_of_getElem? (i := 43) rfl))) (notFace_of_selects (args := #[]) (mvT hZ (hw _ (List.mem_of_getElem? (i := 45) rfl)))) (mvT hZ (hw _ (List.mem_of_getElem? (i := 45) rfl))) (mvT hZ (hw _ (List.mem_of_getElem? (i := 44) rfl))) (by decide) (backOf (W := 0) (rm_eqM l Z a0 hw [] b6 b17 p1 q2 cs a7 t7 kt7 (own_mk l1 a0c a1c) a18 t18 kt18 (own_mk l2 b0c b1c) T19.heap n0 O19 S_CS hcs E_a7 F_value_a7 F_coder_a7 V_t7 (own_mkR l1 a0c a1c ra0c ra1c) (own_mkL l1 a0c a1c) E_a18 F_value_a18 F_coder_a18 V_t18 (own_mkR l2 b0c b1c h_b0c h_b1c) (own_mkL l2 b0c b1c) F_material_b6 F_points_b6 F_material_b17 F_points_b17 E_b17) hZ (hw _ (List.mem_of_getElem? (i := 46) rfl)) (hw _ (List.mem_of_getElem? (i := 2) rfl)) (by decide) (by decide)) q22a q22c (g := (mkF m 284 #[.val (.int p1), .val (.int p2), .val (.int p3), .val (.int p4), .val (.int p5), .val (.int l1), .val (.int l2), .val (.int a0c), .val (.int a1c), .val (.int sm), .val (.int b0c), .val (.int b1c), .val (.int q2), .val (.int kd), .val (.ref b6), .val (.ref b17), .val (.int re)] [(.ref b17), (.ref b6)])) rfl (by rw [hml]; rfl) (Steps.refl _) (argsL := [(.ref b17)]) (rest := []) (lenOf pd_3 rfl) rfl (by show 2 * 0 + _ ≤ _; exact Nat.le_of_eq rfl) (hb hby at_284) (fun _ _ => ⟨rfl, e19, (Nat.le_of_ble_eq_true rfl), (Nat.le_of_ble_eq_true rfl)⟩)
                    dsimp only [Pt.U, Pt.locs, Pt.cells, Pt.slots] at X22 l22 y22 z22 st22 hQ22
                    subst l22 y22 z22
                    obtain ⟨v22, N22q, e22⟩ := hQ22
                    obtain ⟨ab, qab⟩ : ∃ r, r = bi (p1 = q2 ∧ (own_mk l1 a0c a1c) = (own_mk l2 b0c b1c)) := ⟨_, rfl⟩
                    rw [← qab] at v22
                    subst v22
                    have hab : ab = re := by rw [qab, h_re]; exact bi_iff (and_congr Iff.rfl (own_eqC l1 l2 a0c a1c b0c b1c hl1 h_l2))
                    have N22 := Fr.app N19 N22q
                    refine goT (n := 287) (Ls' := #[.val (.int p1), .val (.int p2), .val (.int p3), .val (.int p4), .val (.int p5), .val (.int l1), .val (.int l2), .val (.int a0c), .val (.int a1c), .val (.int sm), .val (.int b0c), .val (.int b1c), .val (.int q2), .val (.int kd), .val (.ref b6), .val (.ref b17), .val (.int re)]) (st' := [(.int ab)]) st22 ?_
                    refine goS (n := 289) (Ls' := #[.val (.int p1), .val (.int p2), .val (.int p3), .val (.int p4), .val (.int p5), .val (.int l1), .val (.int l2), .val (.int a0c), .val (.int a1c), .val (.int sm), .val (.int b0c), .val (.int b1c), .val (.int q2), .val (.int kd), .val (.ref b6), .val (.ref b17), .val (.int re)]) (st' := [(.int re), (.int ab)]) (fun _ kz => XS.iload X22.here hx rfl (hb hby at_287) rfl kz) ?_
                    refine goS (n := 292) (Ls' := #[.val (.int p1), .val (.int p2), .val (.int p3), .val (.int p4), .val (.int p5), .val (.int l1), .val (.int l2), .val (.int a0c), .val (.int a1c), .val (.int sm), .val (.int b0c), .val (.int b1c), .val (.int q2), .val (.int kd), .val (.ref b6), .val (.ref b17), .val (.int re)]) (st' := []) (fun _ kz => XS.icmpNo X22.here hx rfl (hb hby at_289) rfl (teq hab).2 kz) ?_
                    refine goS (n := 294) (Ls' := #[.val (.int p1), .val (.int p2), .val (.int p3), .val (.int p4), .val (.int p5), .val (.int l1), .val (.int l2), .val (.int a0c), .val (.int a1c), .val (.int sm), .val (.int b0c), .val (.int b1c), .val (.int q2), .val (.int kd), .val (.ref b6), .val (.ref b17), .val (.int re)]) (st' := [(.ref b17)]) (fun _ kz => XS.aload X22.here hx rfl (hb hby at_292) rfl rfl kz) ?_
                    refine goS (n := 296) (Ls' := #[.val (.int p1), .val (.int p2), .val (.int p3), .val (.int p4), .val (.int p5), .val (.int l1), .val (.int l2), .val (.int a0c), .val (.int a1c), .val (.int sm), .val (.int b0c), .val (.int b1c), .val (.int q2), .val (.int kd), .val (.ref b6), .val (.ref b17), .val (.int re)]) (st' := [(.ref b6), (.ref b17)]) (fun _ kz => XS.aload X22.here hx rfl (hb hby at_294) rfl rfl kz) ?_
                    obtain ⟨cq23, kq23, q23a, q23b, q23c⟩ := isOf hZ e22 E_b17
                    obtain ⟨vr23, _, ⟨T23, L23, k23, n23⟩, -, X23, ⟨Lc23, hQ23, l23, y23, z23⟩, st23⟩ := X22.virtualBack hx (y := (⟨"com/example/thingstead/thingstead/mimir/Treasure", "equals", "(Ljava/lang/Object;)Z"⟩ : MethodName)) (z := (⟨"com/example/thingstead/thingstead/mimir/Treasure", "equals", "(Ljava/lang/Object;)Z"⟩ : MethodName)) hown (mvT hZ (hw _ (List.mem_of_getElem? (i := 42) rfl))) (mvT hZ (hw _ (List.mem_of_getElem? (i := 43) rfl))) (notFace_of_selects (args := #[]) (mvT hZ (hw _ (List.mem_of_getElem? (i := 45) rfl)))) (mvT hZ (hw _ (List.mem_of_getElem? (i := 45) rfl))) (mvT hZ (hw _ (List.mem_of_getElem? (i := 44) rfl))) (by decide) (backOf (W := 0) (rm_eqM l Z a0 hw [] b17 b6 q2 p1 cs a18 t18 kt18 (own_mk l2 b0c b1c) a7 t7 kt7 (own_mk l1 a0c a1c) T19.heap n0 O19 S_CS hcs E_a18 F_value_a18 F_coder_a18 V_t18 (own_mkR l2 b0c b1c h_b0c h_b1c) (own_mkL l2 b0c b1c) E_a7 F_value_a7 F_coder_a7 V_t7 (own_mkR l1 a0c a1c ra0c ra1c) (own_mkL l1 a0c a1c) F_material_b17 F_points_b17 F_material_b6 F_points_b6 E_b6) hZ (hw _ (List.mem_of_getElem? (i := 46) rfl)) (hw _ (List.mem_of_getElem? (i := 2) rfl)) (by decide) (by decide)) q23a q23c (g := (mkF m 296 #[.val (.int p1), .val (.int p2), .val (.int p3), .val (.int p4), .val (.int p5), .val (.int l1), .val (.int l2), .val (.int a0c), .val (.int a1c), .val (.int sm), .val (.int b0c), .val (.int b1c), .val (.int q2), .val (.int kd), .val (.ref b6), .val (.ref b17), .val (.int re)] [(.ref b6), (.ref b17)])) rfl (by rw [hml]; rfl) (Steps.refl _) (argsL := [(.ref b6)]) (rest := []) (lenOf pd_3 rfl) rfl (by show 2 * 0 + _ ≤ _; exact Nat.le_of_eq rfl) (hb hby at_296) (fun _ _ => ⟨rfl, e22, (Nat.le_of_ble_eq_true rfl), (Nat.le_of_ble_eq_true rfl)⟩)
                    dsimp only [Pt.U, Pt.locs, Pt.cells, Pt.slots] at X23 l23 y23 z23 st23 hQ23
                    subst l23 y23 z23
                    obtain ⟨v23, N23q, e23⟩ := hQ23
                    obtain ⟨ba, qba⟩ : ∃ r, r = bi (q2 = p1 ∧ (own_mk l2 b0c b1c) = (own_mk l1 a0c a1c)) := ⟨_, rfl⟩
                    rw [← qba] at v23
                    subst v23
                    have hba : ba = re := by rw [qba, h_re]; exact bi_iff (and_congr ⟨Eq.symm, Eq.symm⟩ (Iff.trans ⟨Eq.symm, Eq.symm⟩ (own_eqC l1 l2 a0c a1c b0c b1c hl1 h_l2)))
                    have N23 := Fr.app N22 N23q
                    refine goT (n := 299) (Ls' := #[.val (.int p1), .val (.int p2), .val (.int p3), .val (.int p4), .val (.int p5), .val (.int l1), .val (.int l2), .val (.int a0c), .val (.int a1c), .val (.int sm), .val (.int b0c), .val (.int b1c), .val (.int q2), .val (.int kd), .val (.ref b6), .val (.ref b17), .val (.int re)]) (st' := [(.int ba)]) st23 ?_
                    refine goS (n := 301) (Ls' := #[.val (.int p1), .val (.int p2), .val (.int p3), .val (.int p4), .val (.int p5), .val (.int l1), .val (.int l2), .val (.int a0c), .val (.int a1c), .val (.int sm), .val (.int b0c), .val (.int b1c), .val (.int q2), .val (.int kd), .val (.ref b6), .val (.ref b17), .val (.int re)]) (st' := [(.int re), (.int ba)]) (fun _ kz => XS.iload X23.here hx rfl (hb hby at_299) rfl kz) ?_
                    refine goS (n := 304) (Ls' := #[.val (.int p1), .val (.int p2), .val (.int p3), .val (.int p4), .val (.int p5), .val (.int l1), .val (.int l2), .val (.int a0c), .val (.int a1c), .val (.int sm), .val (.int b0c), .val (.int b1c), .val (.int q2), .val (.int kd), .val (.ref b6), .val (.ref b17), .val (.int re)]) (st' := []) (fun _ kz => XS.icmpNo X23.here hx rfl (hb hby at_301) rfl (teq hba).2 kz) ?_
                    refine goS (n := 305) (Ls' := #[.val (.int p1), .val (.int p2), .val (.int p3), .val (.int p4), .val (.int p5), .val (.int l1), .val (.int l2), .val (.int a0c), .val (.int a1c), .val (.int sm), .val (.int b0c), .val (.int b1c), .val (.int q2), .val (.int kd), .val (.ref b6), .val (.ref b17), .val (.int re)]) (st' := [(.int (1 : Int32))]) (fun _ kz => XS.iconst X23.here hx rfl (hb hby at_304) kz) ?_
                    refine goS (n := 309) (Ls' := #[.val (.int p1), .val (.int p2), .val (.int p3), .val (.int p4), .val (.int p5), .val (.int l1), .val (.int l2), .val (.int a0c), .val (.int a1c), .val (.int sm), .val (.int b0c), .val (.int b1c), .val (.int q2), .val (.int kd), .val (.ref b6), .val (.ref b17), .val (.int re)]) (st' := [(.int (1 : Int32))]) (fun _ kz => XS.goto X23.here hx rfl (pc0 := 305) (pc' := 309) rfl (hb hby at_305) (by decide) (by decide) kz) ?_
                    exact goRetH X23 hx hlk hS (by rw [e23]; exact hk) hZ hEL (by rw [hh, e23]; exact hC) Bd.returns (narZ (Or.inr rfl)) (Or.inl ⟨rfl, Or.inr (Or.inl rfl), _, rfl⟩) (hb hby at_309) (by decide) (by decide) (by rw [e23]; exact ⟨rfl, N23⟩)
                  by_cases hc24 : p1 = q2
                  · refine goS (n := 240) (Ls' := #[.val (.int p1), .val (.int p2), .val (.int p3), .val (.int p4), .val (.int p5), .val (.int l1), .val (.int l2), .val (.int a0c), .val (.int a1c), .val (.int sm), .val (.int b0c), .val (.int b1c), .val (.int q2), .val (.int kd), .val (.ref b6), .val (.ref b17), .unset]) (st' := []) (fun _ kz => XS.icmpNo X19.here hx rfl (hb hby at_237) rfl (teq hc24).2 kz) ?_
                    refine goS (n := 242) (Ls' := #[.val (.int p1), .val (.int p2), .val (.int p3), .val (.int p4), .val (.int p5), .val (.int l1), .val (.int l2), .val (.int a0c), .val (.int a1c), .val (.int sm), .val (.int b0c), .val (.int b1c), .val (.int q2), .val (.int kd), .val (.ref b6), .val (.ref b17), .unset]) (st' := [(.int l1)]) (fun _ kz => XS.iload X19.here hx rfl (hb hby at_240) rfl kz) ?_
                    refine goS (n := 244) (Ls' := #[.val (.int p1), .val (.int p2), .val (.int p3), .val (.int p4), .val (.int p5), .val (.int l1), .val (.int l2), .val (.int a0c), .val (.int a1c), .val (.int sm), .val (.int b0c), .val (.int b1c), .val (.int q2), .val (.int kd), .val (.ref b6), .val (.ref b17), .unset]) (st' := [(.int l2), (.int l1)]) (fun _ kz => XS.iload X19.here hx rfl (hb hby at_242) rfl kz) ?_
                    by_cases hc25 : l1 = l2
                    · refine goS (n := 247) (Ls' := #[.val (.int p1), .val (.int p2), .val (.int p3), .val (.int p4), .val (.int p5), .val (.int l1), .val (.int l2), .val (.int a0c), .val (.int a1c), .val (.int sm), .val (.int b0c), .val (.int b1c), .val (.int q2), .val (.int kd), .val (.ref b6), .val (.ref b17), .unset]) (st' := []) (fun _ kz => XS.icmpNo X19.here hx rfl (hb hby at_244) rfl (teq hc25).2 kz) ?_
                      refine goS (n := 249) (Ls' := #[.val (.int p1), .val (.int p2), .val (.int p3), .val (.int p4), .val (.int p5), .val (.int l1), .val (.int l2), .val (.int a0c), .val (.int a1c), .val (.int sm), .val (.int b0c), .val (.int b1c), .val (.int q2), .val (.int kd), .val (.ref b6), .val (.ref b17), .unset]) (st' := [(.int l1)]) (fun _ kz => XS.iload X19.here hx rfl (hb hby at_247) rfl kz) ?_
                      refine goS (n := 250) (Ls' := #[.val (.int p1), .val (.int p2), .val (.int p3), .val (.int p4), .val (.int p5), .val (.int l1), .val (.int l2), .val (.int a0c), .val (.int a1c), .val (.int sm), .val (.int b0c), .val (.int b1c), .val (.int q2), .val (.int kd), .val (.ref b6), .val (.ref b17), .unset]) (st' := [(.int (1 : Int32)), (.int l1)]) (fun _ kz => XS.iconst X19.here hx rfl (hb hby at_249) kz) ?_
                      by_cases hc26 : l1 < (1 : Int32)
                      · refine goS (n := 260) (Ls' := #[.val (.int p1), .val (.int p2), .val (.int p3), .val (.int p4), .val (.int p5), .val (.int l1), .val (.int l2), .val (.int a0c), .val (.int a1c), .val (.int sm), .val (.int b0c), .val (.int b1c), .val (.int q2), .val (.int kd), .val (.ref b6), .val (.ref b17), .unset]) (st' := []) (fun _ kz => XS.icmpYes X19.here hx rfl (pc0 := 250) (pc' := 260) rfl (hb hby at_250) rfl (tlt hc26).1 (by decide) (by decide) kz) ?_
                        refine goS (n := 262) (Ls' := #[.val (.int p1), .val (.int p2), .val (.int p3), .val (.int p4), .val (.int p5), .val (.int l1), .val (.int l2), .val (.int a0c), .val (.int a1c), .val (.int sm), .val (.int b0c), .val (.int b1c), .val (.int q2), .val (.int kd), .val (.ref b6), .val (.ref b17), .unset]) (st' := [(.int l1)]) (fun _ kz => XS.iload X19.here hx rfl (hb hby at_260) rfl kz) ?_
                        refine goS (n := 263) (Ls' := #[.val (.int p1), .val (.int p2), .val (.int p3), .val (.int p4), .val (.int p5), .val (.int l1), .val (.int l2), .val (.int a0c), .val (.int a1c), .val (.int sm), .val (.int b0c), .val (.int b1c), .val (.int q2), .val (.int kd), .val (.ref b6), .val (.ref b17), .unset]) (st' := [(.int (2 : Int32)), (.int l1)]) (fun _ kz => XS.iconst X19.here hx rfl (hb hby at_262) kz) ?_
                        by_cases hc27 : l1 < (2 : Int32)
                        · refine goS (n := 273) (Ls' := #[.val (.int p1), .val (.int p2), .val (.int p3), .val (.int p4), .val (.int p5), .val (.int l1), .val (.int l2), .val (.int a0c), .val (.int a1c), .val (.int sm), .val (.int b0c), .val (.int b1c), .val (.int q2), .val (.int kd), .val (.ref b6), .val (.ref b17), .unset]) (st' := []) (fun _ kz => XS.icmpYes X19.here hx rfl (pc0 := 263) (pc' := 273) rfl (hb hby at_263) rfl (tlt hc27).1 (by decide) (by decide) kz) ?_
                          refine goS (n := 274) (Ls' := #[.val (.int p1), .val (.int p2), .val (.int p3), .val (.int p4), .val (.int p5), .val (.int l1), .val (.int l2), .val (.int a0c), .val (.int a1c), .val (.int sm), .val (.int b0c), .val (.int b1c), .val (.int q2), .val (.int kd), .val (.ref b6), .val (.ref b17), .unset]) (st' := [(.int (1 : Int32))]) (fun _ kz => XS.iconst X19.here hx rfl (hb hby at_273) kz) ?_
                          refine goS (n := 278) (Ls' := #[.val (.int p1), .val (.int p2), .val (.int p3), .val (.int p4), .val (.int p5), .val (.int l1), .val (.int l2), .val (.int a0c), .val (.int a1c), .val (.int sm), .val (.int b0c), .val (.int b1c), .val (.int q2), .val (.int kd), .val (.ref b6), .val (.ref b17), .unset]) (st' := [(.int (1 : Int32))]) (fun _ kz => XS.goto X19.here hx rfl (pc0 := 274) (pc' := 278) rfl (hb hby at_274) (by decide) (by decide) kz) ?_
                          exact jn21 _ (((by intros; simp_all [bi]) : ∀ (P0 : Prop) (P1 : Prop) (P2 : Prop) (P3 : Prop) (P4 : Prop) (P5 : Prop) [Decidable P0] [Decidable P1] [Decidable P2] [Decidable P3] [Decidable P4] [Decidable P5], ((P0)) → ((P1)) → ((P2)) → ((P3)) → (1 : Int32) = bi (P0 ∧ P1 ∧ (P2 ∨ P4) ∧ (P3 ∨ P5))) (p1 = q2) (l1 = l2) (l1 < (1 : Int32)) (l1 < (2 : Int32)) (a0c = b0c) (a1c = b1c) hc24 hc25 hc26 hc27)
                        · refine goS (n := 266) (Ls' := #[.val (.int p1), .val (.int p2), .val (.int p3), .val (.int p4), .val (.int p5), .val (.int l1), .val (.int l2), .val (.int a0c), .val (.int a1c), .val (.int sm), .val (.int b0c), .val (.int b1c), .val (.int q2), .val (.int kd), .val (.ref b6), .val (.ref b17), .unset]) (st' := []) (fun _ kz => XS.icmpNo X19.here hx rfl (hb hby at_263) rfl (flt hc27).1 kz) ?_
                          refine goS (n := 268) (Ls' := #[.val (.int p1), .val (.int p2), .val (.int p3), .val (.int p4), .val (.int p5), .val (.int l1), .val (.int l2), .val (.int a0c), .val (.int a1c), .val (.int sm), .val (.int b0c), .val (.int b1c), .val (.int q2), .val (.int kd), .val (.ref b6), .val (.ref b17), .unset]) (st' := [(.int a1c)]) (fun _ kz => XS.iload X19.here hx rfl (hb hby at_266) rfl kz) ?_
                          refine goS (n := 270) (Ls' := #[.val (.int p1), .val (.int p2), .val (.int p3), .val (.int p4), .val (.int p5), .val (.int l1), .val (.int l2), .val (.int a0c), .val (.int a1c), .val (.int sm), .val (.int b0c), .val (.int b1c), .val (.int q2), .val (.int kd), .val (.ref b6), .val (.ref b17), .unset]) (st' := [(.int b1c), (.int a1c)]) (fun _ kz => XS.iload X19.here hx rfl (hb hby at_268) rfl kz) ?_
                          by_cases hc28 : a1c = b1c
                          · refine goS (n := 273) (Ls' := #[.val (.int p1), .val (.int p2), .val (.int p3), .val (.int p4), .val (.int p5), .val (.int l1), .val (.int l2), .val (.int a0c), .val (.int a1c), .val (.int sm), .val (.int b0c), .val (.int b1c), .val (.int q2), .val (.int kd), .val (.ref b6), .val (.ref b17), .unset]) (st' := []) (fun _ kz => XS.icmpNo X19.here hx rfl (hb hby at_270) rfl (teq hc28).2 kz) ?_
                            refine goS (n := 274) (Ls' := #[.val (.int p1), .val (.int p2), .val (.int p3), .val (.int p4), .val (.int p5), .val (.int l1), .val (.int l2), .val (.int a0c), .val (.int a1c), .val (.int sm), .val (.int b0c), .val (.int b1c), .val (.int q2), .val (.int kd), .val (.ref b6), .val (.ref b17), .unset]) (st' := [(.int (1 : Int32))]) (fun _ kz => XS.iconst X19.here hx rfl (hb hby at_273) kz) ?_
                            refine goS (n := 278) (Ls' := #[.val (.int p1), .val (.int p2), .val (.int p3), .val (.int p4), .val (.int p5), .val (.int l1), .val (.int l2), .val (.int a0c), .val (.int a1c), .val (.int sm), .val (.int b0c), .val (.int b1c), .val (.int q2), .val (.int kd), .val (.ref b6), .val (.ref b17), .unset]) (st' := [(.int (1 : Int32))]) (fun _ kz => XS.goto X19.here hx rfl (pc0 := 274) (pc' := 278) rfl (hb hby at_274) (by decide) (by decide) kz) ?_
                            exact jn21 _ (((by intros; simp_all [bi]) : ∀ (P0 : Prop) (P1 : Prop) (P2 : Prop) (P3 : Prop) (P4 : Prop) (P5 : Prop) [Decidable P0] [Decidable P1] [Decidable P2] [Decidable P3] [Decidable P4] [Decidable P5], ((P0)) → ((P1)) → ((P2)) → (¬ (P3)) → ((P5)) → (1 : Int32) = bi (P0 ∧ P1 ∧ (P2 ∨ P4) ∧ (P3 ∨ P5))) (p1 = q2) (l1 = l2) (l1 < (1 : Int32)) (l1 < (2 : Int32)) (a0c = b0c) (a1c = b1c) hc24 hc25 hc26 hc27 hc28)
                          · refine goS (n := 277) (Ls' := #[.val (.int p1), .val (.int p2), .val (.int p3), .val (.int p4), .val (.int p5), .val (.int l1), .val (.int l2), .val (.int a0c), .val (.int a1c), .val (.int sm), .val (.int b0c), .val (.int b1c), .val (.int q2), .val (.int kd), .val (.ref b6), .val (.ref b17), .unset]) (st' := []) (fun _ kz => XS.icmpYes X19.here hx rfl (pc0 := 270) (pc' := 277) rfl (hb hby at_270) rfl (feq hc28).2 (by decide) (by decide) kz) ?_
                            refine goS (n := 278) (Ls' := #[.val (.int p1), .val (.int p2), .val (.int p3), .val (.int p4), .val (.int p5), .val (.int l1), .val (.int l2), .val (.int a0c), .val (.int a1c), .val (.int sm), .val (.int b0c), .val (.int b1c), .val (.int q2), .val (.int kd), .val (.ref b6), .val (.ref b17), .unset]) (st' := [(.int (0 : Int32))]) (fun _ kz => XS.iconst X19.here hx rfl (hb hby at_277) kz) ?_
                            exact jn21 _ (((by intros; simp_all [bi]) : ∀ (P0 : Prop) (P1 : Prop) (P2 : Prop) (P3 : Prop) (P4 : Prop) (P5 : Prop) [Decidable P0] [Decidable P1] [Decidable P2] [Decidable P3] [Decidable P4] [Decidable P5], ((P0)) → ((P1)) → ((P2)) → (¬ (P3)) → (¬ (P5)) → (0 : Int32) = bi (P0 ∧ P1 ∧ (P2 ∨ P4) ∧ (P3 ∨ P5))) (p1 = q2) (l1 = l2) (l1 < (1 : Int32)) (l1 < (2 : Int32)) (a0c = b0c) (a1c = b1c) hc24 hc25 hc26 hc27 hc28)
                      · refine goS (n := 253) (Ls' := #[.val (.int p1), .val (.int p2), .val (.int p3), .val (.int p4), .val (.int p5), .val (.int l1), .val (.int l2), .val (.int a0c), .val (.int a1c), .val (.int sm), .val (.int b0c), .val (.int b1c), .val (.int q2), .val (.int kd), .val (.ref b6), .val (.ref b17), .unset]) (st' := []) (fun _ kz => XS.icmpNo X19.here hx rfl (hb hby at_250) rfl (flt hc26).1 kz) ?_
                        refine goS (n := 255) (Ls' := #[.val (.int p1), .val (.int p2), .val (.int p3), .val (.int p4), .val (.int p5), .val (.int l1), .val (.int l2), .val (.int a0c), .val (.int a1c), .val (.int sm), .val (.int b0c), .val (.int b1c), .val (.int q2), .val (.int kd), .val (.ref b6), .val (.ref b17), .unset]) (st' := [(.int a0c)]) (fun _ kz => XS.iload X19.here hx rfl (hb hby at_253) rfl kz) ?_
                        refine goS (n := 257) (Ls' := #[.val (.int p1), .val (.int p2), .val (.int p3), .val (.int p4), .val (.int p5), .val (.int l1), .val (.int l2), .val (.int a0c), .val (.int a1c), .val (.int sm), .val (.int b0c), .val (.int b1c), .val (.int q2), .val (.int kd), .val (.ref b6), .val (.ref b17), .unset]) (st' := [(.int b0c), (.int a0c)]) (fun _ kz => XS.iload X19.here hx rfl (hb hby at_255) rfl kz) ?_
                        by_cases hc29 : a0c = b0c
                        · refine goS (n := 260) (Ls' := #[.val (.int p1), .val (.int p2), .val (.int p3), .val (.int p4), .val (.int p5), .val (.int l1), .val (.int l2), .val (.int a0c), .val (.int a1c), .val (.int sm), .val (.int b0c), .val (.int b1c), .val (.int q2), .val (.int kd), .val (.ref b6), .val (.ref b17), .unset]) (st' := []) (fun _ kz => XS.icmpNo X19.here hx rfl (hb hby at_257) rfl (teq hc29).2 kz) ?_
                          refine goS (n := 262) (Ls' := #[.val (.int p1), .val (.int p2), .val (.int p3), .val (.int p4), .val (.int p5), .val (.int l1), .val (.int l2), .val (.int a0c), .val (.int a1c), .val (.int sm), .val (.int b0c), .val (.int b1c), .val (.int q2), .val (.int kd), .val (.ref b6), .val (.ref b17), .unset]) (st' := [(.int l1)]) (fun _ kz => XS.iload X19.here hx rfl (hb hby at_260) rfl kz) ?_
                          refine goS (n := 263) (Ls' := #[.val (.int p1), .val (.int p2), .val (.int p3), .val (.int p4), .val (.int p5), .val (.int l1), .val (.int l2), .val (.int a0c), .val (.int a1c), .val (.int sm), .val (.int b0c), .val (.int b1c), .val (.int q2), .val (.int kd), .val (.ref b6), .val (.ref b17), .unset]) (st' := [(.int (2 : Int32)), (.int l1)]) (fun _ kz => XS.iconst X19.here hx rfl (hb hby at_262) kz) ?_
                          by_cases hc30 : l1 < (2 : Int32)
                          · refine goS (n := 273) (Ls' := #[.val (.int p1), .val (.int p2), .val (.int p3), .val (.int p4), .val (.int p5), .val (.int l1), .val (.int l2), .val (.int a0c), .val (.int a1c), .val (.int sm), .val (.int b0c), .val (.int b1c), .val (.int q2), .val (.int kd), .val (.ref b6), .val (.ref b17), .unset]) (st' := []) (fun _ kz => XS.icmpYes X19.here hx rfl (pc0 := 263) (pc' := 273) rfl (hb hby at_263) rfl (tlt hc30).1 (by decide) (by decide) kz) ?_
                            refine goS (n := 274) (Ls' := #[.val (.int p1), .val (.int p2), .val (.int p3), .val (.int p4), .val (.int p5), .val (.int l1), .val (.int l2), .val (.int a0c), .val (.int a1c), .val (.int sm), .val (.int b0c), .val (.int b1c), .val (.int q2), .val (.int kd), .val (.ref b6), .val (.ref b17), .unset]) (st' := [(.int (1 : Int32))]) (fun _ kz => XS.iconst X19.here hx rfl (hb hby at_273) kz) ?_
                            refine goS (n := 278) (Ls' := #[.val (.int p1), .val (.int p2), .val (.int p3), .val (.int p4), .val (.int p5), .val (.int l1), .val (.int l2), .val (.int a0c), .val (.int a1c), .val (.int sm), .val (.int b0c), .val (.int b1c), .val (.int q2), .val (.int kd), .val (.ref b6), .val (.ref b17), .unset]) (st' := [(.int (1 : Int32))]) (fun _ kz => XS.goto X19.here hx rfl (pc0 := 274) (pc' := 278) rfl (hb hby at_274) (by decide) (by decide) kz) ?_
                            exact jn21 _ (((by intros; simp_all [bi]) : ∀ (P0 : Prop) (P1 : Prop) (P2 : Prop) (P3 : Prop) (P4 : Prop) (P5 : Prop) [Decidable P0] [Decidable P1] [Decidable P2] [Decidable P3] [Decidable P4] [Decidable P5], ((P0)) → ((P1)) → (¬ (P2)) → ((P4)) → ((P3)) → (1 : Int32) = bi (P0 ∧ P1 ∧ (P2 ∨ P4) ∧ (P3 ∨ P5))) (p1 = q2) (l1 = l2) (l1 < (1 : Int32)) (l1 < (2 : Int32)) (a0c = b0c) (a1c = b1c) hc24 hc25 hc26 hc29 hc30)
                          · refine goS (n := 266) (Ls' := #[.val (.int p1), .val (.int p2), .val (.int p3), .val (.int p4), .val (.int p5), .val (.int l1), .val (.int l2), .val (.int a0c), .val (.int a1c), .val (.int sm), .val (.int b0c), .val (.int b1c), .val (.int q2), .val (.int kd), .val (.ref b6), .val (.ref b17), .unset]) (st' := []) (fun _ kz => XS.icmpNo X19.here hx rfl (hb hby at_263) rfl (flt hc30).1 kz) ?_
                            refine goS (n := 268) (Ls' := #[.val (.int p1), .val (.int p2), .val (.int p3), .val (.int p4), .val (.int p5), .val (.int l1), .val (.int l2), .val (.int a0c), .val (.int a1c), .val (.int sm), .val (.int b0c), .val (.int b1c), .val (.int q2), .val (.int kd), .val (.ref b6), .val (.ref b17), .unset]) (st' := [(.int a1c)]) (fun _ kz => XS.iload X19.here hx rfl (hb hby at_266) rfl kz) ?_
                            refine goS (n := 270) (Ls' := #[.val (.int p1), .val (.int p2), .val (.int p3), .val (.int p4), .val (.int p5), .val (.int l1), .val (.int l2), .val (.int a0c), .val (.int a1c), .val (.int sm), .val (.int b0c), .val (.int b1c), .val (.int q2), .val (.int kd), .val (.ref b6), .val (.ref b17), .unset]) (st' := [(.int b1c), (.int a1c)]) (fun _ kz => XS.iload X19.here hx rfl (hb hby at_268) rfl kz) ?_
                            by_cases hc31 : a1c = b1c
                            · refine goS (n := 273) (Ls' := #[.val (.int p1), .val (.int p2), .val (.int p3), .val (.int p4), .val (.int p5), .val (.int l1), .val (.int l2), .val (.int a0c), .val (.int a1c), .val (.int sm), .val (.int b0c), .val (.int b1c), .val (.int q2), .val (.int kd), .val (.ref b6), .val (.ref b17), .unset]) (st' := []) (fun _ kz => XS.icmpNo X19.here hx rfl (hb hby at_270) rfl (teq hc31).2 kz) ?_
                              refine goS (n := 274) (Ls' := #[.val (.int p1), .val (.int p2), .val (.int p3), .val (.int p4), .val (.int p5), .val (.int l1), .val (.int l2), .val (.int a0c), .val (.int a1c), .val (.int sm), .val (.int b0c), .val (.int b1c), .val (.int q2), .val (.int kd), .val (.ref b6), .val (.ref b17), .unset]) (st' := [(.int (1 : Int32))]) (fun _ kz => XS.iconst X19.here hx rfl (hb hby at_273) kz) ?_
                              refine goS (n := 278) (Ls' := #[.val (.int p1), .val (.int p2), .val (.int p3), .val (.int p4), .val (.int p5), .val (.int l1), .val (.int l2), .val (.int a0c), .val (.int a1c), .val (.int sm), .val (.int b0c), .val (.int b1c), .val (.int q2), .val (.int kd), .val (.ref b6), .val (.ref b17), .unset]) (st' := [(.int (1 : Int32))]) (fun _ kz => XS.goto X19.here hx rfl (pc0 := 274) (pc' := 278) rfl (hb hby at_274) (by decide) (by decide) kz) ?_
                              exact jn21 _ (((by intros; simp_all [bi]) : ∀ (P0 : Prop) (P1 : Prop) (P2 : Prop) (P3 : Prop) (P4 : Prop) (P5 : Prop) [Decidable P0] [Decidable P1] [Decidable P2] [Decidable P3] [Decidable P4] [Decidable P5], ((P0)) → ((P1)) → (¬ (P2)) → ((P4)) → (¬ (P3)) → ((P5)) → (1 : Int32) = bi (P0 ∧ P1 ∧ (P2 ∨ P4) ∧ (P3 ∨ P5))) (p1 = q2) (l1 = l2) (l1 < (1 : Int32)) (l1 < (2 : Int32)) (a0c = b0c) (a1c = b1c) hc24 hc25 hc26 hc29 hc30 hc31)
                            · refine goS (n := 277) (Ls' := #[.val (.int p1), .val (.int p2), .val (.int p3), .val (.int p4), .val (.int p5), .val (.int l1), .val (.int l2), .val (.int a0c), .val (.int a1c), .val (.int sm), .val (.int b0c), .val (.int b1c), .val (.int q2), .val (.int kd), .val (.ref b6), .val (.ref b17), .unset]) (st' := []) (fun _ kz => XS.icmpYes X19.here hx rfl (pc0 := 270) (pc' := 277) rfl (hb hby at_270) rfl (feq hc31).2 (by decide) (by decide) kz) ?_
                              refine goS (n := 278) (Ls' := #[.val (.int p1), .val (.int p2), .val (.int p3), .val (.int p4), .val (.int p5), .val (.int l1), .val (.int l2), .val (.int a0c), .val (.int a1c), .val (.int sm), .val (.int b0c), .val (.int b1c), .val (.int q2), .val (.int kd), .val (.ref b6), .val (.ref b17), .unset]) (st' := [(.int (0 : Int32))]) (fun _ kz => XS.iconst X19.here hx rfl (hb hby at_277) kz) ?_
                              exact jn21 _ (((by intros; simp_all [bi]) : ∀ (P0 : Prop) (P1 : Prop) (P2 : Prop) (P3 : Prop) (P4 : Prop) (P5 : Prop) [Decidable P0] [Decidable P1] [Decidable P2] [Decidable P3] [Decidable P4] [Decidable P5], ((P0)) → ((P1)) → (¬ (P2)) → ((P4)) → (¬ (P3)) → (¬ (P5)) → (0 : Int32) = bi (P0 ∧ P1 ∧ (P2 ∨ P4) ∧ (P3 ∨ P5))) (p1 = q2) (l1 = l2) (l1 < (1 : Int32)) (l1 < (2 : Int32)) (a0c = b0c) (a1c = b1c) hc24 hc25 hc26 hc29 hc30 hc31)
                        · refine goS (n := 277) (Ls' := #[.val (.int p1), .val (.int p2), .val (.int p3), .val (.int p4), .val (.int p5), .val (.int l1), .val (.int l2), .val (.int a0c), .val (.int a1c), .val (.int sm), .val (.int b0c), .val (.int b1c), .val (.int q2), .val (.int kd), .val (.ref b6), .val (.ref b17), .unset]) (st' := []) (fun _ kz => XS.icmpYes X19.here hx rfl (pc0 := 257) (pc' := 277) rfl (hb hby at_257) rfl (feq hc29).2 (by decide) (by decide) kz) ?_
                          refine goS (n := 278) (Ls' := #[.val (.int p1), .val (.int p2), .val (.int p3), .val (.int p4), .val (.int p5), .val (.int l1), .val (.int l2), .val (.int a0c), .val (.int a1c), .val (.int sm), .val (.int b0c), .val (.int b1c), .val (.int q2), .val (.int kd), .val (.ref b6), .val (.ref b17), .unset]) (st' := [(.int (0 : Int32))]) (fun _ kz => XS.iconst X19.here hx rfl (hb hby at_277) kz) ?_
                          exact jn21 _ (((by intros; simp_all [bi]) : ∀ (P0 : Prop) (P1 : Prop) (P2 : Prop) (P3 : Prop) (P4 : Prop) (P5 : Prop) [Decidable P0] [Decidable P1] [Decidable P2] [Decidable P3] [Decidable P4] [Decidable P5], ((P0)) → ((P1)) → (¬ (P2)) → (¬ (P4)) → (0 : Int32) = bi (P0 ∧ P1 ∧ (P2 ∨ P4) ∧ (P3 ∨ P5))) (p1 = q2) (l1 = l2) (l1 < (1 : Int32)) (l1 < (2 : Int32)) (a0c = b0c) (a1c = b1c) hc24 hc25 hc26 hc29)
                    · refine goS (n := 277) (Ls' := #[.val (.int p1), .val (.int p2), .val (.int p3), .val (.int p4), .val (.int p5), .val (.int l1), .val (.int l2), .val (.int a0c), .val (.int a1c), .val (.int sm), .val (.int b0c), .val (.int b1c), .val (.int q2), .val (.int kd), .val (.ref b6), .val (.ref b17), .unset]) (st' := []) (fun _ kz => XS.icmpYes X19.here hx rfl (pc0 := 244) (pc' := 277) rfl (hb hby at_244) rfl (feq hc25).2 (by decide) (by decide) kz) ?_
                      refine goS (n := 278) (Ls' := #[.val (.int p1), .val (.int p2), .val (.int p3), .val (.int p4), .val (.int p5), .val (.int l1), .val (.int l2), .val (.int a0c), .val (.int a1c), .val (.int sm), .val (.int b0c), .val (.int b1c), .val (.int q2), .val (.int kd), .val (.ref b6), .val (.ref b17), .unset]) (st' := [(.int (0 : Int32))]) (fun _ kz => XS.iconst X19.here hx rfl (hb hby at_277) kz) ?_
                      exact jn21 _ (((by intros; simp_all [bi]) : ∀ (P0 : Prop) (P1 : Prop) (P2 : Prop) (P3 : Prop) (P4 : Prop) (P5 : Prop) [Decidable P0] [Decidable P1] [Decidable P2] [Decidable P3] [Decidable P4] [Decidable P5], ((P0)) → (¬ (P1)) → (0 : Int32) = bi (P0 ∧ P1 ∧ (P2 ∨ P4) ∧ (P3 ∨ P5))) (p1 = q2) (l1 = l2) (l1 < (1 : Int32)) (l1 < (2 : Int32)) (a0c = b0c) (a1c = b1c) hc24 hc25)
                  · refine goS (n := 277) (Ls' := #[.val (.int p1), .val (.int p2), .val (.int p3), .val (.int p4), .val (.int p5), .val (.int l1), .val (.int l2), .val (.int a0c), .val (.int a1c), .val (.int sm), .val (.int b0c), .val (.int b1c), .val (.int q2), .val (.int kd), .val (.ref b6), .val (.ref b17), .unset]) (st' := []) (fun _ kz => XS.icmpYes X19.here hx rfl (pc0 := 237) (pc' := 277) rfl (hb hby at_237) rfl (feq hc24).2 (by decide) (by decide) kz) ?_
                    refine goS (n := 278) (Ls' := #[.val (.int p1), .val (.int p2), .val (.int p3), .val (.int p4), .val (.int p5), .val (.int l1), .val (.int l2), .val (.int a0c), .val (.int a1c), .val (.int sm), .val (.int b0c), .val (.int b1c), .val (.int q2), .val (.int kd), .val (.ref b6), .val (.ref b17), .unset]) (st' := [(.int (0 : Int32))]) (fun _ kz => XS.iconst X19.here hx rfl (hb hby at_277) kz) ?_
                    exact jn21 _ (((by intros; simp_all [bi]) : ∀ (P0 : Prop) (P1 : Prop) (P2 : Prop) (P3 : Prop) (P4 : Prop) (P5 : Prop) [Decidable P0] [Decidable P1] [Decidable P2] [Decidable P3] [Decidable P4] [Decidable P5], (¬ (P0)) → (0 : Int32) = bi (P0 ∧ P1 ∧ (P2 ∨ P4) ∧ (P3 ∨ P5))) (p1 = q2) (l1 = l2) (l1 < (1 : Int32)) (l1 < (2 : Int32)) (a0c = b0c) (a1c = b1c) hc24)
          by_cases hc32 : (p5 &&& (64 : Int32)) = (0 : Int32)
          · refine goS (n := 115) (Ls' := #[.val (.int p1), .val (.int p2), .val (.int p3), .val (.int p4), .val (.int p5), .val (.int l1), .val (.int l2), .val (.int a0c), .val (.int a1c), .val (.int sm), .val (.int b0c), .val (.int b1c), .unset, .unset, .unset, .unset, .unset]) (st' := []) (fun _ kz => XS.ifYes X0.here hx rfl (pc0 := 108) (pc' := 115) rfl (hb hby at_108) rfl ((if0 _ _).trans (teq hc32).1) (by decide) (by decide) kz) ?_
            refine goS (n := 116) (Ls' := #[.val (.int p1), .val (.int p2), .val (.int p3), .val (.int p4), .val (.int p5), .val (.int l1), .val (.int l2), .val (.int a0c), .val (.int a1c), .val (.int sm), .val (.int b0c), .val (.int b1c), .unset, .unset, .unset, .unset, .unset]) (st' := [(.int p2)]) (fun _ kz => XS.iloadN X0.here hx rfl (hb hby at_115) rfl kz) ?_
            exact jn5 _ (trivial)
          · refine goS (n := 111) (Ls' := #[.val (.int p1), .val (.int p2), .val (.int p3), .val (.int p4), .val (.int p5), .val (.int l1), .val (.int l2), .val (.int a0c), .val (.int a1c), .val (.int sm), .val (.int b0c), .val (.int b1c), .unset, .unset, .unset, .unset, .unset]) (st' := []) (fun _ kz => XS.ifNo X0.here hx rfl (hb hby at_108) rfl ((if0 _ _).trans (feq hc32).1) kz) ?_
            refine goS (n := 112) (Ls' := #[.val (.int p1), .val (.int p2), .val (.int p3), .val (.int p4), .val (.int p5), .val (.int l1), .val (.int l2), .val (.int a0c), .val (.int a1c), .val (.int sm), .val (.int b0c), .val (.int b1c), .unset, .unset, .unset, .unset, .unset]) (st' := [(.int p1)]) (fun _ kz => XS.iloadN X0.here hx rfl (hb hby at_111) rfl kz) ?_
            refine goS (n := 116) (Ls' := #[.val (.int p1), .val (.int p2), .val (.int p3), .val (.int p4), .val (.int p5), .val (.int l1), .val (.int l2), .val (.int a0c), .val (.int a1c), .val (.int sm), .val (.int b0c), .val (.int b1c), .unset, .unset, .unset, .unset, .unset]) (st' := [(.int p1)]) (fun _ kz => XS.goto X0.here hx rfl (pc0 := 112) (pc' := 116) rfl (hb hby at_112) (by decide) (by decide) kz) ?_
            exact jn5 _ (trivial)
        by_cases hc33 : sm = (0 : Int32)
        · refine goS (n := 92) (Ls' := #[.val (.int p1), .val (.int p2), .val (.int p3), .val (.int p4), .val (.int p5), .val (.int l1), .val (.int l2), .val (.int a0c), .val (.int a1c), .val (.int sm), .val (.int b0c), .unset, .unset, .unset, .unset, .unset, .unset]) (st' := []) (fun _ kz => XS.ifYes X0.here hx rfl (pc0 := 84) (pc' := 92) rfl (hb hby at_84) rfl ((if0 _ _).trans (teq hc33).1) (by decide) (by decide) kz) ?_
          refine goS (n := 93) (Ls' := #[.val (.int p1), .val (.int p2), .val (.int p3), .val (.int p4), .val (.int p5), .val (.int l1), .val (.int l2), .val (.int a0c), .val (.int a1c), .val (.int sm), .val (.int b0c), .unset, .unset, .unset, .unset, .unset, .unset]) (st' := [(.int p4)]) (fun _ kz => XS.iloadN X0.here hx rfl (hb hby at_92) rfl kz) ?_
          refine goS (n := 95) (Ls' := #[.val (.int p1), .val (.int p2), .val (.int p3), .val (.int p4), .val (.int p5), .val (.int l1), .val (.int l2), .val (.int a0c), .val (.int a1c), .val (.int sm), .val (.int b0c), .unset, .unset, .unset, .unset, .unset, .unset]) (st' := [(.int (8 : Int32)), (.int p4)]) (fun _ kz => XS.bipush X0.here hx rfl (hb hby at_93) kz) ?_
          refine goS (n := 96) (Ls' := #[.val (.int p1), .val (.int p2), .val (.int p3), .val (.int p4), .val (.int p5), .val (.int l1), .val (.int l2), .val (.int a0c), .val (.int a1c), .val (.int sm), .val (.int b0c), .unset, .unset, .unset, .unset, .unset, .unset]) (st' := [(.int ((p4.toUInt32 >>> ((8 : Int32) &&& 31).toUInt32).toInt32))]) (fun _ kz => XS.iushr X0.here hx rfl (hb hby at_95) rfl kz) ?_
          refine goS (n := 99) (Ls' := #[.val (.int p1), .val (.int p2), .val (.int p3), .val (.int p4), .val (.int p5), .val (.int l1), .val (.int l2), .val (.int a0c), .val (.int a1c), .val (.int sm), .val (.int b0c), .unset, .unset, .unset, .unset, .unset, .unset]) (st' := [(.int (255 : Int32)), (.int ((p4.toUInt32 >>> ((8 : Int32) &&& 31).toUInt32).toInt32))]) (fun _ kz => XS.sipush X0.here hx rfl (hb hby at_96) kz) ?_
          refine goS (n := 100) (Ls' := #[.val (.int p1), .val (.int p2), .val (.int p3), .val (.int p4), .val (.int p5), .val (.int l1), .val (.int l2), .val (.int a0c), .val (.int a1c), .val (.int sm), .val (.int b0c), .unset, .unset, .unset, .unset, .unset, .unset]) (st' := [(.int (((p4.toUInt32 >>> ((8 : Int32) &&& 31).toUInt32).toInt32) &&& (255 : Int32)))]) (fun _ kz => XS.iand X0.here hx rfl (hb hby at_99) rfl kz) ?_
          refine goS (n := 101) (Ls' := #[.val (.int p1), .val (.int p2), .val (.int p3), .val (.int p4), .val (.int p5), .val (.int l1), .val (.int l2), .val (.int a0c), .val (.int a1c), .val (.int sm), .val (.int b0c), .unset, .unset, .unset, .unset, .unset, .unset]) (st' := [(.int ((((p4.toUInt32 >>> ((8 : Int32) &&& 31).toUInt32).toInt32) &&& (255 : Int32)).toUInt32.toUInt16.toUInt32.toInt32))]) (fun _ kz => XS.i2c X0.here hx rfl (hb hby at_100) rfl kz) ?_
          exact jn4 _ (own_cr _)
        · refine goS (n := 87) (Ls' := #[.val (.int p1), .val (.int p2), .val (.int p3), .val (.int p4), .val (.int p5), .val (.int l1), .val (.int l2), .val (.int a0c), .val (.int a1c), .val (.int sm), .val (.int b0c), .unset, .unset, .unset, .unset, .unset, .unset]) (st' := []) (fun _ kz => XS.ifNo X0.here hx rfl (hb hby at_84) rfl ((if0 _ _).trans (feq hc33).1) kz) ?_
          refine goS (n := 89) (Ls' := #[.val (.int p1), .val (.int p2), .val (.int p3), .val (.int p4), .val (.int p5), .val (.int l1), .val (.int l2), .val (.int a0c), .val (.int a1c), .val (.int sm), .val (.int b0c), .unset, .unset, .unset, .unset, .unset, .unset]) (st' := [(.int a1c)]) (fun _ kz => XS.iload X0.here hx rfl (hb hby at_87) rfl kz) ?_
          refine goS (n := 101) (Ls' := #[.val (.int p1), .val (.int p2), .val (.int p3), .val (.int p4), .val (.int p5), .val (.int l1), .val (.int l2), .val (.int a0c), .val (.int a1c), .val (.int sm), .val (.int b0c), .unset, .unset, .unset, .unset, .unset, .unset]) (st' := [(.int a1c)]) (fun _ kz => XS.goto X0.here hx rfl (pc0 := 89) (pc' := 101) rfl (hb hby at_89) (by decide) (by decide) kz) ?_
          exact jn4 _ (ra1c)
      by_cases hc34 : sm = (0 : Int32)
      · refine goS (n := 74) (Ls' := #[.val (.int p1), .val (.int p2), .val (.int p3), .val (.int p4), .val (.int p5), .val (.int l1), .val (.int l2), .val (.int a0c), .val (.int a1c), .val (.int sm), .unset, .unset, .unset, .unset, .unset, .unset, .unset]) (st' := []) (fun _ kz => XS.ifYes X0.here hx rfl (pc0 := 66) (pc' := 74) rfl (hb hby at_66) rfl ((if0 _ _).trans (teq hc34).1) (by decide) (by decide) kz) ?_
        refine goS (n := 75) (Ls' := #[.val (.int p1), .val (.int p2), .val (.int p3), .val (.int p4), .val (.int p5), .val (.int l1), .val (.int l2), .val (.int a0c), .val (.int a1c), .val (.int sm), .unset, .unset, .unset, .unset, .unset, .unset, .unset]) (st' := [(.int p4)]) (fun _ kz => XS.iloadN X0.here hx rfl (hb hby at_74) rfl kz) ?_
        refine goS (n := 78) (Ls' := #[.val (.int p1), .val (.int p2), .val (.int p3), .val (.int p4), .val (.int p5), .val (.int l1), .val (.int l2), .val (.int a0c), .val (.int a1c), .val (.int sm), .unset, .unset, .unset, .unset, .unset, .unset, .unset]) (st' := [(.int (255 : Int32)), (.int p4)]) (fun _ kz => XS.sipush X0.here hx rfl (hb hby at_75) kz) ?_
        refine goS (n := 79) (Ls' := #[.val (.int p1), .val (.int p2), .val (.int p3), .val (.int p4), .val (.int p5), .val (.int l1), .val (.int l2), .val (.int a0c), .val (.int a1c), .val (.int sm), .unset, .unset, .unset, .unset, .unset, .unset, .unset]) (st' := [(.int (p4 &&& (255 : Int32)))]) (fun _ kz => XS.iand X0.here hx rfl (hb hby at_78) rfl kz) ?_
        refine goS (n := 80) (Ls' := #[.val (.int p1), .val (.int p2), .val (.int p3), .val (.int p4), .val (.int p5), .val (.int l1), .val (.int l2), .val (.int a0c), .val (.int a1c), .val (.int sm), .unset, .unset, .unset, .unset, .unset, .unset, .unset]) (st' := [(.int ((p4 &&& (255 : Int32)).toUInt32.toUInt16.toUInt32.toInt32))]) (fun _ kz => XS.i2c X0.here hx rfl (hb hby at_79) rfl kz) ?_
        exact jn3 _ (own_cr _)
      · refine goS (n := 69) (Ls' := #[.val (.int p1), .val (.int p2), .val (.int p3), .val (.int p4), .val (.int p5), .val (.int l1), .val (.int l2), .val (.int a0c), .val (.int a1c), .val (.int sm), .unset, .unset, .unset, .unset, .unset, .unset, .unset]) (st' := []) (fun _ kz => XS.ifNo X0.here hx rfl (hb hby at_66) rfl ((if0 _ _).trans (feq hc34).1) kz) ?_
        refine goS (n := 71) (Ls' := #[.val (.int p1), .val (.int p2), .val (.int p3), .val (.int p4), .val (.int p5), .val (.int l1), .val (.int l2), .val (.int a0c), .val (.int a1c), .val (.int sm), .unset, .unset, .unset, .unset, .unset, .unset, .unset]) (st' := [(.int a0c)]) (fun _ kz => XS.iload X0.here hx rfl (hb hby at_69) rfl kz) ?_
        refine goS (n := 80) (Ls' := #[.val (.int p1), .val (.int p2), .val (.int p3), .val (.int p4), .val (.int p5), .val (.int l1), .val (.int l2), .val (.int a0c), .val (.int a1c), .val (.int sm), .unset, .unset, .unset, .unset, .unset, .unset, .unset]) (st' := [(.int a0c)]) (fun _ kz => XS.goto X0.here hx rfl (pc0 := 71) (pc' := 80) rfl (hb hby at_71) (by decide) (by decide) kz) ?_
        exact jn3 _ (ra0c)
    by_cases hc35 : (p5 &&& (4 : Int32)) = (0 : Int32)
    · refine goS (n := 61) (Ls' := #[.val (.int p1), .val (.int p2), .val (.int p3), .val (.int p4), .val (.int p5), .val (.int l1), .val (.int l2), .val (.int a0c), .val (.int a1c), .unset, .unset, .unset, .unset, .unset, .unset, .unset, .unset]) (st' := []) (fun _ kz => XS.ifYes X0.here hx rfl (pc0 := 54) (pc' := 61) rfl (hb hby at_54) rfl ((if0 _ _).trans (teq hc35).1) (by decide) (by decide) kz) ?_
      refine goS (n := 62) (Ls' := #[.val (.int p1), .val (.int p2), .val (.int p3), .val (.int p4), .val (.int p5), .val (.int l1), .val (.int l2), .val (.int a0c), .val (.int a1c), .unset, .unset, .unset, .unset, .unset, .unset, .unset, .unset]) (st' := [(.int (0 : Int32))]) (fun _ kz => XS.iconst X0.here hx rfl (hb hby at_61) kz) ?_
      exact jn2 _ (bi_f (fun q => q hc35)).symm
    · refine goS (n := 57) (Ls' := #[.val (.int p1), .val (.int p2), .val (.int p3), .val (.int p4), .val (.int p5), .val (.int l1), .val (.int l2), .val (.int a0c), .val (.int a1c), .unset, .unset, .unset, .unset, .unset, .unset, .unset, .unset]) (st' := []) (fun _ kz => XS.ifNo X0.here hx rfl (hb hby at_54) rfl ((if0 _ _).trans (feq hc35).1) kz) ?_
      refine goS (n := 58) (Ls' := #[.val (.int p1), .val (.int p2), .val (.int p3), .val (.int p4), .val (.int p5), .val (.int l1), .val (.int l2), .val (.int a0c), .val (.int a1c), .unset, .unset, .unset, .unset, .unset, .unset, .unset, .unset]) (st' := [(.int (1 : Int32))]) (fun _ kz => XS.iconst X0.here hx rfl (hb hby at_57) kz) ?_
      refine goS (n := 62) (Ls' := #[.val (.int p1), .val (.int p2), .val (.int p3), .val (.int p4), .val (.int p5), .val (.int l1), .val (.int l2), .val (.int a0c), .val (.int a1c), .unset, .unset, .unset, .unset, .unset, .unset, .unset, .unset]) (st' := [(.int (1 : Int32))]) (fun _ kz => XS.goto X0.here hx rfl (pc0 := 58) (pc' := 62) rfl (hb hby at_58) (by decide) (by decide) kz) ?_
      exact jn2 _ (bi_t hc35).symm
  by_cases hc36 : (p5 &&& (8 : Int32)) = (0 : Int32)
  · refine goS (n := 21) (Ls' := #[.val (.int p1), .val (.int p2), .val (.int p3), .val (.int p4), .val (.int p5), .val (.int l1), .unset, .unset, .unset, .unset, .unset, .unset, .unset, .unset, .unset, .unset, .unset]) (st' := []) (fun _ kz => XS.ifYes X0.here hx rfl (pc0 := 13) (pc' := 21) rfl (hb hby at_13) rfl ((if0 _ _).trans (teq hc36).1) (by decide) (by decide) kz) ?_
    refine goS (n := 23) (Ls' := #[.val (.int p1), .val (.int p2), .val (.int p3), .val (.int p4), .val (.int p5), .val (.int l1), .unset, .unset, .unset, .unset, .unset, .unset, .unset, .unset, .unset, .unset, .unset]) (st' := [(.int p5)]) (fun _ kz => XS.iload X0.here hx rfl (hb hby at_21) rfl kz) ?_
    refine goS (n := 24) (Ls' := #[.val (.int p1), .val (.int p2), .val (.int p3), .val (.int p4), .val (.int p5), .val (.int l1), .unset, .unset, .unset, .unset, .unset, .unset, .unset, .unset, .unset, .unset, .unset]) (st' := [(.int (4 : Int32)), (.int p5)]) (fun _ kz => XS.iconst X0.here hx rfl (hb hby at_23) kz) ?_
    refine goS (n := 25) (Ls' := #[.val (.int p1), .val (.int p2), .val (.int p3), .val (.int p4), .val (.int p5), .val (.int l1), .unset, .unset, .unset, .unset, .unset, .unset, .unset, .unset, .unset, .unset, .unset]) (st' := [(.int ((p5.toUInt32 >>> ((4 : Int32) &&& 31).toUInt32).toInt32))]) (fun _ kz => XS.iushr X0.here hx rfl (hb hby at_24) rfl kz) ?_
    refine goS (n := 26) (Ls' := #[.val (.int p1), .val (.int p2), .val (.int p3), .val (.int p4), .val (.int p5), .val (.int l1), .unset, .unset, .unset, .unset, .unset, .unset, .unset, .unset, .unset, .unset, .unset]) (st' := [(.int (3 : Int32)), (.int ((p5.toUInt32 >>> ((4 : Int32) &&& 31).toUInt32).toInt32))]) (fun _ kz => XS.iconst X0.here hx rfl (hb hby at_25) kz) ?_
    refine goS (n := 27) (Ls' := #[.val (.int p1), .val (.int p2), .val (.int p3), .val (.int p4), .val (.int p5), .val (.int l1), .unset, .unset, .unset, .unset, .unset, .unset, .unset, .unset, .unset, .unset, .unset]) (st' := [(.int (((p5.toUInt32 >>> ((4 : Int32) &&& 31).toUInt32).toInt32) &&& (3 : Int32)))]) (fun _ kz => XS.iand X0.here hx rfl (hb hby at_26) rfl kz) ?_
    refine goS (n := 28) (Ls' := #[.val (.int p1), .val (.int p2), .val (.int p3), .val (.int p4), .val (.int p5), .val (.int l1), .unset, .unset, .unset, .unset, .unset, .unset, .unset, .unset, .unset, .unset, .unset]) (st' := [(.int (3 : Int32)), (.int (((p5.toUInt32 >>> ((4 : Int32) &&& 31).toUInt32).toInt32) &&& (3 : Int32)))]) (fun _ kz => XS.iconst X0.here hx rfl (hb hby at_27) kz) ?_
    refine goS (n := 29) (Ls' := #[.val (.int p1), .val (.int p2), .val (.int p3), .val (.int p4), .val (.int p5), .val (.int l1), .unset, .unset, .unset, .unset, .unset, .unset, .unset, .unset, .unset, .unset, .unset]) (st' := [(.int ((((p5.toUInt32 >>> ((4 : Int32) &&& 31).toUInt32).toInt32) &&& (3 : Int32)) % (3 : Int32)))]) (fun _ kz => iremM X0 hx rfl (hb hby at_28) rfl (by decide) kz) ?_
    exact jn1 _ (own_m3 _)
  · refine goS (n := 16) (Ls' := #[.val (.int p1), .val (.int p2), .val (.int p3), .val (.int p4), .val (.int p5), .val (.int l1), .unset, .unset, .unset, .unset, .unset, .unset, .unset, .unset, .unset, .unset, .unset]) (st' := []) (fun _ kz => XS.ifNo X0.here hx rfl (hb hby at_13) rfl ((if0 _ _).trans (feq hc36).1) kz) ?_
    refine goS (n := 18) (Ls' := #[.val (.int p1), .val (.int p2), .val (.int p3), .val (.int p4), .val (.int p5), .val (.int l1), .unset, .unset, .unset, .unset, .unset, .unset, .unset, .unset, .unset, .unset, .unset]) (st' := [(.int l1)]) (fun _ kz => XS.iload X0.here hx rfl (hb hby at_16) rfl kz) ?_
    refine goS (n := 29) (Ls' := #[.val (.int p1), .val (.int p2), .val (.int p3), .val (.int p4), .val (.int p5), .val (.int l1), .unset, .unset, .unset, .unset, .unset, .unset, .unset, .unset, .unset, .unset, .unset]) (st' := [(.int l1)]) (fun _ kz => XS.goto X0.here hx rfl (pc0 := 18) (pc' := 29) rfl (hb hby at_18) (by decide) (by decide) kz) ?_
    exact jn1 _ (hl1)
set_option maxRecDepth 65536 in
set_option maxHeartbeats 40000000 in
theorem comes_1 {Post : Tables → Env → Array Value → State → Outcome → State → Prop} (hpost : ∀ tb e args s v u, (limb_1_1.after args s (.returned v) u = true ∧ limb_1_2.after args s (.returned v) u = true ∧ True) → ReturnedEndW s (.returned v) u (Jvm.fieldLocs frame_1_writes args s ++ Jvm.arrayLocs frame_1_arrays args s ++ Jvm.staticLocs frame_1_statics s) 32 1152 → Post tb e args s (.returned v) u) :
    ArmFor flags0 classFile x code maxLocals ret World_1 tables_1 room_1 Calls_1 rest_1 Pre_1 Post := by
  intro l hfl _ _ p e ha hc hk s m args below hf hA hF happ hP
  obtain ⟨hcalls, hrest, hpre⟩ := hP
  obtain ⟨-, -, -, hnamed, -, -, -, hat⟩ := (Spec.applies_iff hf).mp happ
  obtain ⟨hg, hn⟩ := and_e (Cond.before_iff.mp (show (Jvm.Cond.and given_1 narrow_1).before args s = true from hpre))
  obtain ⟨g1, g2⟩ := and_e hg
  obtain ⟨g3, g4⟩ := and_e g2
  obtain ⟨g5, g6⟩ := and_e g4
  obtain ⟨g7, g8⟩ := and_e g6
  obtain ⟨g9, g10⟩ := and_e g8
  obtain ⟨w0, w1, w2, w3, w4, rfl⟩ : ∃ w0 w1 w2 w3 w4 : Value, args = #[w0, w1, w2, w3, w4] := by
    have hs : args.size = 5 := by simpa [Cond.value, given_1] using g1
    obtain ⟨L⟩ := args
    match L, hs with
    | [w0, w1, w2, w3, w4], _ => exact ⟨w0, w1, w2, w3, w4, rfl⟩
  have hw := fun d (hd : d ∈ tables_1) => atoms_spec (ws := Jvm.Cond.code x code maxLocals ret :: tables_1) hat d (List.mem_cons_of_mem _ hd)
  have hfit : Fit s := fun {y c} hc i hi => by
    obtain ⟨ha, rfl⟩ := Array.getElem?_eq_some_iff.mp hc
    have q := List.all_eq_true.mp ((Array.all_eq_true_iff_forall_mem.mp hF) _ (Array.getElem_mem ha)) i (List.mem_range.mpr hi)
    simpa [Array.getElem?_eq_getElem hi] using q
  obtain ⟨hsets, hown0⟩ := atoms_of _ (rest_1_c_eq ▸ (show rest_1_c.before _ s = true from hrest))
  have hr0 := Cond.before_iff.mp hown0
  obtain ⟨i0, ei0⟩ := is_v g3
  obtain rfl : w0 = (.int i0) := Option.some.inj ei0
  obtain ⟨i1, ei1⟩ := is_v g5
  obtain rfl : w1 = (.int i1) := Option.some.inj ei1
  obtain ⟨i2, ei2⟩ := is_v g7
  obtain rfl : w2 = (.int i2) := Option.some.inj ei2
  obtain ⟨i3, ei3⟩ := is_v g9
  obtain rfl : w3 = (.int i3) := Option.some.inj ei3
  obtain ⟨i4, ei4⟩ := is_v g10
  obtain rfl : w4 = (.int i4) := Option.some.inj ei4
  obtain ⟨cs, ecs⟩ := is_v (Cond.before_iff.mp (hsets _ (List.mem_of_getElem? (i := 1) rfl)))
  have S_CS : Sta s s.heap "java/lang/String" "COMPACT_STRINGS" "Z" (.int cs) := Sta.start ecs (Or.inl (hsets _ (List.mem_of_getElem? (i := 0) rfl)))
  have hcs : ¬ cs = (0 : Int32) := gotF (Cond.eq_ints ecs (Term.int_eval _)) (not_v (Cond.before_iff.mp (hsets _ (List.mem_of_getElem? (i := 2) rfl))))
  have hCs : CHv s own_EL s.vm s.heap := CHv.start (own_EW hw) (fun p hp => hcalls.1 p hp) (by exact (hsets _ (List.mem_of_getElem? (i := 2) rfl))) (hw _ (List.mem_of_getElem? (i := 22) rfl)) (hw _ (List.mem_of_getElem? (i := 8) rfl))
  obtain ⟨n, o, h1, h2, h3, _, L, rfl, ⟨rfl, N⟩, -, hq⟩ := rm_law l s _ hw tables_1 i0 i1 i2 i3 i4 cs s.heap s.heap.size (Old.start s) S_CS hcs p e ha hc hk s m _ below hf ((Spec.applies_iff_loose hf).mp happ).1 ⟨rfl, State.Warmed39.refl s, rfl, hCs⟩ trivial
  refine ⟨n, _, h1, h2, h3, hpost _ _ _ _ _ _ ⟨Cond.after_iff.mpr rfl, Cond.after_iff.mpr (eq_i res_at (Term.int_eval (1)) rfl), trivial⟩ ⟨hq.1, hq.2.1, hq.2.2.1, (hq.2.2.2.sift fun y hy => Or.inr (N y hy)).mono (by decide) (by decide)⟩⟩
theorem main_1_1 : Claimed_1_1 := comes_1 fun _ _ _ _ _ _ h hF => ⟨h.1, hF⟩
theorem main_1_2 : Claimed_1_2 := comes_1 fun _ _ _ _ _ _ h hF => ⟨h.2.1, hF⟩
end Jvm.Pilot.@@N@@
namespace Jvm.Pilot.@@N@@
open Jvm Jvm.ClassFile Sem Op Lib Jvm.Free Jvm.Stand Jvm.Pilot.@@N@@.Jvm.D
/-! MADE BY PROGRAM (witnessworld.py) out of the Statement's table words and the real class files: 21 classes; the members and pool entries that the words name. The judged class is class 1, her method 2. -/
namespace start1
open Jvm.ClassFile
def u (s : String) : CpInfo := .utf8 (stringToUtf16 s)
/-- a pool by its gaps: so many unusable entries, then the entry; so many at the end -/
def gap : Nat → List CpInfo → List CpInfo
  | 0, r => r
  | n + 1, r => .unusable :: gap n r
def poolList (es : List (Nat × CpInfo)) (last : Nat) : List CpInfo := es.foldr (fun e r => gap e.1 (e.2 :: r)) (gap last [])
def pool (es : List (Nat × CpInfo)) (last : Nat) : Array CpInfo := ⟨poolList es last⟩
def fileOf (pool : Array CpInfo) (this : Nat) (attrs : Array Attribute := #[]) (ms : Array MethodInfo := #[]) (fl : Nat := 33) (sup : Nat := 0) (ifs : Array Nat := #[]) (fds : Array FieldInfo := #[]) : ClassFile where
  minorVersion := 0
  majorVersion := 65
  constantPool := pool
  accessFlags := fl
  thisClass := this
  superClass := sup
  interfaces := ifs
  fields := fds
  methods := ms
  attributes := attrs
def plain (name : String) (sup : Option ClassId) : Class where
  name := name
  kind := .ordinary
  loader := none
  accessFlags := 33
  super := sup
  interfaces := #[]
  cf := none
  fields := #[]
  methods := #[]
  instanceTypes := #[]
  staticTypes := #[]
  resolved := #[]
  callSites := []
  init := .initialized
  statics := none
  mirror := none

def pool0 : Array CpInfo := pool [(5, u "<init>"), (0, u "()V"), (1, .class_ 10), (1, u "java/lang/Object")] 113

def k0c0 : Code := { maxStack := 0, maxLocals := 1, code := object_method_1_code, exceptionTable := #[], attributes := #[] }
def k0m0 : Method := { name := "<init>", desc := "()V", sig := { parameters := [], returnType := none }, accessFlags := 1, code := some k0c0 }
/-- java/lang/Object -/
def k0 : Class := { plain "java/lang/Object" none with
  accessFlags := 33
  interfaces := #[]
  cf := some (fileOf pool0 8 #[] #[{ accessFlags := 1, nameIndex := 5, descriptorIndex := 6, attributes := #[] }] 33 0 #[] #[])
  fields := #[]
  methods := #[k0m0]
  instanceTypes := #[]
  staticTypes := #[]
  resolved := Array.replicate 124 none
  statics := none }

def pool1 : Array CpInfo := pool [(2, .class_ 4), (1, u "java/lang/Object"), (0, u "<init>"), (0, u "()V"), (0, .class_ 8), (0, u "java/lang/String"), (0, .methodref 7 10), (0, .nameAndType 5 11), (0, u "([C)V"), (0, .class_ 13), (0, u "com/example/thingstead/thingstead/mimir/Treasure"), (0, .methodref 15 16), (0, .class_ 17), (0, .nameAndType 18 19), (0, u "com/example/thingstead/thingstead/mimir/TreasureEqualsPinLaw"), (0, u "mk"), (0, u "(ICC)Ljava/lang/String;"), (0, .methodref 12 21), (0, .nameAndType 5 22), (0, u "(Ljava/lang/String;I)V"), (0, .methodref 12 24), (0, .nameAndType 25 26), (0, u "equals"), (0, u "(Ljava/lang/Object;)Z"), (3, u "law"), (0, u "(IIIII)Z")] 2

def k1m0 : Method := { name := "<init>", desc := "()V", sig := { parameters := [], returnType := none }, accessFlags := 1, code := none }
def k1c1 : Code := { maxStack := 6, maxLocals := 3, code := method_2_code, exceptionTable := #[], attributes := #[] }
def k1m1 : Method := { name := "mk", desc := "(ICC)Ljava/lang/String;", sig := { parameters := [.int, .char, .char], returnType := some (.object "java/lang/String") }, accessFlags := 10, code := some k1c1 }
def k1c2 : Code := { maxStack := 5, maxLocals := 17, code := code, exceptionTable := #[], attributes := #[] }
def k1m2 : Method := { name := "law", desc := "(IIIII)Z", sig := { parameters := [.int, .int, .int, .int, .int], returnType := some .boolean }, accessFlags := 9, code := some k1c2 }
/-- com/example/thingstead/thingstead/mimir/TreasureEqualsPinLaw -/
def k1 : Class := { plain "com/example/thingstead/thingstead/mimir/TreasureEqualsPinLaw" (some 0) with
  accessFlags := 49
  interfaces := #[]
  cf := some (fileOf pool1 15 #[] #[{ accessFlags := 1, nameIndex := 5, descriptorIndex := 6, attributes := #[] }, { accessFlags := 10, nameIndex := 18, descriptorIndex := 19, attributes := #[] }, { accessFlags := 9, nameIndex := 30, descriptorIndex := 31, attributes := #[] }] 49 2 #[] #[])
  fields := #[]
  methods := #[k1m0, k1m1, k1m2]
  instanceTypes := #[]
  staticTypes := #[]
  resolved := Array.replicate 34 none
  statics := none }

def pool2 : Array CpInfo := pool [(1, .methodref 2 3), (0, .class_ 4), (0, .nameAndType 5 6), (0, u "java/lang/Object"), (0, u "<init>"), (0, u "()V"), (0, .class_ 8), (0, u "java/lang/Record")] 13

def k2c0 : Code := { maxStack := 1, maxLocals := 1, code := jdk_30_method_1_code, exceptionTable := #[], attributes := #[] }
def k2m0 : Method := { name := "<init>", desc := "()V", sig := { parameters := [], returnType := none }, accessFlags := 4, code := some k2c0 }
/-- java/lang/Record -/
def k2 : Class := { plain "java/lang/Record" (some 0) with
  accessFlags := 1057
  interfaces := #[]
  cf := some (fileOf pool2 7 #[] #[{ accessFlags := 4, nameIndex := 5, descriptorIndex := 6, attributes := #[] }] 1057 2 #[] #[])
  fields := #[]
  methods := #[k2m0]
  instanceTypes := #[]
  staticTypes := #[]
  resolved := Array.replicate 22 none
  statics := none }

def pool3 : Array CpInfo := pool [(1, .methodref 2 3), (0, .class_ 4), (0, .nameAndType 5 6), (0, u "java/lang/Record"), (0, u "<init>"), (0, u "()V"), (0, .fieldref 8 9), (0, .class_ 10), (0, .nameAndType 11 12), (0, u "com/example/thingstead/thingstead/mimir/Treasure"), (0, u "material"), (0, u "Ljava/lang/String;"), (0, .fieldref 8 14), (0, .nameAndType 15 16), (0, u "points"), (0, u "I"), (0, .methodref 18 19), (0, .class_ 20), (0, .nameAndType 21 22), (0, u "java/lang/String"), (0, u "equals"), (0, u "(Ljava/lang/Object;)Z"), (8, u "(Ljava/lang/String;I)V")] 26

def k3c0 : Code := { maxStack := 2, maxLocals := 3, code := prog_8_method_1_code, exceptionTable := #[], attributes := #[] }
def k3m0 : Method := { name := "<init>", desc := "(Ljava/lang/String;I)V", sig := { parameters := [(.object "java/lang/String"), .int], returnType := none }, accessFlags := 1, code := some k3c0 }
def k3c1 : Code := { maxStack := 2, maxLocals := 3, code := prog_8_method_2_code, exceptionTable := #[], attributes := #[] }
def k3m1 : Method := { name := "equals", desc := "(Ljava/lang/Object;)Z", sig := { parameters := [(.object "java/lang/Object")], returnType := some .boolean }, accessFlags := 1, code := some k3c1 }
/-- com/example/thingstead/thingstead/mimir/Treasure -/
def k3 : Class := { plain "com/example/thingstead/thingstead/mimir/Treasure" (some 2) with
  accessFlags := 49
  interfaces := #[]
  cf := some (fileOf pool3 8 #[] #[{ accessFlags := 1, nameIndex := 5, descriptorIndex := 31, attributes := #[] }, { accessFlags := 1, nameIndex := 21, descriptorIndex := 22, attributes := #[] }] 49 2 #[] #[{ accessFlags := 18, nameIndex := 11, descriptorIndex := 12, attributes := #[] }, { accessFlags := 18, nameIndex := 15, descriptorIndex := 16, attributes := #[] }])
  fields := #[{ name := "material", type := (.object "java/lang/String"), accessFlags := 18, slot := 0, constantValue := 0 }, { name := "points", type := .int, accessFlags := 18, slot := 1, constantValue := 0 }]
  methods := #[k3m0, k3m1]
  instanceTypes := #[(.object "java/lang/String"), .int]
  staticTypes := #[]
  resolved := Array.replicate 58 none
  statics := none }

def pool4 : Array CpInfo := pool [(1, .class_ 2), (0, u "java/io/Serializable"), (0, .class_ 4), (0, u "java/lang/Object")] 2

/-- java/io/Serializable -/
def k4 : Class := { plain "java/io/Serializable" (some 0) with
  accessFlags := 1537
  interfaces := #[]
  cf := some (fileOf pool4 1 #[] #[] 1537 3 #[] #[])
  fields := #[]
  methods := #[]
  instanceTypes := #[]
  staticTypes := #[]
  resolved := Array.replicate 7 none
  statics := none }

def pool5 : Array CpInfo := pool [(1, .class_ 2), (0, u "java/lang/Comparable"), (0, .class_ 4), (0, u "java/lang/Object")] 7

/-- java/lang/Comparable -/
def k5 : Class := { plain "java/lang/Comparable" (some 0) with
  accessFlags := 1537
  interfaces := #[]
  cf := some (fileOf pool5 1 #[] #[] 1537 3 #[] #[])
  fields := #[]
  methods := #[]
  instanceTypes := #[]
  staticTypes := #[]
  resolved := Array.replicate 12 none
  statics := none }

def pool6 : Array CpInfo := pool [(2, .class_ 4), (1, u "java/lang/CharSequence"), (42, .class_ 48), (0, u "java/lang/CharSequence$1CodePointIterator"), (10, .class_ 60), (0, u "java/lang/CharSequence$1CharIterator"), (5, .class_ 67), (0, u "java/lang/Object")] 63

/-- java/lang/CharSequence -/
def k6 : Class := { plain "java/lang/CharSequence" (some 0) with
  accessFlags := 1537
  interfaces := #[]
  cf := some (fileOf pool6 2 #[.nestMembers #[47, 59]] #[] 1537 66 #[] #[])
  fields := #[]
  methods := #[]
  instanceTypes := #[]
  staticTypes := #[]
  resolved := Array.replicate 131 none
  statics := none }

def pool7 : Array CpInfo := pool [(1, .class_ 2), (0, u "java/lang/constant/Constable"), (0, .class_ 4), (0, u "java/lang/Object")] 6

/-- java/lang/constant/Constable -/
def k7 : Class := { plain "java/lang/constant/Constable" (some 0) with
  accessFlags := 1537
  interfaces := #[]
  cf := some (fileOf pool7 1 #[] #[] 1537 3 #[] #[])
  fields := #[]
  methods := #[]
  instanceTypes := #[]
  staticTypes := #[]
  resolved := Array.replicate 11 none
  statics := none }

def pool8 : Array CpInfo := pool [(1, .class_ 2), (0, u "java/lang/constant/ConstantDesc"), (0, .class_ 4), (0, u "java/lang/Object")] 32

/-- java/lang/constant/ConstantDesc -/
def k8 : Class := { plain "java/lang/constant/ConstantDesc" (some 0) with
  accessFlags := 1537
  interfaces := #[]
  cf := some (fileOf pool8 1 #[] #[] 1537 3 #[] #[])
  fields := #[]
  methods := #[]
  instanceTypes := #[]
  staticTypes := #[]
  resolved := Array.replicate 37 none
  statics := none }

def pool9 : Array CpInfo := pool [(1, .methodref 2 3), (0, .class_ 4), (0, .nameAndType 5 6), (0, u "java/lang/Object"), (0, u "<init>"), (0, u "()V"), (0, .string 8), (0, u ""), (0, .fieldref 10 11), (0, .class_ 12), (0, .nameAndType 13 14), (0, u "java/lang/String"), (0, u "value"), (0, u "[B"), (0, .fieldref 10 16), (0, .nameAndType 17 18), (0, u "coder"), (0, u "B"), (2, u "hash"), (0, u "I"), (2, u "hashIsZero"), (0, u "Z"), (0, .methodref 10 28), (0, .nameAndType 5 29), (0, u "([CIILjava/lang/Void;)V"), (8, .fieldref 10 39), (0, .nameAndType 40 26), (0, u "COMPACT_STRINGS"), (1, .class_ 44), (1, u "java/lang/StringUTF16"), (0, u "compress"), (1, .methodref 42 48), (0, .nameAndType 49 50), (0, u "coderFromArrayLen"), (0, u "([BI)B"), (56, .class_ 109), (1, u "java/lang/StringLatin1"), (67, .methodref 42 178), (0, .nameAndType 45 179), (0, u "([CII)[B"), (361, .methodref 107 542), (0, .nameAndType 543 544), (0, u "equals"), (0, u "([B[B)Z"), (28, u "(Ljava/lang/Object;)Z"), (1, .class_ 576), (0, u "java/lang/CharSequence"), (22, u "CASE_INSENSITIVE_ORDER"), (0, u "Ljava/util/Comparator;"), (409, u "([C)V"), (90, u "serialPersistentFields"), (0, u "[Ljava/io/ObjectStreamField;"), (0, .class_ 1104), (0, u "java/lang/String$CaseInsensitiveComparator"), (1, .class_ 1107), (0, u "java/io/Serializable"), (0, .class_ 1109), (0, u "java/lang/Comparable"), (0, .class_ 1111), (0, u "java/lang/constant/Constable"), (0, .class_ 1113), (0, u "java/lang/constant/ConstantDesc"), (2, u "serialVersionUID"), (0, u "J"), (3, u "REPL"), (0, u "C"), (2, u "LATIN1"), (1, u "UTF16")] 323

def k9m0 : Method := { name := "<init>", desc := "()V", sig := { parameters := [], returnType := none }, accessFlags := 1, code := none }
def k9c1 : Code := { maxStack := 5, maxLocals := 2, code := jdk_42_method_3_code, exceptionTable := #[], attributes := #[] }
def k9m1 : Method := { name := "<init>", desc := "([C)V", sig := { parameters := [(.array .char)], returnType := none }, accessFlags := 1, code := some k9c1 }
def k9c2 : Code := { maxStack := 2, maxLocals := 3, code := jdk_42_method_66_code, exceptionTable := #[], attributes := #[] }
def k9m2 : Method := { name := "equals", desc := "(Ljava/lang/Object;)Z", sig := { parameters := [(.object "java/lang/Object")], returnType := some .boolean }, accessFlags := 1, code := some k9c2 }
def k9c3 : Code := { maxStack := 4, maxLocals := 6, code := jdk_42_method_149_code, exceptionTable := #[], attributes := #[] }
def k9m3 : Method := { name := "<init>", desc := "([CIILjava/lang/Void;)V", sig := { parameters := [(.array .char), .int, .int, (.object "java/lang/Void")], returnType := none }, accessFlags := 2, code := some k9c3 }
/-- java/lang/String -/
def k9 : Class := { plain "java/lang/String" (some 0) with
  accessFlags := 49
  interfaces := #[4, 5, 6, 7, 8]
  cf := some (fileOf pool9 10 #[.nestMembers #[1103]] #[{ accessFlags := 1, nameIndex := 5, descriptorIndex := 6, attributes := #[] }, { accessFlags := 1, nameIndex := 5, descriptorIndex := 1010, attributes := #[] }, { accessFlags := 1, nameIndex := 543, descriptorIndex := 573, attributes := #[] }, { accessFlags := 2, nameIndex := 5, descriptorIndex := 29, attributes := #[] }] 49 2 #[1106, 1108, 575, 1110, 1112] #[{ accessFlags := 18, nameIndex := 13, descriptorIndex := 14, attributes := #[] }, { accessFlags := 18, nameIndex := 17, descriptorIndex := 18, attributes := #[] }, { accessFlags := 2, nameIndex := 21, descriptorIndex := 22, attributes := #[] }, { accessFlags := 2, nameIndex := 25, descriptorIndex := 26, attributes := #[] }, { accessFlags := 26, nameIndex := 1116, descriptorIndex := 1117, attributes := #[] }, { accessFlags := 24, nameIndex := 40, descriptorIndex := 26, attributes := #[] }, { accessFlags := 26, nameIndex := 1101, descriptorIndex := 1102, attributes := #[] }, { accessFlags := 26, nameIndex := 1121, descriptorIndex := 1122, attributes := #[] }, { accessFlags := 25, nameIndex := 599, descriptorIndex := 600, attributes := #[] }, { accessFlags := 24, nameIndex := 1125, descriptorIndex := 18, attributes := #[] }, { accessFlags := 24, nameIndex := 1127, descriptorIndex := 18, attributes := #[] }])
  fields := #[{ name := "value", type := (.array .byte), accessFlags := 18, slot := 0, constantValue := 0 }, { name := "coder", type := .byte, accessFlags := 18, slot := 1, constantValue := 0 }, { name := "hash", type := .int, accessFlags := 2, slot := 2, constantValue := 0 }, { name := "hashIsZero", type := .boolean, accessFlags := 2, slot := 3, constantValue := 0 }, { name := "serialVersionUID", type := .long, accessFlags := 26, slot := 0, constantValue := 0 }, { name := "COMPACT_STRINGS", type := .boolean, accessFlags := 24, slot := 1, constantValue := 0 }, { name := "serialPersistentFields", type := (.array (.object "java/io/ObjectStreamField")), accessFlags := 26, slot := 2, constantValue := 0 }, { name := "REPL", type := .char, accessFlags := 26, slot := 3, constantValue := 0 }, { name := "CASE_INSENSITIVE_ORDER", type := (.object "java/util/Comparator"), accessFlags := 25, slot := 4, constantValue := 0 }, { name := "LATIN1", type := .byte, accessFlags := 24, slot := 5, constantValue := 0 }, { name := "UTF16", type := .byte, accessFlags := 24, slot := 6, constantValue := 0 }]
  methods := #[k9m0, k9m1, k9m2, k9m3]
  instanceTypes := #[(.array .byte), .byte, .int, .boolean]
  staticTypes := #[.long, .boolean, (.array (.object "java/io/ObjectStreamField")), .char, (.object "java/util/Comparator"), .byte, .byte]
  resolved := Array.replicate 1451 none
  statics := some 0 }

def pool10 : Array CpInfo := pool [(6, .class_ 8), (1, u "java/lang/Object"), (0, u "<init>"), (0, u "()V"), (1, .class_ 14), (1, u "java/lang/StringUTF16"), (31, u "$assertionsDisabled"), (0, u "Z"), (13, u "HI_BYTE_SHIFT"), (0, u "I"), (2, u "LO_BYTE_SHIFT"), (49, .methodref 12 116), (0, .nameAndType 117 118), (0, u "compress"), (0, u "([CI[BII)I"), (3, u "([CII)[B"), (138, u "coderFromArrayLen"), (0, u "([BI)B"), (106, .class_ 371), (1, u "java/lang/StringUTF16$LinesSpliterator"), (58, u "MAX_LENGTH"), (196, .class_ 628), (0, u "java/lang/StringUTF16$CodePointsSpliterator"), (0, .class_ 630), (0, u "java/lang/StringUTF16$CharsSpliterator")] 4

def k10m0 : Method := { name := "<init>", desc := "()V", sig := { parameters := [], returnType := none }, accessFlags := 0, code := none }
def k10c1 : Code := { maxStack := 2, maxLocals := 2, code := jdk_52_method_15_code, exceptionTable := #[], attributes := #[] }
def k10m1 : Method := { name := "coderFromArrayLen", desc := "([BI)B", sig := { parameters := [(.array .byte), .int], returnType := some .byte }, accessFlags := 8, code := some k10c1 }
def k10c2 : Code := { maxStack := 5, maxLocals := 6, code := jdk_52_method_16_code, exceptionTable := #[], attributes := #[] }
def k10m2 : Method := { name := "compress", desc := "([CII)[B", sig := { parameters := [(.array .char), .int, .int], returnType := some (.array .byte) }, accessFlags := 9, code := some k10c2 }
def k10c3 : Code := { maxStack := 3, maxLocals := 7, code := jdk_52_method_21_code, exceptionTable := #[], attributes := #[] }
def k10m3 : Method := { name := "compress", desc := "([CI[BII)I", sig := { parameters := [(.array .char), .int, (.array .byte), .int, .int], returnType := some .int }, accessFlags := 9, code := some k10c3 }
/-- java/lang/StringUTF16 -/
def k10 : Class := { plain "java/lang/StringUTF16" (some 0) with
  accessFlags := 48
  interfaces := #[]
  cf := some (fileOf pool10 12 #[.nestMembers #[627, 629, 369]] #[{ accessFlags := 0, nameIndex := 9, descriptorIndex := 10, attributes := #[] }, { accessFlags := 8, nameIndex := 261, descriptorIndex := 262, attributes := #[] }, { accessFlags := 9, nameIndex := 117, descriptorIndex := 122, attributes := #[] }, { accessFlags := 9, nameIndex := 117, descriptorIndex := 118, attributes := #[] }] 48 6 #[] #[{ accessFlags := 26, nameIndex := 61, descriptorIndex := 62, attributes := #[] }, { accessFlags := 26, nameIndex := 65, descriptorIndex := 62, attributes := #[] }, { accessFlags := 24, nameIndex := 430, descriptorIndex := 62, attributes := #[] }, { accessFlags := 4120, nameIndex := 46, descriptorIndex := 47, attributes := #[] }])
  fields := #[{ name := "HI_BYTE_SHIFT", type := .int, accessFlags := 26, slot := 0, constantValue := 0 }, { name := "LO_BYTE_SHIFT", type := .int, accessFlags := 26, slot := 1, constantValue := 0 }, { name := "MAX_LENGTH", type := .int, accessFlags := 24, slot := 2, constantValue := 0 }, { name := "$assertionsDisabled", type := .boolean, accessFlags := 4120, slot := 3, constantValue := 0 }]
  methods := #[k10m0, k10m1, k10m2, k10m3]
  instanceTypes := #[]
  staticTypes := #[.int, .int, .int, .boolean]
  resolved := Array.replicate 635 none
  statics := none }

def pool11 : Array CpInfo := pool [(4, .class_ 6), (1, u "java/lang/Object"), (0, u "<init>"), (0, u "()V"), (5, .class_ 16), (1, u "java/lang/StringLatin1"), (104, u "$assertionsDisabled"), (0, u "Z"), (98, .class_ 223), (1, u "java/lang/StringLatin1$LinesSpliterator"), (57, u "equals"), (0, u "([B[B)Z"), (107, .class_ 391), (0, u "java/lang/StringLatin1$CharsSpliterator")] 3

def k11m0 : Method := { name := "<init>", desc := "()V", sig := { parameters := [], returnType := none }, accessFlags := 0, code := none }
def k11c1 : Code := { maxStack := 3, maxLocals := 3, code := jdk_43_method_13_code, exceptionTable := #[], attributes := #[] }
def k11m1 : Method := { name := "equals", desc := "([B[B)Z", sig := { parameters := [(.array .byte), (.array .byte)], returnType := some .boolean }, accessFlags := 9, code := some k11c1 }
/-- java/lang/StringLatin1 -/
def k11 : Class := { plain "java/lang/StringLatin1" (some 0) with
  accessFlags := 48
  interfaces := #[]
  cf := some (fileOf pool11 14 #[.nestMembers #[390, 221]] #[{ accessFlags := 0, nameIndex := 7, descriptorIndex := 8, attributes := #[] }, { accessFlags := 9, nameIndex := 281, descriptorIndex := 282, attributes := #[] }] 48 4 #[] #[{ accessFlags := 4120, nameIndex := 121, descriptorIndex := 122, attributes := #[] }])
  fields := #[{ name := "$assertionsDisabled", type := .boolean, accessFlags := 4120, slot := 0, constantValue := 0 }]
  methods := #[k11m0, k11m1]
  instanceTypes := #[]
  staticTypes := #[.boolean]
  resolved := Array.replicate 395 none
  statics := none }

def pool12 : Array CpInfo := pool [(2, .class_ 4), (1, u "java/lang/Object"), (0, u "<init>"), (0, u "()V"), (17, .class_ 26), (1, u "jdk/internal/util/Preconditions"), (28, .class_ 56), (0, u "jdk/internal/util/Preconditions$4"), (57, .class_ 115), (0, u "jdk/internal/util/Preconditions$1"), (7, u "SIOOBE_FORMATTER"), (0, u "Ljava/util/function/BiFunction;"), (0, .class_ 126), (0, u "jdk/internal/util/Preconditions$2"), (3, u "AIOOBE_FORMATTER"), (0, .class_ 132), (0, u "jdk/internal/util/Preconditions$3"), (3, u "IOOBE_FORMATTER")] 57

def k12m0 : Method := { name := "<init>", desc := "()V", sig := { parameters := [], returnType := none }, accessFlags := 1, code := none }
/-- jdk/internal/util/Preconditions -/
def k12 : Class := { plain "jdk/internal/util/Preconditions" (some 0) with
  accessFlags := 33
  interfaces := #[]
  cf := some (fileOf pool12 24 #[.nestMembers #[55, 131, 125, 114]] #[{ accessFlags := 1, nameIndex := 5, descriptorIndex := 6, attributes := #[] }] 33 2 #[] #[{ accessFlags := 25, nameIndex := 123, descriptorIndex := 124, attributes := #[] }, { accessFlags := 25, nameIndex := 130, descriptorIndex := 124, attributes := #[] }, { accessFlags := 25, nameIndex := 136, descriptorIndex := 124, attributes := #[] }])
  fields := #[{ name := "SIOOBE_FORMATTER", type := (.object "java/util/function/BiFunction"), accessFlags := 25, slot := 0, constantValue := 0 }, { name := "AIOOBE_FORMATTER", type := (.object "java/util/function/BiFunction"), accessFlags := 25, slot := 1, constantValue := 0 }, { name := "IOOBE_FORMATTER", type := (.object "java/util/function/BiFunction"), accessFlags := 25, slot := 2, constantValue := 0 }]
  methods := #[k12m0]
  instanceTypes := #[]
  staticTypes := #[(.object "java/util/function/BiFunction"), (.object "java/util/function/BiFunction"), (.object "java/util/function/BiFunction")]
  resolved := Array.replicate 194 none
  statics := some 1 }

def pool13 : Array CpInfo := pool [(9, u "<init>"), (6, .class_ 18), (1, u "java/lang/Object"), (0, u "()V"), (1, .class_ 23), (1, u "jdk/internal/util/ArraysSupport"), (0, u "LOG2_ARRAY_LONG_INDEX_SCALE"), (0, u "I"), (2, u "U"), (0, u "Ljdk/internal/misc/Unsafe;"), (8, u "BIG_ENDIAN"), (0, u "Z"), (8, u "LOG2_BYTE_BIT_SIZE"), (4, u "LOG2_ARRAY_INT_INDEX_SCALE"), (54, u "JLA"), (0, u "Ljdk/internal/access/JavaLangAccess;"), (11, u "LOG2_ARRAY_BOOLEAN_INDEX_SCALE"), (9, u "LOG2_ARRAY_BYTE_INDEX_SCALE"), (5, u "LOG2_ARRAY_CHAR_INDEX_SCALE"), (5, u "LOG2_ARRAY_SHORT_INDEX_SCALE"), (18, u "LOG2_ARRAY_FLOAT_INDEX_SCALE"), (24, u "LOG2_ARRAY_DOUBLE_INDEX_SCALE"), (89, u "T_BOOLEAN"), (2, u "T_CHAR"), (1, u "T_FLOAT"), (1, u "T_DOUBLE"), (1, u "T_BYTE"), (1, u "T_SHORT"), (1, u "T_INT"), (1, u "T_LONG"), (1, u "SOFT_MAX_ARRAY_LENGTH")] 83

def k13m0 : Method := { name := "<init>", desc := "()V", sig := { parameters := [], returnType := none }, accessFlags := 2, code := none }
/-- jdk/internal/util/ArraysSupport -/
def k13 : Class := { plain "jdk/internal/util/ArraysSupport" (some 0) with
  accessFlags := 33
  interfaces := #[]
  cf := some (fileOf pool13 21 #[] #[{ accessFlags := 2, nameIndex := 9, descriptorIndex := 19, attributes := #[] }] 33 16 #[] #[{ accessFlags := 24, nameIndex := 28, descriptorIndex := 29, attributes := #[] }, { accessFlags := 26, nameIndex := 38, descriptorIndex := 39, attributes := #[] }, { accessFlags := 25, nameIndex := 121, descriptorIndex := 25, attributes := #[] }, { accessFlags := 25, nameIndex := 131, descriptorIndex := 25, attributes := #[] }, { accessFlags := 25, nameIndex := 137, descriptorIndex := 25, attributes := #[] }, { accessFlags := 25, nameIndex := 143, descriptorIndex := 25, attributes := #[] }, { accessFlags := 25, nameIndex := 53, descriptorIndex := 25, attributes := #[] }, { accessFlags := 25, nameIndex := 24, descriptorIndex := 25, attributes := #[] }, { accessFlags := 25, nameIndex := 162, descriptorIndex := 25, attributes := #[] }, { accessFlags := 25, nameIndex := 187, descriptorIndex := 25, attributes := #[] }, { accessFlags := 26, nameIndex := 48, descriptorIndex := 25, attributes := #[] }, { accessFlags := 25, nameIndex := 277, descriptorIndex := 25, attributes := #[] }, { accessFlags := 25, nameIndex := 280, descriptorIndex := 25, attributes := #[] }, { accessFlags := 25, nameIndex := 282, descriptorIndex := 25, attributes := #[] }, { accessFlags := 25, nameIndex := 284, descriptorIndex := 25, attributes := #[] }, { accessFlags := 25, nameIndex := 286, descriptorIndex := 25, attributes := #[] }, { accessFlags := 25, nameIndex := 288, descriptorIndex := 25, attributes := #[] }, { accessFlags := 25, nameIndex := 290, descriptorIndex := 25, attributes := #[] }, { accessFlags := 25, nameIndex := 292, descriptorIndex := 25, attributes := #[] }, { accessFlags := 26, nameIndex := 108, descriptorIndex := 109, attributes := #[] }, { accessFlags := 25, nameIndex := 294, descriptorIndex := 25, attributes := #[] }])
  fields := #[{ name := "U", type := (.object "jdk/internal/misc/Unsafe"), accessFlags := 24, slot := 0, constantValue := 0 }, { name := "BIG_ENDIAN", type := .boolean, accessFlags := 26, slot := 1, constantValue := 0 }, { name := "LOG2_ARRAY_BOOLEAN_INDEX_SCALE", type := .int, accessFlags := 25, slot := 2, constantValue := 0 }, { name := "LOG2_ARRAY_BYTE_INDEX_SCALE", type := .int, accessFlags := 25, slot := 3, constantValue := 0 }, { name := "LOG2_ARRAY_CHAR_INDEX_SCALE", type := .int, accessFlags := 25, slot := 4, constantValue := 0 }, { name := "LOG2_ARRAY_SHORT_INDEX_SCALE", type := .int, accessFlags := 25, slot := 5, constantValue := 0 }, { name := "LOG2_ARRAY_INT_INDEX_SCALE", type := .int, accessFlags := 25, slot := 6, constantValue := 0 }, { name := "LOG2_ARRAY_LONG_INDEX_SCALE", type := .int, accessFlags := 25, slot := 7, constantValue := 0 }, { name := "LOG2_ARRAY_FLOAT_INDEX_SCALE", type := .int, accessFlags := 25, slot := 8, constantValue := 0 }, { name := "LOG2_ARRAY_DOUBLE_INDEX_SCALE", type := .int, accessFlags := 25, slot := 9, constantValue := 0 }, { name := "LOG2_BYTE_BIT_SIZE", type := .int, accessFlags := 26, slot := 10, constantValue := 0 }, { name := "T_BOOLEAN", type := .int, accessFlags := 25, slot := 11, constantValue := 0 }, { name := "T_CHAR", type := .int, accessFlags := 25, slot := 12, constantValue := 0 }, { name := "T_FLOAT", type := .int, accessFlags := 25, slot := 13, constantValue := 0 }, { name := "T_DOUBLE", type := .int, accessFlags := 25, slot := 14, constantValue := 0 }, { name := "T_BYTE", type := .int, accessFlags := 25, slot := 15, constantValue := 0 }, { name := "T_SHORT", type := .int, accessFlags := 25, slot := 16, constantValue := 0 }, { name := "T_INT", type := .int, accessFlags := 25, slot := 17, constantValue := 0 }, { name := "T_LONG", type := .int, accessFlags := 25, slot := 18, constantValue := 0 }, { name := "JLA", type := (.object "jdk/internal/access/JavaLangAccess"), accessFlags := 26, slot := 19, constantValue := 0 }, { name := "SOFT_MAX_ARRAY_LENGTH", type := .int, accessFlags := 25, slot := 20, constantValue := 0 }]
  methods := #[k13m0]
  instanceTypes := #[]
  staticTypes := #[(.object "jdk/internal/misc/Unsafe"), .boolean, .int, .int, .int, .int, .int, .int, .int, .int, .int, .int, .int, .int, .int, .int, .int, .int, .int, (.object "jdk/internal/access/JavaLangAccess"), .int]
  resolved := Array.replicate 378 none
  statics := none }

def pool14 : Array CpInfo := pool [(1, u "java/lang/Cloneable"), (0, .class_ 1), (0, u "java/lang/Object"), (0, .class_ 3)] 3

/-- java/lang/Cloneable -/
def k14 : Class := { plain "java/lang/Cloneable" (some 0) with
  accessFlags := 1537
  interfaces := #[]
  cf := some (fileOf pool14 2 #[] #[] 1537 4 #[] #[])
  fields := #[]
  methods := #[]
  instanceTypes := #[]
  staticTypes := #[]
  resolved := Array.replicate 8 none
  statics := none }

/-- the primitive byte -/
def k15 : Class := { plain "byte" none with kind := .primitive 'B', accessFlags := 0x411 }
/-- [B -/
def k16 : Class := { plain "[B" (some 0) with kind := .array 15 .byte, interfaces := #[14, 4], accessFlags := 1041 }

/-- the primitive char -/
def k17 : Class := { plain "char" none with kind := .primitive 'C', accessFlags := 0x411 }
/-- [C -/
def k18 : Class := { plain "[C" (some 0) with kind := .array 17 .char, interfaces := #[14, 4], accessFlags := 1041 }

/-- the primitive int -/
def k19 : Class := { plain "int" none with kind := .primitive 'I', accessFlags := 0x411 }
/-- [I -/
def k20 : Class := { plain "[I" (some 0) with kind := .array 19 .int, interfaces := #[14, 4], accessFlags := 1041 }

def heap : Heap := #[{ cls := 9, slots := #[.long 0, .int 1, .null, .int 0, .null, .int 0, .int 0], vm := .statics 9 },
  { cls := 12, slots := #[.null, .null, .null], vm := .statics 12 }]
def classes : Array Class := #[k0, k1, k2, k3, k4, k5, k6, k7, k8, k9, k10, k11, k12, k13, k14, k15, k16, k17, k18, k19, k20]
def interned : List (Array UInt16 × Addr) := []
def slotsUsed : Nat := 10
def theMethod : MethodId := ⟨1, 2⟩
def args0 : Array Value := #[.int 5, .int 9, .int 3, .int 7, .int 2]
def aboutOver (below : List Frame) : State where
  vm := { classes := classes, interned := interned.toArray }
  heap := heap
  slotsUsed := slotsUsed
  threads := #[{ frames := .invoking theMethod args0 :: below }]
def below0 : List Frame := [.native { method := ⟨0, 0⟩, args := #[] }]
def about1 : State := aboutOver below0
def p0 : Program := .bare "" "" ""
def e0 : Env := launch0.env 0 0 0
theorem w_frames : about1.frames = Frame.invoking theMethod args0 :: below0 := rfl
set_option maxRecDepth 65536 in
theorem w_args : argsFit about1.vm theMethod args0 = true := by decide +kernel
set_option maxRecDepth 65536 in
theorem w_heap : heapFits about1 = true := by decide +kernel
set_option maxRecDepth 65536 in
theorem w_runnable : about1.curStatus? = some .runnable := by decide +kernel
set_option maxRecDepth 65536 in
theorem w_alone : about1.alone = true := by decide +kernel
set_option maxRecDepth 65536 in
theorem w_named : about1.methodNamed? x = some theMethod := by decide +kernel
set_option maxRecDepth 65536 in
theorem w_hears : about1.hears theMethod below0 = true := by decide +kernel
set_option maxRecDepth 65536 in
theorem w_ripe : about1.ripe theMethod args0 below0 = true := by decide +kernel
theorem w_running : about1.status = .running := rfl
set_option maxRecDepth 65536 in
theorem w_room : about1.hasRoom e0.platform room_1 = true :=
  launch0.hasRoom_least _ room_1 (by decide +kernel) (by decide +kernel) (by decide +kernel) (by decide +kernel) (by decide +kernel) (by decide +kernel)
theorem allAtoms_all (ts : List Jvm.Cond) (a : Array Jvm.Value) (st : Jvm.State) : (allAtoms ts).before a st = ts.all (fun c => c.before a st) := by
  induction ts with
  | nil => rfl
  | cons c t ih =>
    show (Jvm.Cond.and c (allAtoms t)).before a st = _
    rw [Jvm.Cond.before_and, ih, List.all_cons]
def words1 : List Jvm.Cond := Jvm.Cond.code x code maxLocals ret :: tables_1
/-- a 'code' word, met by the world's own term for the bytes: nothing is compared byte by byte -/
theorem code_word {y : MethodName} {bytes : ByteArray} {mx : Nat} {rt : Option FieldType} {a : Array Value} {s : State} {m : MethodId} {meth : Method} {c : Code} (h1 : s.methodNamed? y = some m) (h2 : s.vm.method? m = some meth) (h3 : meth.code = some c) (h4 : c.code = bytes)
    (h5 : (c.maxLocals == mx && c.exceptionTable.isEmpty && decide (c.maxStack ≤ mostOperands) && decide (meth.sig.returnType = rt) && !meth.locks && decide (parseMethodDescriptor y.desc = some meth.sig)) = true) : (Jvm.Cond.code y bytes mx rt).before a s = true := by
  simp only [Bool.and_eq_true, beq_iff_eq, Bool.not_eq_true', decide_eq_true_eq] at h5
  obtain ⟨⟨⟨⟨⟨g1, g2⟩, g3⟩, g4⟩, g5⟩, g6⟩ := h5
  simp [Cond.before, Cond.holds, Cond.value, h1, h2, h3, h4, g1, g2, g3, g4, g5, g6]
def isCode : Jvm.Cond → Bool
  | .code _ _ _ _ => true
  | _ => false
theorem all_split {L : List Jvm.Cond} {P : Jvm.Cond → Bool} (h1 : L.all (fun c => isCode c || P c) = true) (h2 : ∀ c ∈ L.filter isCode, P c = true) : L.all P = true := by
  refine List.all_eq_true.mpr fun c hc => ?_
  have h := List.all_eq_true.mp h1 c hc
  rcases Bool.eq_false_or_eq_true (isCode c) with hi | hi
  · exact h2 c (List.mem_filter.mpr ⟨hc, hi⟩)
  · simpa [hi] using h
set_option maxRecDepth 65536 in
theorem w_c0 : (Jvm.Cond.code x code maxLocals ret).before args0 about1 = true := code_word (m := ⟨1, 2⟩) (meth := k1m2) (c := k1c2) (by decide +kernel) rfl rfl rfl (by decide +kernel)
set_option maxRecDepth 65536 in
theorem w_c1 : (Jvm.Cond.code ({ cls := "com/example/thingstead/thingstead/mimir/TreasureEqualsPinLaw", name := "mk", desc := "(ICC)Ljava/lang/String;" } : Jvm.MethodName) method_2_code (3 : Nat) (Option.some (Jvm.ClassFile.FieldType.object "java/lang/String"))).before args0 about1 = true := code_word (m := ⟨1, 1⟩) (meth := k1m1) (c := k1c1) (by decide +kernel) rfl rfl rfl (by decide +kernel)
set_option maxRecDepth 65536 in
theorem w_c2 : (Jvm.Cond.code ({ cls := "java/lang/String", name := "<init>", desc := "([C)V" } : Jvm.MethodName) jdk_42_method_3_code (2 : Nat) (Option.none : Option Jvm.ClassFile.FieldType)).before args0 about1 = true := code_word (m := ⟨9, 1⟩) (meth := k9m1) (c := k9c1) (by decide +kernel) rfl rfl rfl (by decide +kernel)
set_option maxRecDepth 65536 in
theorem w_c3 : (Jvm.Cond.code ({ cls := "java/lang/String", name := "<init>", desc := "([CIILjava/lang/Void;)V" } : Jvm.MethodName) jdk_42_method_149_code (6 : Nat) (Option.none : Option Jvm.ClassFile.FieldType)).before args0 about1 = true := code_word (m := ⟨9, 3⟩) (meth := k9m3) (c := k9c3) (by decide +kernel) rfl rfl rfl (by decide +kernel)
set_option maxRecDepth 65536 in
theorem w_c4 : (Jvm.Cond.code ({ cls := "java/lang/Object", name := "<init>", desc := "()V" } : Jvm.MethodName) object_method_1_code (1 : Nat) (Option.none : Option Jvm.ClassFile.FieldType)).before args0 about1 = true := code_word (m := ⟨0, 0⟩) (meth := k0m0) (c := k0c0) (by decide +kernel) rfl rfl rfl (by decide +kernel)
set_option maxRecDepth 65536 in
theorem w_c5 : (Jvm.Cond.code ({ cls := "com/example/thingstead/thingstead/mimir/Treasure", name := "<init>", desc := "(Ljava/lang/String;I)V" } : Jvm.MethodName) prog_8_method_1_code (3 : Nat) (Option.none : Option Jvm.ClassFile.FieldType)).before args0 about1 = true := code_word (m := ⟨3, 0⟩) (meth := k3m0) (c := k3c0) (by decide +kernel) rfl rfl rfl (by decide +kernel)
set_option maxRecDepth 65536 in
theorem w_c6 : (Jvm.Cond.code ({ cls := "java/lang/Record", name := "<init>", desc := "()V" } : Jvm.MethodName) jdk_30_method_1_code (1 : Nat) (Option.none : Option Jvm.ClassFile.FieldType)).before args0 about1 = true := code_word (m := ⟨2, 0⟩) (meth := k2m0) (c := k2c0) (by decide +kernel) rfl rfl rfl (by decide +kernel)
set_option maxRecDepth 65536 in
theorem w_c7 : (Jvm.Cond.code ({ cls := "com/example/thingstead/thingstead/mimir/Treasure", name := "equals", desc := "(Ljava/lang/Object;)Z" } : Jvm.MethodName) prog_8_method_2_code (3 : Nat) (Option.some Jvm.ClassFile.FieldType.boolean)).before args0 about1 = true := code_word (m := ⟨3, 1⟩) (meth := k3m1) (c := k3c1) (by decide +kernel) rfl rfl rfl (by decide +kernel)
set_option maxRecDepth 65536 in
theorem w_c8 : (Jvm.Cond.code ({ cls := "java/lang/StringUTF16", name := "compress", desc := "([CII)[B" } : Jvm.MethodName) jdk_52_method_16_code (6 : Nat) (Option.some (Jvm.ClassFile.FieldType.array Jvm.ClassFile.FieldType.byte))).before args0 about1 = true := code_word (m := ⟨10, 2⟩) (meth := k10m2) (c := k10c2) (by decide +kernel) rfl rfl rfl (by decide +kernel)
set_option maxRecDepth 65536 in
theorem w_c9 : (Jvm.Cond.code ({ cls := "java/lang/StringUTF16", name := "compress", desc := "([CI[BII)I" } : Jvm.MethodName) jdk_52_method_21_code (7 : Nat) (Option.some Jvm.ClassFile.FieldType.int)).before args0 about1 = true := code_word (m := ⟨10, 3⟩) (meth := k10m3) (c := k10c3) (by decide +kernel) rfl rfl rfl (by decide +kernel)
set_option maxRecDepth 65536 in
theorem w_c10 : (Jvm.Cond.code ({ cls := "java/lang/StringUTF16", name := "coderFromArrayLen", desc := "([BI)B" } : Jvm.MethodName) jdk_52_method_15_code (2 : Nat) (Option.some Jvm.ClassFile.FieldType.byte)).before args0 about1 = true := code_word (m := ⟨10, 1⟩) (meth := k10m1) (c := k10c1) (by decide +kernel) rfl rfl rfl (by decide +kernel)
set_option maxRecDepth 65536 in
theorem w_c11 : (Jvm.Cond.code ({ cls := "java/lang/String", name := "equals", desc := "(Ljava/lang/Object;)Z" } : Jvm.MethodName) jdk_42_method_66_code (3 : Nat) (Option.some Jvm.ClassFile.FieldType.boolean)).before args0 about1 = true := code_word (m := ⟨9, 2⟩) (meth := k9m2) (c := k9c2) (by decide +kernel) rfl rfl rfl (by decide +kernel)
set_option maxRecDepth 65536 in
theorem w_c12 : (Jvm.Cond.code ({ cls := "java/lang/StringLatin1", name := "equals", desc := "([B[B)Z" } : Jvm.MethodName) jdk_43_method_13_code (3 : Nat) (Option.some Jvm.ClassFile.FieldType.boolean)).before args0 about1 = true := code_word (m := ⟨11, 1⟩) (meth := k11m1) (c := k11c1) (by decide +kernel) rfl rfl rfl (by decide +kernel)
def codes1 : List Jvm.Cond := [Jvm.Cond.code x code maxLocals ret, Jvm.Cond.code ({ cls := "com/example/thingstead/thingstead/mimir/TreasureEqualsPinLaw", name := "mk", desc := "(ICC)Ljava/lang/String;" } : Jvm.MethodName) method_2_code (3 : Nat) (Option.some (Jvm.ClassFile.FieldType.object "java/lang/String")), Jvm.Cond.code ({ cls := "java/lang/String", name := "<init>", desc := "([C)V" } : Jvm.MethodName) jdk_42_method_3_code (2 : Nat) (Option.none : Option Jvm.ClassFile.FieldType), Jvm.Cond.code ({ cls := "java/lang/String", name := "<init>", desc := "([CIILjava/lang/Void;)V" } : Jvm.MethodName) jdk_42_method_149_code (6 : Nat) (Option.none : Option Jvm.ClassFile.FieldType), Jvm.Cond.code ({ cls := "java/lang/Object", name := "<init>", desc := "()V" } : Jvm.MethodName) object_method_1_code (1 : Nat) (Option.none : Option Jvm.ClassFile.FieldType), Jvm.Cond.code ({ cls := "com/example/thingstead/thingstead/mimir/Treasure", name := "<init>", desc := "(Ljava/lang/String;I)V" } : Jvm.MethodName) prog_8_method_1_code (3 : Nat) (Option.none : Option Jvm.ClassFile.FieldType), Jvm.Cond.code ({ cls := "java/lang/Record", name := "<init>", desc := "()V" } : Jvm.MethodName) jdk_30_method_1_code (1 : Nat) (Option.none : Option Jvm.ClassFile.FieldType), Jvm.Cond.code ({ cls := "com/example/thingstead/thingstead/mimir/Treasure", name := "equals", desc := "(Ljava/lang/Object;)Z" } : Jvm.MethodName) prog_8_method_2_code (3 : Nat) (Option.some Jvm.ClassFile.FieldType.boolean), Jvm.Cond.code ({ cls := "java/lang/StringUTF16", name := "compress", desc := "([CII)[B" } : Jvm.MethodName) jdk_52_method_16_code (6 : Nat) (Option.some (Jvm.ClassFile.FieldType.array Jvm.ClassFile.FieldType.byte)), Jvm.Cond.code ({ cls := "java/lang/StringUTF16", name := "compress", desc := "([CI[BII)I" } : Jvm.MethodName) jdk_52_method_21_code (7 : Nat) (Option.some Jvm.ClassFile.FieldType.int), Jvm.Cond.code ({ cls := "java/lang/StringUTF16", name := "coderFromArrayLen", desc := "([BI)B" } : Jvm.MethodName) jdk_52_method_15_code (2 : Nat) (Option.some Jvm.ClassFile.FieldType.byte), Jvm.Cond.code ({ cls := "java/lang/String", name := "equals", desc := "(Ljava/lang/Object;)Z" } : Jvm.MethodName) jdk_42_method_66_code (3 : Nat) (Option.some Jvm.ClassFile.FieldType.boolean), Jvm.Cond.code ({ cls := "java/lang/StringLatin1", name := "equals", desc := "([B[B)Z" } : Jvm.MethodName) jdk_43_method_13_code (3 : Nat) (Option.some Jvm.ClassFile.FieldType.boolean)]
set_option maxRecDepth 65536 in
theorem codes_eq : words1.filter isCode = codes1 := rfl
theorem w_codes : ∀ c ∈ words1.filter isCode, c.before args0 about1 = true := by
  rw [codes_eq]
  intro c hc
  simp only [codes1, List.mem_cons, List.not_mem_nil, or_false] at hc
  rcases hc with rfl | rfl | rfl | rfl | rfl | rfl | rfl | rfl | rfl | rfl | rfl | rfl | rfl
  · exact w_c0
  · exact w_c1
  · exact w_c2
  · exact w_c3
  · exact w_c4
  · exact w_c5
  · exact w_c6
  · exact w_c7
  · exact w_c8
  · exact w_c9
  · exact w_c10
  · exact w_c11
  · exact w_c12
set_option maxRecDepth 65536 in
theorem w_t1 : (words1.take 24).all (fun c => isCode c || c.before args0 about1) = true := by decide +kernel
set_option maxRecDepth 65536 in
theorem w_t2 : ((words1.drop 24).take 24).all (fun c => isCode c || c.before args0 about1) = true := by decide +kernel
set_option maxRecDepth 65536 in
theorem w_t3 : (((words1.drop 24).drop 24).take 24).all (fun c => isCode c || c.before args0 about1) = true := by decide +kernel
set_option maxRecDepth 65536 in
theorem w_t4 : (((words1.drop 24).drop 24).drop 24).all (fun c => isCode c || c.before args0 about1) = true := by decide +kernel
theorem w_tables : (allAtoms (Jvm.Cond.code x code maxLocals ret :: tables_1)).before args0 about1 = true := by
  rw [allAtoms_all]
  show words1.all (fun c => c.before args0 about1) = true
  refine all_split ?_ w_codes
  rw [← List.take_append_drop 24 words1, List.all_append, w_t1, ← List.take_append_drop 24 (words1.drop 24), List.all_append, w_t2, ← List.take_append_drop 24 ((words1.drop 24).drop 24), List.all_append, w_t3, w_t4]
  rfl
set_option maxRecDepth 65536 in
theorem w_rest : rest_1_c.before args0 about1 = true := by decide +kernel
set_option maxRecDepth 65536 in
theorem w_case : (Jvm.Cond.and given_1 narrow_1).before args0 about1 = true := by decide +kernel
set_option maxRecDepth 65536 in
theorem w_consts : constsHeld consts_1 about1 := Jvm.Lit.constsHeldB_iff.mp (by decide +kernel)
theorem w_applies : (headSpec (Jvm.Cond.code x code maxLocals ret :: tables_1) room_1).applies x e0.platform about1 = true :=
  (Spec.applies_iff w_frames).mpr ⟨w_running, w_runnable, w_alone, w_named, w_hears, w_ripe, w_room, w_tables⟩
theorem atStart : AtStart classFile x code maxLocals ret World_1 tables_1 room_1 Calls_1 rest_1 Pre_1 launch0 p0 e0 about1 theMethod args0 below0 :=
  ⟨lists_1, trivial, launch0.admits_env _ _ _, launch0.least_env, fairChoices_fair.cas, fairChoices_fair.clock, w_frames, w_args, w_heap, w_applies, ⟨w_consts, trivial⟩, w_rest, w_case⟩
end start1
theorem witness_1 : WitnessClaimed_1 := ⟨start1.p0, start1.e0, start1.about1, start1.theMethod, start1.args0, start1.below0, start1.atStart⟩
end Jvm.Pilot.@@N@@
