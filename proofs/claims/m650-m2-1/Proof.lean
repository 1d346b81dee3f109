import JvmDerived
import JvmDerived.Pilot.@@N@@Statement
import JvmDerived.Pilot.@@N@@Code
set_option linter.unusedVariables false
set_option linter.unusedSimpArgs false
/- laws to paste: Road.backV, Road.eqW, Road.codOf (cut by pick.py; bodies as the Statement names them) -/
namespace Jvm.Pilot.@@N@@
namespace StrChars
open Jvm Sem ClassFile Op Lib Jvm.Stand Jvm.Free.XT Jvm.Free.ALB Jvm.Free.JM Jvm.Free
open Jvm.Lib.Cold (StaticIs)
/-- a char array whose places are chars -/
def Ch (a : Addr) (A : Cell) (U : State) : Prop := Arr .char a A U ∧ Typed .char A
theorem Ch.mv {a : Addr} {A : Cell} {U U' : State} (h : Ch a A U) (hal : U.vm.Alike U'.vm) (hh : U'.heap = U.heap) : Ch a A U' := ⟨h.1.mv hal hh, h.2⟩
theorem Ch.keep {a : Addr} {A : Cell} {U U' : State} (h : Ch a A U) (hal : U.vm.Alike U'.vm) (hk : U'.heap[a]? = some A) : Ch a A U' := ⟨h.1.keep hal hk, h.2⟩
/-- what place i of a char[]'s cell holds -/
def cv (A : Cell) (i : Nat) : Int32 := match A.slots[i]? with | some (.int x) => x | _ => 0
theorem Ch.get {a : Addr} {A : Cell} {U : State} (h : Ch a A U) {i : Nat} (hi : i < A.slots.size) : A.slots[i]? = some (.int (cv A i)) := by
  have e := Array.getElem?_eq_getElem hi
  have f := h.2 i _ e
  unfold cv; rw [e]
  generalize A.slots[i] = v at f
  cases v <;> simp [fits] at f ⊢
/-- the byte that i2b leaves of a char -/
def lo8 (x : Int32) : Int32 := x.toInt8.toInt32
theorem fits_lo8 (y : Int32) : fits .byte (.int (lo8 y)) = true := by
  have h1 := y.toInt8.le_toInt
  have h2 := y.toInt8.toInt_lt
  simp only [lo8, fits, Bool.and_eq_true, decide_eq_true_eq, Int32.le_iff_toInt_le, Int8.toInt_toInt32, show (-128 : Int32).toInt = -128 from by decide, show (127 : Int32).toInt = 127 from by decide]
  omega
/-- A' is A but that each place j of lo .. hi - 1 holds f j -/
def Laid (A A' : Cell) (lo hi : Nat) (f : Nat → Value) : Prop := A'.cls = A.cls ∧ A'.vm = A.vm ∧ A'.slots.size = A.slots.size ∧ ∀ i, A'.slots[i]? = if lo ≤ i ∧ i < hi then some (f i) else A.slots[i]?
theorem Laid.zero (A : Cell) (lo : Nat) (f : Nat → Value) : Laid A A lo (lo + 0) f := ⟨rfl, rfl, rfl, fun i => by rw [if_neg (by omega)]⟩
theorem Laid.step {A Ak : Cell} {lo k : Nat} {f : Nat → Value} {v : Value} (h : Laid A Ak lo k f) (hlo : lo ≤ k) (hk : k < Ak.slots.size) (hv : v = f k) : Laid A (Ak.setSlot k v) lo (k + 1) f := by
  refine ⟨h.1, h.2.1, by simpa [Cell.setSlot] using h.2.2.1, fun i => ?_⟩
  by_cases e : k = i
  · subst e; rw [Cell.slots_setSlot_self v hk, if_pos (by omega), hv]
  · rw [Cell.slots_setSlot_ne v e, h.2.2.2 i]
    by_cases q : lo ≤ i ∧ i < k
    · rw [if_pos q, if_pos (by omega)]
    · rw [if_neg q, if_neg (by omega)]
def U16 : String := "java/lang/StringUTF16"
namespace Cmp5
def yN : MethodName := ⟨"java/lang/StringUTF16", "compress", "([CI[BII)I"⟩
abbrev yB : ByteArray := jdk_52_method_21_code
theorem d0 : decode yB 0 = .ok (.iconst 0, 1) := by decide +kernel
theorem d1 : decode yB 1 = .ok (.istore 5, 2) := by decide +kernel
theorem d3 : decode yB 3 = .ok (.iload 5, 2) := by decide +kernel
theorem d5 : decode yB 5 = .ok (.iload 4, 2) := by decide +kernel
theorem d7 : decode yB 7 = .ok (.if_icmp (.ge) 37, 3) := by decide +kernel
theorem d10 : decode yB 10 = .ok (.aload_n 0, 1) := by decide +kernel
theorem d11 : decode yB 11 = .ok (.iload_n 1, 1) := by decide +kernel
theorem d12 : decode yB 12 = .ok (.caload, 1) := by decide +kernel
theorem d13 : decode yB 13 = .ok (.istore 6, 2) := by decide +kernel
theorem d15 : decode yB 15 = .ok (.iload 6, 2) := by decide +kernel
theorem d17 : decode yB 17 = .ok (.sipush 255, 3) := by decide +kernel
theorem d20 : decode yB 20 = .ok (.if_icmp (.le) 6, 3) := by decide +kernel
theorem d26 : decode yB 26 = .ok (.aload_n 2, 1) := by decide +kernel
theorem d27 : decode yB 27 = .ok (.iload_n 3, 1) := by decide +kernel
theorem d28 : decode yB 28 = .ok (.iload 6, 2) := by decide +kernel
theorem d30 : decode yB 30 = .ok (.i2b, 1) := by decide +kernel
theorem d31 : decode yB 31 = .ok (.bastore, 1) := by decide +kernel
theorem d32 : decode yB 32 = .ok (.iinc 1 1, 3) := by decide +kernel
theorem d35 : decode yB 35 = .ok (.iinc 3 1, 3) := by decide +kernel
theorem d38 : decode yB 38 = .ok (.iinc 5 1, 3) := by decide +kernel
theorem d41 : decode yB 41 = .ok (.goto (-38), 3) := by decide +kernel
theorem d44 : decode yB 44 = .ok (.iload 4, 2) := by decide +kernel
theorem d46 : decode yB 46 = .ok (.ireturn, 1) := by decide +kernel
def site : List Cond := []
def tab : Cond := tabOf yN yB 7 (some .int) site
def P (b : Addr) (A : Cell) (d : Addr) (B : Cell) (o q len : Nat) (args : Array Value) (s : State) : Prop := args = #[.ref b, .int (Int32.ofNat o), .ref d, .int (Int32.ofNat q), .int (Int32.ofNat len)] ∧ Ch b A s ∧ Arr .byte d B s ∧ b ≠ d ∧ o + len ≤ A.slots.size ∧ q + len ≤ B.slots.size ∧ ∀ i, i < len → ¬ 255 < cv A (o + i)
def E (b : Addr) (A : Cell) (d : Addr) (B : Cell) (o q len : Nat) (r : Option Value) (s u : State) : Prop := r = some (.int (Int32.ofNat len)) ∧ ∃ B', Put d B' s u ∧ Laid B B' q (q + len) (fun j => Value.int (lo8 (cv A (o + (j - q)))))
/-- no char of the range above 255: len; the places written hold each char's low byte -/
theorem law (l : Launch) (b : Addr) (A : Cell) (d : Addr) (B : Cell) (o q len : Nat) : Law l yN 5 5 0 0 yB 7 (some .int) site (P b A d B o q len) (E b A d B o q len) (copyLocs d q len) 0 0 := by
  refine Law.of_walk (plainFor_of_name (by decide +kernel)) (by decide +kernel) (by decide +kernel) (by decide) (fun _ _ h => by rw [h.1]; rfl) (fun _ U U' hal hh h => ⟨h.1, h.2.1.mv hal hh, h.2.2.1.mv hal hh, h.2.2.2⟩) (fun r U U' V V' h1 hal h2 h => ⟨h.1, h.2.elim fun B' q => ⟨B', q.1.mv h1 h2, q.2⟩⟩) ?_
  intro p e s m args below meth c s₁ X0 hexec hbytes hml hret hlk hnm hown hh0 W hP
  obtain ⟨rfl, hA, hB, hne, l1, l2, hp⟩ := hP
  have c1 : Steps p.tables e below (s₁.setTop (entryFrame m #[.ref b, .int (Int32.ofNat o), .ref d, .int (Int32.ofNat q), .int (Int32.ofNat len)] 7)) (s₁.setTop (mkF m 0 #[.val (.ref b), .val (.int (Int32.ofNat o)), .val (.ref d), .val (.int (Int32.ofNat q)), .val (.int (Int32.ofNat len)), .unset, .unset] [])) := entry rfl
  have hA0 := hA.1.mv X0.warmed.alike hh0
  have hB0 := hB.mv X0.warmed.alike hh0
  have a31 := hA.1.2.2.2
  have c2 : Steps p.tables e below (s₁.setTop (entryFrame m #[.ref b, .int (Int32.ofNat o), .ref d, .int (Int32.ofNat q), .int (Int32.ofNat len)] 7)) (s₁.setTop (mkF m 3 #[.val (.ref b), .val (.int (Int32.ofNat o)), .val (.ref d), .val (.int (Int32.ofNat q)), .val (.int (Int32.ofNat len)), .val (.int 0), .unset] [])) := c1.trans (by
    refine iconstV X0.here hexec rfl 0 (hb hbytes d0) (by decide) ?_
    refine XS.istore X0.here hexec rfl (hb hbytes d1) rfl rfl ?_
    exact Steps.refl _)
  have loop : ∀ (r i : Nat), i + r = len → ∀ (z : Slot), (z = .unset ∨ ∃ w, z = .val w ∧ w.category = 1) → ∀ (Tl : State) (Bk : Cell), Stand p l e { frames := 0, locals := 0, cells := 0, slots := 0 } s m #[.ref b, .int (Int32.ofNat o), .ref d, .int (Int32.ofNat q), .int (Int32.ofNat len)] below meth c Tl ([] ++ copyLocs d q i) 0 0 → Put d Bk s₁ Tl → Laid B Bk q (q + i) (fun j => Value.int (lo8 (cv A (o + (j - q))))) →
      Steps p.tables e below (s₁.setTop (entryFrame m #[.ref b, .int (Int32.ofNat o), .ref d, .int (Int32.ofNat q), .int (Int32.ofNat len)] 7)) (Tl.setTop (mkF m 3 #[.val (.ref b), .val (.int (Int32.ofNat (o + i))), .val (.ref d), .val (.int (Int32.ofNat (q + i))), .val (.int (Int32.ofNat len)), .val (.int (Int32.ofNat i)), z] [])) → ∃ (T' : State) (B' : Cell) (z' : Slot), Stand p l e { frames := 0, locals := 0, cells := 0, slots := 0 } s m #[.ref b, .int (Int32.ofNat o), .ref d, .int (Int32.ofNat q), .int (Int32.ofNat len)] below meth c T' ([] ++ copyLocs d q len) 0 0 ∧ Put d B' s₁ T' ∧ Laid B B' q (q + len) (fun j => Value.int (lo8 (cv A (o + (j - q))))) ∧
      Steps p.tables e below (s₁.setTop (entryFrame m #[.ref b, .int (Int32.ofNat o), .ref d, .int (Int32.ofNat q), .int (Int32.ofNat len)] 7)) (T'.setTop (mkF m 3 #[.val (.ref b), .val (.int (Int32.ofNat (o + len))), .val (.ref d), .val (.int (Int32.ofNat (q + len))), .val (.int (Int32.ofNat len)), .val (.int (Int32.ofNat len)), z'] [])) := by
    intro r
    induction r with
    | zero =>
      intro i hi z hz Tl Bk Xl pl fl cl
      have hil : i = len := by omega
      rw [hil] at Xl fl cl
      exact ⟨Tl, Bk, z, Xl, pl, fl, cl⟩
    | succ r ih =>
      intro i hi z hz Tl Bk Xl pl fl cl
      have all := X0.warmed.alike.symm.trans Xl.warmed.alike
      have hAl := hA0.keep all (pl.other hne hA0.1)
      have hBk := hB0.like all pl.1 fl.1 fl.2.1 fl.2.2.1
      have hlt : q + i < Bk.slots.size := by rw [fl.2.2.1]; omega
      have c3 : Steps p.tables e below (s₁.setTop (entryFrame m #[.ref b, .int (Int32.ofNat o), .ref d, .int (Int32.ofNat q), .int (Int32.ofNat len)] 7)) (Tl.setTop (mkF m 12 #[.val (.ref b), .val (.int (Int32.ofNat (o + i))), .val (.ref d), .val (.int (Int32.ofNat (q + i))), .val (.int (Int32.ofNat len)), .val (.int (Int32.ofNat i)), z] [.int (Int32.ofNat (o + i)), .ref b])) := cl.trans (by
        refine XS.iload Xl.here hexec rfl (hb hbytes d3) rfl ?_
        refine XS.iload Xl.here hexec rfl (hb hbytes d5) rfl ?_
        refine XS.icmpNo Xl.here hexec rfl (hb hbytes d7) rfl (ii_ge_f (lt32 (by omega) (by omega))) ?_
        refine XS.aloadN Xl.here hexec rfl (hb hbytes d10) rfl rfl ?_
        refine XS.iloadN Xl.here hexec rfl (hb hbytes d11) rfl ?_
        exact Steps.refl _)
      have c4 : Steps p.tables e below (s₁.setTop (entryFrame m #[.ref b, .int (Int32.ofNat o), .ref d, .int (Int32.ofNat q), .int (Int32.ofNat len)] 7)) (Tl.setTop (mkF m 13 #[.val (.ref b), .val (.int (Int32.ofNat (o + i))), .val (.ref d), .val (.int (Int32.ofNat (q + i))), .val (.int (Int32.ofNat len)), .val (.int (Int32.ofNat i)), z] [.int (cv A (o + i))])) := c3.trans (by
        refine Xl.aget hexec hAl rfl (hA.get (i := o + i) (by omega)) rfl rfl (hb hbytes d12) ?_
        exact Steps.refl _)
      have c5 : Steps p.tables e below (s₁.setTop (entryFrame m #[.ref b, .int (Int32.ofNat o), .ref d, .int (Int32.ofNat q), .int (Int32.ofNat len)] 7)) (Tl.setTop (mkF m 15 #[.val (.ref b), .val (.int (Int32.ofNat (o + i))), .val (.ref d), .val (.int (Int32.ofNat (q + i))), .val (.int (Int32.ofNat len)), .val (.int (Int32.ofNat i)), .val (.int (cv A (o + i)))] [])) := c4.trans (by
        refine XS.istoreS Xl.here hexec rfl (hb hbytes d13) rfl rfl hz ?_
        exact Steps.refl _)
      have c6 : Steps p.tables e below (s₁.setTop (entryFrame m #[.ref b, .int (Int32.ofNat o), .ref d, .int (Int32.ofNat q), .int (Int32.ofNat len)] 7)) (Tl.setTop (mkF m 31 #[.val (.ref b), .val (.int (Int32.ofNat (o + i))), .val (.ref d), .val (.int (Int32.ofNat (q + i))), .val (.int (Int32.ofNat len)), .val (.int (Int32.ofNat i)), .val (.int (cv A (o + i)))] [.int (lo8 (cv A (o + i))), .int (Int32.ofNat (q + i)), .ref d])) := c5.trans (by
        refine XS.iload Xl.here hexec rfl (hb hbytes d15) rfl ?_
        refine sipushV Xl.here hexec rfl 255 (hb hbytes d17) (by decide) ?_
        refine XS.icmpYes Xl.here hexec rfl (pc0 := 20) rfl (hb hbytes d20) rfl (ii_le_t (hp i (by omega))) (by decide) rfl ?_
        refine XS.aloadN Xl.here hexec rfl (hb hbytes d26) rfl rfl ?_
        refine XS.iloadN Xl.here hexec rfl (hb hbytes d27) rfl ?_
        refine XS.iload Xl.here hexec rfl (hb hbytes d28) rfl ?_
        refine i2b Xl.here hexec rfl (hb hbytes d30) rfl ?_
        exact Steps.refl _)
      obtain ⟨T7, X7, p7, st7⟩ := Xl.aput hexec hBk rfl hlt rfl (fits_lo8 (cv A (o + i))) (g := (mkF m 31 #[.val (.ref b), .val (.int (Int32.ofNat (o + i))), .val (.ref d), .val (.int (Int32.ofNat (q + i))), .val (.int (Int32.ofNat len)), .val (.int (Int32.ofNat i)), .val (.int (cv A (o + i)))] [.int (lo8 (cv A (o + i))), .int (Int32.ofNat (q + i)), .ref d])) rfl (rest := []) rfl (hb hbytes d31)
      have c8 : Steps p.tables e below (s₁.setTop (entryFrame m #[.ref b, .int (Int32.ofNat o), .ref d, .int (Int32.ofNat q), .int (Int32.ofNat len)] 7)) (T7.setTop (mkF m 32 #[.val (.ref b), .val (.int (Int32.ofNat (o + i))), .val (.ref d), .val (.int (Int32.ofNat (q + i))), .val (.int (Int32.ofNat len)), .val (.int (Int32.ofNat i)), .val (.int (cv A (o + i)))] [])) := c6.trans (st7 _ (Steps.refl _))
      have c9 : Steps p.tables e below (s₁.setTop (entryFrame m #[.ref b, .int (Int32.ofNat o), .ref d, .int (Int32.ofNat q), .int (Int32.ofNat len)] 7)) (T7.setTop (mkF m 3 #[.val (.ref b), .val (.int (Int32.ofNat (o + i) + 1)), .val (.ref d), .val (.int (Int32.ofNat (q + i) + 1)), .val (.int (Int32.ofNat len)), .val (.int (Int32.ofNat i + 1)), .val (.int (cv A (o + i)))] [])) := c8.trans (by
        refine iincV X7.here hexec rfl 1 (hb hbytes d32) (by decide) rfl rfl ?_
        refine iincV X7.here hexec rfl 1 (hb hbytes d35) (by decide) rfl rfl ?_
        refine iincV X7.here hexec rfl 1 (hb hbytes d38) (by decide) rfl rfl ?_
        refine XS.goto X7.here hexec rfl (pc0 := 41) rfl (hb hbytes d41) (by decide) rfl ?_
        exact Steps.refl _)
      have c10 : Steps p.tables e below (s₁.setTop (entryFrame m #[.ref b, .int (Int32.ofNat o), .ref d, .int (Int32.ofNat q), .int (Int32.ofNat len)] 7)) (T7.setTop (mkF m 3 #[.val (.ref b), .val (.int (Int32.ofNat (o + (i + 1)))), .val (.ref d), .val (.int (Int32.ofNat (q + (i + 1)))), .val (.int (Int32.ofNat len)), .val (.int (Int32.ofNat (i + 1))), .val (.int (cv A (o + i)))] [])) := by
        have := c9
        rw [succ32, succ32, succ32] at this
        exact this
      exact ih (i + 1) (by omega) _ (Or.inr ⟨_, rfl, rfl⟩) T7 _ (by rw [copyLocs_step, ← List.append_assoc]; exact X7) (pl.trans p7) (fl.step (by omega) hlt (by simp)) c10
  obtain ⟨T9, B9, z9, X9, p9, f9, g9⟩ := loop len 0 (by omega) .unset (Or.inl rfl) s₁ B (by simpa [copyLocs] using X0) ⟨hB0.1, fun _ _ => rfl, rfl⟩ (Laid.zero _ _ _) c2
  have c11 : Steps p.tables e below (s₁.setTop (entryFrame m #[.ref b, .int (Int32.ofNat o), .ref d, .int (Int32.ofNat q), .int (Int32.ofNat len)] 7)) (T9.setTop (mkF m 46 #[.val (.ref b), .val (.int (Int32.ofNat (o + len))), .val (.ref d), .val (.int (Int32.ofNat (q + len))), .val (.int (Int32.ofNat len)), .val (.int (Int32.ofNat len)), z9] [.int (Int32.ofNat len)])) := g9.trans (by
    refine XS.iload X9.here hexec rfl (hb hbytes d3) rfl ?_
    refine XS.iload X9.here hexec rfl (hb hbytes d5) rfl ?_
    refine XS.icmpYes X9.here hexec rfl (pc0 := 7) rfl (hb hbytes d7) rfl (ii_ge_t (nlt32 (by omega) (Nat.le_refl _))) (by decide) rfl ?_
    refine XS.iload X9.here hexec rfl (hb hbytes d44) rfl ?_
    exact Steps.refl _)
  exact ⟨T9, some (.int (Int32.ofNat len)), _, _, _, X9, by simp, rfl, rfl, (fun h => by cases h), ⟨rfl, B9, p9.from hh0, f9⟩, fun fs hl => c11.trans (X9.ireturnOut hexec hret rfl (Or.inl rfl) (hb hbytes d46) hl)⟩
end Cmp5
namespace Cmp3
def yN : MethodName := ⟨"java/lang/StringUTF16", "compress", "([CII)[B"⟩
abbrev yB : ByteArray := jdk_52_method_16_code
theorem d0 : decode yB 0 = .ok (.iload_n 2, 1) := by decide +kernel
theorem d1 : decode yB 1 = .ok (.newarray .byte, 2) := by decide +kernel
theorem d3 : decode yB 3 = .ok (.astore_n 3, 1) := by decide +kernel
theorem d4 : decode yB 4 = .ok (.aload_n 0, 1) := by decide +kernel
theorem d5 : decode yB 5 = .ok (.iload_n 1, 1) := by decide +kernel
theorem d6 : decode yB 6 = .ok (.aload_n 3, 1) := by decide +kernel
theorem d7 : decode yB 7 = .ok (.iconst 0, 1) := by decide +kernel
theorem d8 : decode yB 8 = .ok (.iload_n 2, 1) := by decide +kernel
theorem d9 : decode yB 9 = .ok (.invokestatic 115, 3) := by decide +kernel
theorem d12 : decode yB 12 = .ok (.istore 4, 2) := by decide +kernel
theorem d14 : decode yB 14 = .ok (.iload 4, 2) := by decide +kernel
theorem d16 : decode yB 16 = .ok (.iload_n 2, 1) := by decide +kernel
theorem d17 : decode yB 17 = .ok (.if_icmp (.eq) 40, 3) := by decide +kernel
theorem d57 : decode yB 57 = .ok (.aload_n 3, 1) := by decide +kernel
theorem d58 : decode yB 58 = .ok (.areturn, 1) := by decide +kernel
def site : List Cond := [.arrayClass .byte, Cmp5.tab] ++ staticW U16 115 Cmp5.yN
def tab : Cond := tabOf yN yB 6 (some (.array .byte)) site
def P (b : Addr) (A : Cell) (o len : Nat) (args : Array Value) (s : State) : Prop := args = #[.ref b, .int (Int32.ofNat o), .int (Int32.ofNat len)] ∧ Ch b A s ∧ o + len ≤ A.slots.size ∧ len ≤ 536870912 ∧ ∀ i, i < len → ¬ 255 < cv A (o + i)
def E (b : Addr) (A : Cell) (o len : Nat) (r : Option Value) (s u : State) : Prop := NewArr .byte "[B" len (fun j => .int (lo8 (cv A (o + j)))) r s u ∧ u.heap.size = s.heap.size + 1
/-- no char of the range above 255: a new byte[] of their low bytes -/
theorem law (l : Launch) (b : Addr) (A : Cell) (o len : Nat) : Law l yN 3 3 1 18 yB 6 (some (.array .byte)) site (P b A o len) (E b A o len) [] 1 len := by
  refine Law.of_walk (plainFor_of_name (by decide +kernel)) (by decide +kernel) (by decide +kernel) (by decide) (fun _ _ h => by rw [h.1]; rfl) (fun _ U U' hal hh h => ⟨h.1, h.2.1.mv hal hh, h.2.2⟩) (fun r U U' V V' h1 hal h2 h => ⟨NewArr.mv r U U' V V' h1 hal h2 h.1, by rw [h1, h2]; exact h.2⟩) ?_
  intro p e s m args below meth c s₁ X0 hexec hbytes hml hret hlk hnm hown hh0 W hP
  obtain ⟨rfl, hA, l1, l2, hp⟩ := hP
  have a31 := hA.1.2.2.2
  have c1 : Steps p.tables e below (s₁.setTop (entryFrame m #[.ref b, .int (Int32.ofNat o), .int (Int32.ofNat len)] 6)) (s₁.setTop (mkF m 0 #[.val (.ref b), .val (.int (Int32.ofNat o)), .val (.int (Int32.ofNat len)), .unset, .unset, .unset] [])) := entry rfl
  have c2 : Steps p.tables e below (s₁.setTop (entryFrame m #[.ref b, .int (Int32.ofNat o), .int (Int32.ofNat len)] 6)) (s₁.setTop (mkF m 1 #[.val (.ref b), .val (.int (Int32.ofNat o)), .val (.int (Int32.ofNat len)), .unset, .unset, .unset] [.int (Int32.ofNat len)])) := c1.trans (by
    refine XS.iloadN X0.here hexec rfl (hb hbytes d0) rfl ?_
    exact Steps.refl _)
  obtain ⟨T3, B3, X3, ba3, bs3, bv3, bh3, bf3, st3⟩ := X0.anew hexec (atype := .byte) (wk W (.arrayClass .byte)) rfl (by show len * 1 ≤ _; omega) (by omega) (g := (mkF m 1 #[.val (.ref b), .val (.int (Int32.ofNat o)), .val (.int (Int32.ofNat len)), .unset, .unset, .unset] [.int (Int32.ofNat len)])) rfl (hb hbytes d1) (rest := []) rfl (Nat.le_refl _) (by show 0 + len ≤ len; omega)
  rw [hh0] at ba3 st3
  have kp3 : XT.Kept s T3 := (XT.Kept.of_eq hh0).push bh3
  have hA3 := hA.keep X3.warmed.alike (kp3 _ _ hA.1.1)
  have hne : b ≠ s.heap.size := hA.1.ne
  have c4 : Steps p.tables e below (s₁.setTop (entryFrame m #[.ref b, .int (Int32.ofNat o), .int (Int32.ofNat len)] 6)) (T3.setTop (mkF m 3 #[.val (.ref b), .val (.int (Int32.ofNat o)), .val (.int (Int32.ofNat len)), .unset, .unset, .unset] [.ref s.heap.size])) := c2.trans (st3 _ (Steps.refl _))
  have c5 : Steps p.tables e below (s₁.setTop (entryFrame m #[.ref b, .int (Int32.ofNat o), .int (Int32.ofNat len)] 6)) (T3.setTop (mkF m 9 #[.val (.ref b), .val (.int (Int32.ofNat o)), .val (.int (Int32.ofNat len)), .val (.ref s.heap.size), .unset, .unset] [.int (Int32.ofNat len), .int 0, .ref s.heap.size, .int (Int32.ofNat o), .ref b])) := c4.trans (by
    refine XS.astoreN X3.here hexec rfl (hb hbytes d3) rfl rfl rfl ?_
    refine XS.aloadN X3.here hexec rfl (hb hbytes d4) rfl rfl ?_
    refine XS.iloadN X3.here hexec rfl (hb hbytes d5) rfl ?_
    refine XS.aloadN X3.here hexec rfl (hb hbytes d6) rfl rfl ?_
    refine iconstV X3.here hexec rfl 0 (hb hbytes d7) (by decide) ?_
    refine XS.iloadN X3.here hexec rfl (hb hbytes d8) rfl ?_
    exact Steps.refl _)
  obtain ⟨v6, T6, X6, E6, g6⟩ := X3.callS hexec (Cmp5.law l b A s.heap.size B3 o 0 len) hown (wks W (staticW U16 115 Cmp5.yN)) (wk W Cmp5.tab) (W := 0) (Nat.le_of_ble_eq_true rfl) (Nat.le_of_ble_eq_true rfl) (Nat.le_refl _) (by show 0 + len + 0 ≤ len; omega) (g := (mkF m 9 #[.val (.ref b), .val (.int (Int32.ofNat o)), .val (.int (Int32.ofNat len)), .val (.ref s.heap.size), .unset, .unset] [.int (Int32.ofNat len), .int (Int32.ofNat 0), .ref s.heap.size, .int (Int32.ofNat o), .ref b])) rfl (by rw [hml]; rfl) c5 (argsL := [.ref b, .int (Int32.ofNat o), .ref s.heap.size, .int (Int32.ofNat 0), .int (Int32.ofNat len)]) (rest := []) rfl rfl (by show 2 * 0 + 0 ≤ _; decide) (hb hbytes d9) (⟨rfl, hA3, ba3, hne, l1, by rw [bs3]; simp, hp⟩)
  obtain ⟨rfl, B6, p6, f6⟩ := E6
  have c7 : Steps p.tables e below (s₁.setTop (entryFrame m #[.ref b, .int (Int32.ofNat o), .int (Int32.ofNat len)] 6)) (T6.setTop (mkF m 12 #[.val (.ref b), .val (.int (Int32.ofNat o)), .val (.int (Int32.ofNat len)), .val (.ref s.heap.size), .unset, .unset] [.int (Int32.ofNat len)])) := g6
  have c8 : Steps p.tables e below (s₁.setTop (entryFrame m #[.ref b, .int (Int32.ofNat o), .int (Int32.ofNat len)] 6)) (T6.setTop (mkF m 58 #[.val (.ref b), .val (.int (Int32.ofNat o)), .val (.int (Int32.ofNat len)), .val (.ref s.heap.size), .val (.int (Int32.ofNat len)), .unset] [.ref s.heap.size])) := c7.trans (by
    refine XS.istore X6.here hexec rfl (hb hbytes d12) rfl rfl ?_
    refine XS.iload X6.here hexec rfl (hb hbytes d14) rfl ?_
    refine XS.iloadN X6.here hexec rfl (hb hbytes d16) rfl ?_
    refine XS.icmpYes X6.here hexec rfl (pc0 := 17) rfl (hb hbytes d17) rfl (ii_eq_t rfl) (by decide) rfl ?_
    refine XS.aloadN X6.here hexec rfl (hb hbytes d57) rfl rfl ?_
    exact Steps.refl _)
  have X8 := X6.wide (L' := []) (cells' := 1) (slots' := len) (fun x hx hlt => by
    simp only [List.nil_append, copyLocs, List.mem_map, List.mem_range] at hx
    obtain ⟨i, -, rfl⟩ := hx
    exact absurd hlt (Nat.lt_irrefl _)) (Nat.le_refl _) (by omega)
  exact ⟨T6, some (.ref s.heap.size), _, _, _, X8, rfl, rfl, rfl, (fun h => by cases h), ⟨⟨rfl, B6, ba3.like (X3.warmed.alike.symm.trans X6.warmed.alike) p6.1 f6.1 f6.2.1 f6.2.2.1, f6.2.1.trans bv3, by rw [X6.warmed.alike.findClass, f6.1]; exact bf3, by rw [f6.2.2.1, bs3]; simp, fun j hj => by rw [f6.2.2.2 j, if_pos (by omega)]; rfl, kp3.put p6 (Nat.le_refl _)⟩, by rw [p6.2.2, bh3, hh0]; simp⟩, fun fs hl => c8.trans (X8.areturnOut hexec rfl hret rfl (hb hbytes d58) hl)⟩
end Cmp3
namespace CodL
def yN : MethodName := ⟨"java/lang/StringUTF16", "coderFromArrayLen", "([BI)B"⟩
abbrev yB : ByteArray := jdk_52_method_15_code
theorem d0 : decode yB 0 = .ok (.iload_n 1, 1) := by decide +kernel
theorem d1 : decode yB 1 = .ok (.aload_n 0, 1) := by decide +kernel
theorem d2 : decode yB 2 = .ok (.arraylength, 1) := by decide +kernel
theorem d3 : decode yB 3 = .ok (.isub, 1) := by decide +kernel
theorem d4 : decode yB 4 = .ok (.bipush 31, 2) := by decide +kernel
theorem d6 : decode yB 6 = .ok (.iushr, 1) := by decide +kernel
theorem d7 : decode yB 7 = .ok (.i2b, 1) := by decide +kernel
theorem d8 : decode yB 8 = .ok (.ireturn, 1) := by decide +kernel
def site : List Cond := []
def tab : Cond := tabOf yN yB 2 (some .byte) site
def P (d : Addr) (B : Cell) (args : Array Value) (s : State) : Prop := args = #[.ref d, .int (Int32.ofNat B.slots.size)] ∧ Arr .byte d B s
def E (r : Option Value) (s u : State) : Prop := XT.PureE (some (.int 0)) r s u
/-- an array as long as the number of chars: LATIN1 -/
theorem law (l : Launch) (d : Addr) (B : Cell) : Law l yN 2 2 0 0 yB 2 (some .byte) site (P d B) E [] 0 0 := by
  refine Law.of_walk (plainFor_of_name (by decide +kernel)) (by decide +kernel) (by decide +kernel) (by decide) (fun _ _ h => by rw [h.1]; rfl) (fun _ U U' hal hh h => ⟨h.1, h.2.mv hal hh⟩) (fun r U U' V V' h1 hal h2 h => XT.PureE.mv r U U' V V' h1 hal h2 h) ?_
  intro p e s m args below meth c s₁ X0 hexec hbytes hml hret hlk hnm hown hh0 W hP
  obtain ⟨rfl, hB⟩ := hP
  have hB0 := hB.mv X0.warmed.alike hh0
  have c1 : Steps p.tables e below (s₁.setTop (entryFrame m #[.ref d, .int (Int32.ofNat B.slots.size)] 2)) (s₁.setTop (mkF m 0 #[.val (.ref d), .val (.int (Int32.ofNat B.slots.size))] [])) := entry rfl
  have c2 : Steps p.tables e below (s₁.setTop (entryFrame m #[.ref d, .int (Int32.ofNat B.slots.size)] 2)) (s₁.setTop (mkF m 2 #[.val (.ref d), .val (.int (Int32.ofNat B.slots.size))] [.ref d, .int (Int32.ofNat B.slots.size)])) := c1.trans (by
    refine XS.iloadN X0.here hexec rfl (hb hbytes d0) rfl ?_
    refine XS.aloadN X0.here hexec rfl (hb hbytes d1) rfl rfl ?_
    exact Steps.refl _)
  have c3 : Steps p.tables e below (s₁.setTop (entryFrame m #[.ref d, .int (Int32.ofNat B.slots.size)] 2)) (s₁.setTop (mkF m 8 #[.val (.ref d), .val (.int (Int32.ofNat B.slots.size))] [.int (lo8 (ushr (Int32.ofNat B.slots.size - Int32.ofNat B.slots.size) 31))])) := c2.trans (by
    refine X0.alen hexec hB0 rfl rfl (hb hbytes d2) ?_
    refine XS.isub X0.here hexec rfl (hb hbytes d3) rfl ?_
    refine bipushV X0.here hexec rfl 31 (hb hbytes d4) (by decide) ?_
    refine iushr X0.here hexec rfl (hb hbytes d6) rfl ?_
    refine i2b X0.here hexec rfl (hb hbytes d7) rfl ?_
    exact Steps.refl _)
  have e0 : lo8 (ushr (Int32.ofNat B.slots.size - Int32.ofNat B.slots.size) 31) = 0 := by rw [Int32.sub_self]; decide
  rw [e0] at c3
  exact ⟨s₁, some (.int 0), _, _, _, X0, rfl, rfl, rfl, (fun h => by cases h), ⟨rfl, hh0⟩, fun fs hl => c3.trans (X0.ireturnOut hexec hret rfl (Or.inr (Or.inr (Or.inl rfl))) (hb hbytes d8) hl)⟩
end CodL
/-- the String at a is Latin-1 over a new byte[] (the heap's one new cell): the low bytes of the len chars of A from o on; every cell but a is kept -/
def Got (a : Addr) (D : Cell) (fV fC : Field) (A : Cell) (o len : Nat) (r : Option Value) (s u : State) : Prop := r = none ∧ ∃ D' V : Cell, Blank "java/lang/String" a D' u ∧ Same D D' [fV.slot, fC.slot] ∧ D'.slots[fV.slot]? = some (.ref s.heap.size) ∧ D'.slots[fC.slot]? = some (.int 0) ∧ Arr .byte s.heap.size V u ∧ V.vm = .none ∧ u.vm.findClass "[B" = some V.cls ∧ V.slots.size = len ∧ (∀ j, j < len → V.slots[j]? = some (.int (lo8 (cv A (o + j))))) ∧ (∀ (y : Addr) (c : Cell), y ≠ a → s.heap[y]? = some c → u.heap[y]? = some c) ∧ u.heap.size = s.heap.size + 1
theorem Got.mv {a : Addr} {D A : Cell} {fV fC : Field} {o len : Nat} : ∀ r (U U' V V' : State), U'.heap = U.heap → V.vm.Alike V'.vm → V'.heap = V.heap → Got a D fV fC A o len r U V → Got a D fV fC A o len r U' V' :=
  fun r U U' V V' h1 hal h2 ⟨e0, D', X, a1, a2, a3, a4, a5, a6, a7, a8, a9, a10, a11⟩ => ⟨e0, D', X, a1.mv hal h2, a2, by rw [h1]; exact a3, a4, by rw [h1]; exact a5.mv hal h2, a6, by rw [hal.findClass]; exact a7, a8, a9, by rw [h1, h2]; exact a10, by rw [h1, h2]; exact a11⟩
namespace New4
def yN : MethodName := ⟨"java/lang/String", "<init>", "([CIILjava/lang/Void;)V"⟩
abbrev yB : ByteArray := jdk_42_method_149_code
theorem d0 : decode yB 0 = .ok (.aload_n 0, 1) := by decide +kernel
theorem d1 : decode yB 1 = .ok (.invokespecial 1, 3) := by decide +kernel
theorem d4 : decode yB 4 = .ok (.iload_n 3, 1) := by decide +kernel
theorem d5 : decode yB 5 = .ok (.ifCond (.ne) 22, 3) := by decide +kernel
theorem d27 : decode yB 27 = .ok (.getstatic 38, 3) := by decide +kernel
theorem d30 : decode yB 30 = .ok (.ifCond (.eq) 28, 3) := by decide +kernel
theorem d33 : decode yB 33 = .ok (.aload_n 1, 1) := by decide +kernel
theorem d34 : decode yB 34 = .ok (.iload_n 2, 1) := by decide +kernel
theorem d35 : decode yB 35 = .ok (.iload_n 3, 1) := by decide +kernel
theorem d36 : decode yB 36 = .ok (.invokestatic 177, 3) := by decide +kernel
theorem d39 : decode yB 39 = .ok (.astore 5, 2) := by decide +kernel
theorem d41 : decode yB 41 = .ok (.aload_n 0, 1) := by decide +kernel
theorem d42 : decode yB 42 = .ok (.aload 5, 2) := by decide +kernel
theorem d44 : decode yB 44 = .ok (.iload_n 3, 1) := by decide +kernel
theorem d45 : decode yB 45 = .ok (.invokestatic 47, 3) := by decide +kernel
theorem d48 : decode yB 48 = .ok (.putfield 15, 3) := by decide +kernel
theorem d51 : decode yB 51 = .ok (.aload_n 0, 1) := by decide +kernel
theorem d52 : decode yB 52 = .ok (.aload 5, 2) := by decide +kernel
theorem d54 : decode yB 54 = .ok (.putfield 9, 3) := by decide +kernel
theorem d57 : decode yB 57 = .ok (.return_, 1) := by decide +kernel
def site : List Cond := [.fieldLink "java/lang/String" 38 "java/lang/String" "COMPACT_STRINGS" "Z", Cmp3.tab, CodL.tab, .laysFinal "java/lang/String" "java/lang/String" "value" "[B", .fieldLink "java/lang/String" 9 "java/lang/String" "value" "[B", .laysFinal "java/lang/String" "java/lang/String" "coder" "B", .fieldLink "java/lang/String" 15 "java/lang/String" "coder" "B"] ++ objW "java/lang/String" 1 ++ staticW "java/lang/String" 177 Cmp3.yN ++ staticW "java/lang/String" 47 CodL.yN
def tab : Cond := tabOf yN yB 6 none site
def P (a : Addr) (D : Cell) (fV fC : Field) (b : Addr) (A : Cell) (z : Int32) (o len : Nat) (args : Array Value) (s : State) : Prop := args = #[.ref a, .ref b, .int (Int32.ofNat o), .int (Int32.ofNat len), .null] ∧ Blank "java/lang/String" a D s ∧ Found "java/lang/String" "value" "[B" fV s ∧ Found "java/lang/String" "coder" "B" fC s ∧ Ch b A s ∧ StaticIs s "java/lang/String" "COMPACT_STRINGS" "Z" (.int z) ∧ ¬ z = 0 ∧ 0 < len ∧ o + len ≤ A.slots.size ∧ len ≤ 536870912 ∧ ∀ i, i < len → ¬ 255 < cv A (o + i)
def E (a : Addr) (D : Cell) (fV fC : Field) (A : Cell) (o len : Nat) (r : Option Value) (s u : State) : Prop := Got a D fV fC A o len r s u
/-- len > 0, no char of the range above 255: a Latin-1 String of their low bytes -/
theorem law (l : Launch) (a : Addr) (D : Cell) (fV fC : Field) (b : Addr) (A : Cell) (z : Int32) (o len : Nat) : Law l yN 5 4 2 35 yB 6 none site (P a D fV fC b A z o len) (E a D fV fC A o len) [⟨a, fC.slot⟩, ⟨a, fV.slot⟩] 1 len := by
  refine Law.of_walk (plainFor_of_name (by decide +kernel)) (by decide +kernel) (by decide +kernel) (by decide) (fun _ _ h => by rw [h.1]; rfl) (fun _ U U' hal hh h => ⟨h.1, h.2.1.mv hal hh, h.2.2.1.al hal, h.2.2.2.1.al hal, h.2.2.2.2.1.mv hal hh, h.2.2.2.2.2.1.there hal hh, h.2.2.2.2.2.2⟩) (fun r U U' V V' h1 hal h2 h => Got.mv r U U' V V' h1 hal h2 h) ?_
  intro p e s m args below meth c s₁ X0 hexec hbytes hml hret hlk hnm hown hh0 W hP
  obtain ⟨rfl, hB, f1, f2, hA, s1, hz, l0, l1, l2, hp⟩ := hP
  have a31 := hA.1.2.2.2
  have c1 : Steps p.tables e below (s₁.setTop (entryFrame m #[.ref a, .ref b, .int (Int32.ofNat o), .int (Int32.ofNat len), .null] 6)) (s₁.setTop (mkF m 0 #[.val (.ref a), .val (.ref b), .val (.int (Int32.ofNat o)), .val (.int (Int32.ofNat len)), .val .null, .unset] [])) := entry rfl
  have c2 : Steps p.tables e below (s₁.setTop (entryFrame m #[.ref a, .ref b, .int (Int32.ofNat o), .int (Int32.ofNat len), .null] 6)) (s₁.setTop (mkF m 1 #[.val (.ref a), .val (.ref b), .val (.int (Int32.ofNat o)), .val (.int (Int32.ofNat len)), .val .null, .unset] [.ref a])) := c1.trans (by
    refine XS.aloadN X0.here hexec rfl (hb hbytes d0) rfl rfl ?_
    exact Steps.refl _)
  obtain ⟨T3, X3, q3, st3⟩ := X0.oinit hexec hown (wks W (objW "java/lang/String" 1)) (g := (mkF m 1 #[.val (.ref a), .val (.ref b), .val (.int (Int32.ofNat o)), .val (.int (Int32.ofNat len)), .val .null, .unset] [.ref a])) rfl (by rw [hml]; rfl) (rest := []) rfl (hb hbytes d1) (W := 0) (by show 2 * 0 + 0 ≤ _; decide) (Nat.le_of_ble_eq_true rfl) (Nat.le_of_ble_eq_true rfl)
  have hh3 := q3.trans hh0
  have c4 : Steps p.tables e below (s₁.setTop (entryFrame m #[.ref a, .ref b, .int (Int32.ofNat o), .int (Int32.ofNat len), .null] 6)) (T3.setTop (mkF m 27 #[.val (.ref a), .val (.ref b), .val (.int (Int32.ofNat o)), .val (.int (Int32.ofNat len)), .val .null, .unset] [])) := (c2.trans (st3 _ (Steps.refl _))).trans (by
    refine XS.iloadN X3.here hexec rfl (hb hbytes d4) rfl ?_
    refine XS.ifYes X3.here hexec rfl (pc0 := 5) rfl (hb hbytes d5) rfl (i0_ne_t (nz32 (by omega) l0)) (by decide) rfl ?_
    exact Steps.refl _)
  obtain ⟨T5, X5, q5, st5⟩ := X3.sget hexec hown (wk W (.fieldLink "java/lang/String" 38 "java/lang/String" "COMPACT_STRINGS" "Z")) s1 (fun _ _ h => by rw [hh3]; exact h) (g := (mkF m 27 #[.val (.ref a), .val (.ref b), .val (.int (Int32.ofNat o)), .val (.int (Int32.ofNat len)), .val .null, .unset] [])) rfl (hb hbytes d27)
  have hh5 := q5.trans hh3
  have c6 : Steps p.tables e below (s₁.setTop (entryFrame m #[.ref a, .ref b, .int (Int32.ofNat o), .int (Int32.ofNat len), .null] 6)) (T5.setTop (mkF m 30 #[.val (.ref a), .val (.ref b), .val (.int (Int32.ofNat o)), .val (.int (Int32.ofNat len)), .val .null, .unset] [.int z])) := c4.trans (st5 _ (Steps.refl _))
  have c7 : Steps p.tables e below (s₁.setTop (entryFrame m #[.ref a, .ref b, .int (Int32.ofNat o), .int (Int32.ofNat len), .null] 6)) (T5.setTop (mkF m 36 #[.val (.ref a), .val (.ref b), .val (.int (Int32.ofNat o)), .val (.int (Int32.ofNat len)), .val .null, .unset] [.int (Int32.ofNat len), .int (Int32.ofNat o), .ref b])) := c6.trans (by
    refine XS.ifNo X5.here hexec rfl (hb hbytes d30) rfl (i0_eq_f hz) ?_
    refine XS.aloadN X5.here hexec rfl (hb hbytes d33) rfl rfl ?_
    refine XS.iloadN X5.here hexec rfl (hb hbytes d34) rfl ?_
    refine XS.iloadN X5.here hexec rfl (hb hbytes d35) rfl ?_
    exact Steps.refl _)
  obtain ⟨v8, T8, X8, E8, g8⟩ := X5.callS hexec (Cmp3.law l b A o len) hown (wks W (staticW "java/lang/String" 177 Cmp3.yN)) (wk W Cmp3.tab) (W := 0) (Nat.le_of_ble_eq_true rfl) (Nat.le_of_ble_eq_true rfl) (Nat.le_refl _) (by show 0 + len ≤ len; omega) (g := (mkF m 36 #[.val (.ref a), .val (.ref b), .val (.int (Int32.ofNat o)), .val (.int (Int32.ofNat len)), .val .null, .unset] [.int (Int32.ofNat len), .int (Int32.ofNat o), .ref b])) rfl (by rw [hml]; rfl) c7 (argsL := [.ref b, .int (Int32.ofNat o), .int (Int32.ofNat len)]) (rest := []) rfl rfl (by show 2 * 0 + 0 ≤ _; decide) (hb hbytes d36) (⟨rfl, hA.mv X5.warmed.alike hh5, l1, l2, hp⟩)
  obtain ⟨e8, z8⟩ := E8
  obtain ⟨rfl, N, n1, n2, n3, n4, n5, n6⟩ := NewArr.mv _ T5 s _ _ hh5.symm (Vm.Alike.refl _) rfl e8
  rw [hh5] at z8
  have hB1 := hB.keep X8.warmed.alike (n6 _ _ hB.1)
  have hne : s.heap.size ≠ a := (Nat.ne_of_lt (Array.getElem?_eq_some_iff.mp hB.1).1).symm
  have c9 : Steps p.tables e below (s₁.setTop (entryFrame m #[.ref a, .ref b, .int (Int32.ofNat o), .int (Int32.ofNat len), .null] 6)) (T8.setTop (mkF m 39 #[.val (.ref a), .val (.ref b), .val (.int (Int32.ofNat o)), .val (.int (Int32.ofNat len)), .val .null, .unset] [.ref s.heap.size])) := g8
  have c10 : Steps p.tables e below (s₁.setTop (entryFrame m #[.ref a, .ref b, .int (Int32.ofNat o), .int (Int32.ofNat len), .null] 6)) (T8.setTop (mkF m 45 #[.val (.ref a), .val (.ref b), .val (.int (Int32.ofNat o)), .val (.int (Int32.ofNat len)), .val .null, .val (.ref s.heap.size)] [.int (Int32.ofNat N.slots.size), .ref s.heap.size, .ref a])) := by
    have hc : Steps p.tables e below (s₁.setTop (entryFrame m #[.ref a, .ref b, .int (Int32.ofNat o), .int (Int32.ofNat len), .null] 6)) (T8.setTop (mkF m 45 #[.val (.ref a), .val (.ref b), .val (.int (Int32.ofNat o)), .val (.int (Int32.ofNat len)), .val .null, .val (.ref s.heap.size)] [.int (Int32.ofNat len), .ref s.heap.size, .ref a])) := c9.trans (by
      refine XS.astore X8.here hexec rfl (hb hbytes d39) rfl rfl rfl ?_
      refine XS.aloadN X8.here hexec rfl (hb hbytes d41) rfl rfl ?_
      refine XS.aload X8.here hexec rfl (hb hbytes d42) rfl rfl ?_
      refine XS.iloadN X8.here hexec rfl (hb hbytes d44) rfl ?_
      exact Steps.refl _)
    rw [n4]; exact hc
  obtain ⟨v11, T11, X11, E11, g11⟩ := X8.callS hexec (CodL.law l s.heap.size N) hown (wks W (staticW "java/lang/String" 47 CodL.yN)) (wk W CodL.tab) (W := 1) (Nat.le_of_ble_eq_true rfl) (Nat.le_of_ble_eq_true rfl) (Nat.le_refl _) (by show 0 + len + 0 ≤ len; omega) (g := (mkF m 45 #[.val (.ref a), .val (.ref b), .val (.int (Int32.ofNat o)), .val (.int (Int32.ofNat len)), .val .null, .val (.ref s.heap.size)] [.int (Int32.ofNat N.slots.size), .ref s.heap.size, .ref a])) rfl (by rw [hml]; rfl) c10 (argsL := [.ref s.heap.size, .int (Int32.ofNat N.slots.size)]) (rest := [.ref a]) rfl rfl (by show 2 * 0 + (1 + 0) ≤ _; decide) (hb hbytes d45) (⟨rfl, n1⟩)
  obtain ⟨rfl, q11⟩ := E11
  have hB11 := hB1.mv (X8.warmed.alike.symm.trans X11.warmed.alike) q11
  have c12 : Steps p.tables e below (s₁.setTop (entryFrame m #[.ref a, .ref b, .int (Int32.ofNat o), .int (Int32.ofNat len), .null] 6)) (T11.setTop (mkF m 48 #[.val (.ref a), .val (.ref b), .val (.int (Int32.ofNat o)), .val (.int (Int32.ofNat len)), .val .null, .val (.ref s.heap.size)] [.int 0, .ref a])) := g11
  obtain ⟨T13, X13, p13, bl13, sl13, st13⟩ := X11.finit hexec hown (wk W (.fieldLink "java/lang/String" 15 "java/lang/String" "coder" "B")) (Or.inr ⟨_, (wk W (.laysFinal "java/lang/String" "java/lang/String" "coder" "B"))⟩) (Or.inl ⟨rfl, hnm⟩) f2 (Or.inl rfl) hB11 (t := .byte) (by decide +kernel) rfl (g := (mkF m 48 #[.val (.ref a), .val (.ref b), .val (.int (Int32.ofNat o)), .val (.int (Int32.ofNat len)), .val .null, .val (.ref s.heap.size)] [.int 0, .ref a])) rfl (rest := []) rfl (hb hbytes d48)
  have c14 : Steps p.tables e below (s₁.setTop (entryFrame m #[.ref a, .ref b, .int (Int32.ofNat o), .int (Int32.ofNat len), .null] 6)) (T13.setTop (mkF m 54 #[.val (.ref a), .val (.ref b), .val (.int (Int32.ofNat o)), .val (.int (Int32.ofNat len)), .val .null, .val (.ref s.heap.size)] [.ref s.heap.size, .ref a])) := (c12.trans (st13 _ (Steps.refl _))).trans (by
    refine XS.aloadN X13.here hexec rfl (hb hbytes d51) rfl rfl ?_
    refine XS.aload X13.here hexec rfl (hb hbytes d52) rfl rfl ?_
    exact Steps.refl _)
  obtain ⟨T15, X15, p15, bl15, sl15, st15⟩ := X13.finit hexec hown (wk W (.fieldLink "java/lang/String" 9 "java/lang/String" "value" "[B")) (Or.inr ⟨_, (wk W (.laysFinal "java/lang/String" "java/lang/String" "value" "[B"))⟩) (Or.inl ⟨rfl, hnm⟩) f1 (Or.inl rfl) bl13 (t := (.array .byte)) (by decide +kernel) rfl (g := (mkF m 54 #[.val (.ref a), .val (.ref b), .val (.int (Int32.ofNat o)), .val (.int (Int32.ofNat len)), .val .null, .val (.ref s.heap.size)] [.ref s.heap.size, .ref a])) rfl (rest := []) rfl (hb hbytes d54)
  have c16 : Steps p.tables e below (s₁.setTop (entryFrame m #[.ref a, .ref b, .int (Int32.ofNat o), .int (Int32.ofNat len), .null] 6)) (T15.setTop (mkF m 57 #[.val (.ref a), .val (.ref b), .val (.int (Int32.ofNat o)), .val (.int (Int32.ofNat len)), .val .null, .val (.ref s.heap.size)] [])) := c14.trans (st15 _ (Steps.refl _))
  have ap := apart (Or.inr ⟨_, (wk W (.laysFinal "java/lang/String" "java/lang/String" "value" "[B"))⟩) (Or.inr ⟨_, (wk W (.laysFinal "java/lang/String" "java/lang/String" "coder" "B"))⟩) f1 f2 (t₁ := .array .byte) (t₂ := .byte) (by decide +kernel) (by decide +kernel) (by decide)
  have al := X8.warmed.alike.symm.trans X15.warmed.alike
  have n7 : T11.heap[s.heap.size]? = some N := by rw [q11]; exact n1.1
  exact ⟨T15, none, _, _, _, X15, by simp, rfl, by omega, (fun _ => rfl), ⟨rfl, _, N, bl15, ((Same.refl D _).set _ (by simp)).set _ (by simp), sl15, (Cell.slots_setSlot_ne _ ap).trans sl13, n1.keep al (p15.other hne (p13.other hne n7)), n2, by rw [al.findClass]; exact n3, n4, n5, fun y c h1 h2 => p15.other h1 (p13.other h1 (by rw [q11]; exact n6 y c h2)), by rw [p15.2.2, p13.2.2, q11]; exact z8⟩, fun fs hl => c16.trans (X15.returnOut hexec hret (hb hbytes d57) hl)⟩
end New4
namespace New1
def yN : MethodName := ⟨"java/lang/String", "<init>", "([C)V"⟩
abbrev yB : ByteArray := jdk_42_method_3_code
theorem d0 : decode yB 0 = .ok (.aload_n 0, 1) := by decide +kernel
theorem d1 : decode yB 1 = .ok (.aload_n 1, 1) := by decide +kernel
theorem d2 : decode yB 2 = .ok (.iconst 0, 1) := by decide +kernel
theorem d3 : decode yB 3 = .ok (.aload_n 1, 1) := by decide +kernel
theorem d4 : decode yB 4 = .ok (.arraylength, 1) := by decide +kernel
theorem d5 : decode yB 5 = .ok (.aconst_null, 1) := by decide +kernel
theorem d6 : decode yB 6 = .ok (.invokespecial 27, 3) := by decide +kernel
theorem d9 : decode yB 9 = .ok (.return_, 1) := by decide +kernel
def site : List Cond := [New4.tab] ++ initW "java/lang/String" 27 New4.yN
def tab : Cond := tabOf yN yB 2 none site
def P (a : Addr) (D : Cell) (fV fC : Field) (b : Addr) (A : Cell) (z : Int32) (args : Array Value) (s : State) : Prop := args = #[.ref a, .ref b] ∧ Blank "java/lang/String" a D s ∧ Found "java/lang/String" "value" "[B" fV s ∧ Found "java/lang/String" "coder" "B" fC s ∧ Ch b A s ∧ StaticIs s "java/lang/String" "COMPACT_STRINGS" "Z" (.int z) ∧ ¬ z = 0 ∧ 0 < A.slots.size ∧ A.slots.size ≤ 536870912 ∧ ∀ i, i < A.slots.size → ¬ 255 < cv A i
def E (a : Addr) (D : Cell) (fV fC : Field) (A : Cell) (r : Option Value) (s u : State) : Prop := Got a D fV fC A 0 A.slots.size r s u
/-- new String(chars), not empty, no char above 255: a Latin-1 String of their low bytes -/
theorem law (l : Launch) (a : Addr) (D : Cell) (fV fC : Field) (b : Addr) (A : Cell) (z : Int32) : Law l yN 2 1 3 52 yB 2 none site (P a D fV fC b A z) (E a D fV fC A) [⟨a, fC.slot⟩, ⟨a, fV.slot⟩] 1 A.slots.size := by
  refine Law.of_walk (plainFor_of_name (by decide +kernel)) (by decide +kernel) (by decide +kernel) (by decide) (fun _ _ h => by rw [h.1]; rfl) (fun _ U U' hal hh h => ⟨h.1, h.2.1.mv hal hh, h.2.2.1.al hal, h.2.2.2.1.al hal, h.2.2.2.2.1.mv hal hh, h.2.2.2.2.2.1.there hal hh, h.2.2.2.2.2.2⟩) (fun r U U' V V' h1 hal h2 h => Got.mv r U U' V V' h1 hal h2 h) ?_
  intro p e s m args below meth c s₁ X0 hexec hbytes hml hret hlk hnm hown hh0 W hP
  obtain ⟨rfl, hB, f1, f2, hA, s1, hz, l0, l2, hp⟩ := hP
  have c1 : Steps p.tables e below (s₁.setTop (entryFrame m #[.ref a, .ref b] 2)) (s₁.setTop (mkF m 0 #[.val (.ref a), .val (.ref b)] [])) := entry rfl
  have c2 : Steps p.tables e below (s₁.setTop (entryFrame m #[.ref a, .ref b] 2)) (s₁.setTop (mkF m 6 #[.val (.ref a), .val (.ref b)] [.null, .int (Int32.ofNat A.slots.size), .int 0, .ref b, .ref a])) := c1.trans (by
    refine XS.aloadN X0.here hexec rfl (hb hbytes d0) rfl rfl ?_
    refine XS.aloadN X0.here hexec rfl (hb hbytes d1) rfl rfl ?_
    refine iconstV X0.here hexec rfl 0 (hb hbytes d2) (by decide) ?_
    refine XS.aloadN X0.here hexec rfl (hb hbytes d3) rfl rfl ?_
    refine X0.alen hexec (hA.1.mv X0.warmed.alike hh0) rfl rfl (hb hbytes d4) ?_
    refine XS.aconstNull X0.here hexec rfl (hb hbytes d5) ?_
    exact Steps.refl _)
  obtain ⟨v3, T3, X3, E3, g3⟩ := X0.callN hexec (New4.law l a D fV fC b A z 0 A.slots.size) rfl hown (wks W (initW "java/lang/String" 27 New4.yN)) (W New4.tab (by simp only [site, List.mem_cons, List.mem_append, true_or, or_true])) (W := 0) (Nat.le_of_ble_eq_true rfl) (Nat.le_of_ble_eq_true rfl) (Nat.le_refl _) (by show 0 + A.slots.size ≤ A.slots.size; omega) (g := (mkF m 6 #[.val (.ref a), .val (.ref b)] [.null, .int (Int32.ofNat A.slots.size), .int (Int32.ofNat 0), .ref b, .ref a])) rfl (by rw [hml]; rfl) c2 (argsL := [.ref b, .int (Int32.ofNat 0), .int (Int32.ofNat A.slots.size), .null]) (rest := []) rfl rfl (by show 2 * 0 + 0 ≤ _; decide) (hb hbytes d6) (⟨rfl, hB.mv X0.warmed.alike hh0, f1.al X0.warmed.alike, f2.al X0.warmed.alike, hA.mv X0.warmed.alike hh0, s1.there X0.warmed.alike hh0, hz, l0, by omega, l2, fun i hi => by rw [Nat.zero_add]; exact hp i hi⟩)
  have e0 := Got.mv _ s₁ s _ _ hh0.symm (Vm.Alike.refl _) rfl E3
  obtain rfl := e0.1
  have c4 : Steps p.tables e below (s₁.setTop (entryFrame m #[.ref a, .ref b] 2)) (T3.setTop (mkF m 9 #[.val (.ref a), .val (.ref b)] [])) := g3
  exact ⟨T3, none, _, _, _, X3, by simp, rfl, by omega, (fun _ => rfl), e0, fun fs hl => c4.trans (X3.returnOut hexec hret (hb hbytes d9) hl)⟩
theorem pays {l : Launch} {R : Room} {p : Program} {e : Env} {below : List Frame} {s : State} {sargs : Array Value} {len W : Nat} (a : Addr) (D : Cell) (fV fC : Field) (b : Addr) (A : Cell) (z : Int32) (htab : tab.before sargs s = true) (hfr : 4 ≤ R.frames) (hlo : W + 65 ≤ R.locals) :
    Back l R p e below s sargs yN len W (fun A₁ a₁ => A₁.cells + 1 ≤ R.cells ∧ A₁.slots + A.slots.size ≤ R.slots ∧ P a D fV fC b A z a₁ A₁.U) (fun A₁ _ v₁ B₁ => E a D fV fC A v₁ A₁.U B₁.U ∧ B₁.locs = A₁.locs ++ [⟨a, fC.slot⟩, ⟨a, fV.slot⟩] ∧ B₁.cells = A₁.cells + 1 ∧ B₁.slots = A₁.slots + A.slots.size) :=
  (law l a D fV fC b A z).pays htab hfr (by omega)
end New1
/-- the byte, read back as charAt reads it, is the char -/
theorem lo8_mask {x : Int32} (h0 : ¬ x < 0) (h1 : ¬ 255 < x) : lo8 x &&& 255 = x := by
  have t : ∀ k : Fin 256, lo8 (Int32.ofNat k.val) &&& 255 = Int32.ofNat k.val := by decide +kernel
  rw [Int32.lt_iff_toInt_lt] at h0 h1
  have e0 : (0 : Int32).toInt = 0 := rfl
  have e1 : (255 : Int32).toInt = 255 := rfl
  obtain ⟨k, hk⟩ : ∃ k : Nat, x.toInt = k := ⟨x.toInt.toNat, by omega⟩
  have hx : x = Int32.ofNat k := Int32.toInt_inj.mp (by rw [hk, Int32.toInt_ofNat_small (by omega)])
  rw [hx]
  exact t ⟨k, by omega⟩
end StrChars
namespace StrChars.Road
open Jvm Sem ClassFile Op Lib Jvm.Stand Jvm.Free Jvm.Free.XT
open Jvm.Lib.Cold (StaticIs)
abbrev ST : String := "java/lang/String"
/-- every table word that New1's law asks, flat -/
abbrev words : List Jvm.Cond := [.code New1.yN New1.yB 2 none, .initialized ST, .methodLink ST 27 New4.yN, .instanceMethod New4.yN,
  .code New4.yN New4.yB 6 none, .fieldLink ST 38 ST "COMPACT_STRINGS" "Z", .laysFinal ST ST "value" "[B", .fieldLink ST 9 ST "value" "[B", .laysFinal ST ST "coder" "B", .fieldLink ST 15 ST "coder" "B",
  .methodLink ST 1 Lib.objectInit, .instanceMethod Lib.objectInit, .code Lib.objectInit ⟨#[0xb1]⟩ 1 none, .methodLink ST 177 Cmp3.yN, .static Cmp3.yN, .methodLink ST 47 CodL.yN, .static CodL.yN,
  .code Cmp3.yN Cmp3.yB 6 (some (.array .byte)), .initialized U16, .arrayClass .byte, .methodLink U16 115 Cmp5.yN, .static Cmp5.yN, .code Cmp5.yN Cmp5.yB 7 (some .int), .code CodL.yN CodL.yB 2 (some .byte)]
theorem tab_of {a : Array Value} {s : State} (h : ∀ w ∈ words, w.before a s = true) : New1.tab.before a s = true := by
  have h5 : Cmp5.tab.before a s = true := unparts (wk h (.code Cmp5.yN Cmp5.yB 7 (some .int))) (wks h (.initialized Cmp5.yN.cls :: Cmp5.site))
  have hc : CodL.tab.before a s = true := unparts (wk h (.code CodL.yN CodL.yB 2 (some .byte))) (wks h (.initialized CodL.yN.cls :: CodL.site))
  have q5 : ∀ w ∈ Cmp5.tab :: words, w.before a s = true := fun w hw => (List.mem_cons.mp hw).elim (fun e => e ▸ h5) (h w)
  have h3 : Cmp3.tab.before a s = true := unparts (wk q5 (.code Cmp3.yN Cmp3.yB 6 (some (.array .byte)))) (wks q5 (.initialized Cmp3.yN.cls :: Cmp3.site))
  have q3 : ∀ w ∈ Cmp3.tab :: CodL.tab :: words, w.before a s = true := fun w hw => (List.mem_cons.mp hw).elim (fun e => e ▸ h3) fun hw => (List.mem_cons.mp hw).elim (fun e => e ▸ hc) (h w)
  have h4 : New4.tab.before a s = true := unparts (wk q3 (.code New4.yN New4.yB 6 none)) (wks q3 (.initialized New4.yN.cls :: New4.site))
  have q4 : ∀ w ∈ New4.tab :: words, w.before a s = true := fun w hw => (List.mem_cons.mp hw).elim (fun e => e ▸ h4) (h w)
  exact unparts (wk q4 (.code New1.yN New1.yB 2 none)) (wks q4 (.initialized New1.yN.cls :: New1.site))
/-- the words ride from the start Z to the walk's own state -/
theorem moved {Z s : State} {a0 args : Array Value} (hZ : Z.Warmed39 s.vm) (hw : ∀ d ∈ words, d.before a0 Z = true) : ∀ d ∈ words, d.before args s = true := fun d hd => by
  have q := hw d hd
  have t : ∀ d ∈ words, d = .arrayClass .byte ∨ (d.onTables && d.keepsFace) = true := by decide +kernel
  rcases t d hd with rfl | t
  · exact RoadKit.mvA hZ q
  · exact RoadKit.mv hZ q t
/-- WHAT COMES BACK, over the tables of the start Z: h the heap at the call, h' behind it -/
def Q (Z : State) (x : Addr) (A : Cell) (h : Heap) (v : Option Value) (h' : Heap) (L : List Loc) : Prop := v = none ∧ (∀ y ∈ L, y.base = x) ∧ RoadKit.Keep h h' [x] ∧ h'.size = h.size + 1 ∧ RoadKit.Exa Z h' x ST ∧ RoadKit.Fld Z h' x ST "value" "[B" (.ref h.size) ∧ RoadKit.Fld Z h' x ST "coder" "B" (.int 0) ∧
  (∃ V : Cell, RoadKit.Arr Z h' h.size V .byte ∧ V.vm = .none ∧ Z.vm.findClass "[B" = some V.cls ∧ V.slots.size = A.slots.size ∧ ∀ j, j < A.slots.size → V.slots[j]? = some (.int (lo8 (cv A j)))) ∧
  ∀ (O n d : String) (w : Value), RoadKit.Fld Z h x O n d w → RoadKit.slotOf Z O n d ≠ RoadKit.slotOf Z ST "value" "[B" → RoadKit.slotOf Z O n d ≠ RoadKit.slotOf Z ST "coder" "B" → RoadKit.Fld Z h' x O n d w
/-- **new String(chars) AT A CALL, IN THE ROAD'S FORM**: for specialBack behind newO: x the fresh String, b the char[] with the cell A -/
theorem back {p : Program} {l : Launch} {e : Env} {R : Room} {s : State} {args : Array Value} {below : List Frame} {len W : Nat} {Z : State} {a0 : Array Value} {h : Heap} (hZ : Z.Warmed39 s.vm) (hw : ∀ d ∈ words, d.before a0 Z = true) {kI : Nat} (wi : (Jvm.Cond.instantiable ST kI).before a0 Z = true)
    {x b : Addr} {A : Cell} {z : Int32} {v0 c0 : Value} (E : RoadKit.Exa Z h x ST) (V : RoadKit.Fld Z h x ST "value" "[B" v0) (C : RoadKit.Fld Z h x ST "coder" "B" c0) (K : RoadKit.Arr Z h b A .char) (hty : Typed .char A) (S : RoadKit.Sta Z h ST "COMPACT_STRINGS" "Z" (.int z)) (hz : ¬ z = 0)
    (l0 : 0 < A.slots.size) (l2 : A.slots.size ≤ 536870912) (hp : ∀ i, i < A.slots.size → ¬ 255 < cv A i) (hfr : 4 ≤ R.frames) (hlo : W + 65 ≤ R.locals) :
    Back l R p e below s args New1.yN len W (fun P a => a = #[.ref x, .ref b] ∧ P.U.heap = h ∧ P.cells + 1 ≤ R.cells ∧ P.slots + A.slots.size ≤ R.slots)
      (fun P _ v B => ∃ L, Q Z x A h v B.U.heap L ∧ B.locs = P.locs ++ L ∧ B.cells = P.cells + 1 ∧ B.slots = P.slots + A.slots.size) := by
  intro m meth c P g ig mk a X hg hsize hdg hW hn hp'
  obtain ⟨rfl, rfl, r1, r2⟩ := hp'
  have al : Z.vm.Alike P.U.vm := hZ.alike.trans X.warmed.alike
  obtain ⟨D, cfV, kV, iV, fV, hD, gV, stV, knV, obV, asV, slV⟩ := id V
  obtain ⟨D', cfC, kC, iC, fC, hD', gC, stC, -, -, asC, slC⟩ := id C
  cases hD.symm.trans hD'
  obtain ⟨D2, kD, e1, e2, e3, e4, e5⟩ := id E
  cases hD.symm.trans e1
  obtain ⟨c2, k2, i1, i2, i3, -⟩ := Cond.instantiable_spec wi
  cases e2.symm.trans i1
  cases e3.symm.trans i2
  obtain ⟨kU, u1, u2⟩ := al.2.2 _ _ e3
  have hB : Blank ST x D P.U := ⟨hD, ⟨knV, fun q hq => by rw [hq] at obV; cases obV⟩, by rw [al.findClass]; exact e2, kU, u1, by rw [u2]; exact i3, by rw [u2]; exact e5 i3⟩
  have F1 : Found ST "value" "[B" fV P.U := ⟨SBG.found_only al ⟨cfV, kV, iV, gV⟩, stV⟩
  have F2 : Found ST "coder" "B" fC P.U := ⟨SBG.found_only al ⟨cfC, kC, iC, gC⟩, stC⟩
  have hA : Ch b A P.U := ⟨⟨K.1, State.isArrayOf_alike al K.2.1, K.2.2, by omega⟩, hty⟩
  have hS : StaticIs P.U ST "COMPACT_STRINGS" "Z" (.int z) := by
    obtain ⟨cfS, iS, kS, fS, st, cS, t1, t2, t3, t4, t5, t6, t7⟩ := S
    exact StaticIs.there (s := { Z with heap := P.U.heap }) ⟨cfS, iS, kS, fS, st, cS, t1, t2, t3, t4, t5, (fun q => by rw [q] at t6; cases t6), t7⟩ al rfl
  obtain ⟨v, B, X', ⟨⟨hv, E', V', q1, q2, q3, q4, q5, q6, q7, q8, q9, q10, q11⟩, hl, hc, hs⟩, st⟩ := New1.pays x D fV fC b A z (tab_of (moved hZ hw)) hfr hlo m meth c P g ig mk _ X hg hsize hdg hW hn ⟨r1, r2, rfl, hB, F1, F2, hA, hS, hz, l0, l2, hp⟩
  have al' : Z.vm.Alike B.U.vm := hZ.alike.trans X'.warmed.alike
  have hsz : E'.slots.size = D.slots.size := by
    obtain ⟨-, -, -, kB, w1, w2, w3⟩ := q1
    obtain ⟨kB', y1, y2⟩ := al'.2.2 _ _ e3
    rw [q2.2.1] at w1
    cases w1.symm.trans y1
    rw [w3, e5 i3, y2]
  refine ⟨v, B, X', ⟨_, ⟨hv, ?_, ⟨by omega, fun y cy hy hn' => q10 y cy (by simpa using hn') hy, fun y cy hy => ?_⟩, q11, ⟨E', _, q1.1, by rw [q2.2.1]; exact e2, by rw [q2.2.1]; exact e3, by rw [q2.1]; exact obV, fun _ => by rw [hsz]; exact e5 i3⟩,
    ⟨E', cfV, kV, iV, fV, q1.1, gV, stV, by rw [q2.1]; exact knV, by rw [q2.1]; exact obV, by rw [q2.2.1]; exact asV, q3⟩, ⟨E', cfC, kC, iC, fC, q1.1, gC, stC, by rw [q2.1]; exact knV, by rw [q2.1]; exact obV, by rw [q2.2.1]; exact asC, q4⟩,
    ⟨V', ⟨q5.1, State.isArrayOf_alike al'.symm q5.2.1, q5.2.2.1⟩, q6, by rw [← al'.findClass]; exact q7, q8, fun j hj => by have := q9 j hj; rwa [Nat.zero_add] at this⟩, fun O n d w F n1 n2 => ?_⟩, hl, hc, hs⟩, st⟩
  · intro y hy
    simp only [List.mem_cons, List.not_mem_nil, or_false] at hy
    rcases hy with rfl | rfl <;> rfl
  · by_cases q : y = x
    · subst q
      cases hD.symm.trans hy
      exact ⟨E', q1.1, q2.2.1, q2.1, hsz⟩
    · exact ⟨cy, q10 y cy q hy, rfl, rfl, rfl⟩
  · obtain ⟨D3, cf, k, i, f, g1, g2, g3, g4, g5, g6, g7⟩ := F
    cases hD.symm.trans g1
    simp only [RoadKit.slotOf, g2, gV, gC, Option.map_some, Option.getD_some] at n1 n2
    exact ⟨E', cf, k, i, f, q1.1, g2, g3, by rw [q2.1]; exact g4, by rw [q2.1]; exact g5, by rw [q2.2.1]; exact g6, by rw [q2.2.2 f.slot (by simp [n1, n2])]; exact g7⟩
end StrChars.Road
namespace StrChars.Road
open Jvm Sem ClassFile Op Lib Jvm.Stand Jvm.Free Jvm.Free.XT
/-- WHAT COMES BACK, the byte[] as a list of values -/
def QA (Z : State) (x : Addr) (zn : Int32) (cs : List Int32) (h : Heap) (v : Option Value) (h' : Heap) (L : List Loc) : Prop := v = none ∧ (∀ y ∈ L, y.base = x) ∧ RoadKit.Keep h h' [x] ∧ h'.size = h.size + 1 ∧ RoadKit.Exa Z h' x ST ∧ RoadKit.Fld Z h' x ST "value" "[B" (.ref h.size) ∧ RoadKit.Fld Z h' x ST "coder" "B" (.int 0) ∧
  (∃ kb, Z.vm.findClass "[B" = some kb ∧ RoadKit.Arv Z h' h.size kb .byte zn (cs.map fun c => .int (lo8 c)) (.int 0)) ∧
  ∀ (O n d : String) (w : Value), RoadKit.Fld Z h x O n d w → RoadKit.slotOf Z O n d ≠ RoadKit.slotOf Z ST "value" "[B" → RoadKit.slotOf Z O n d ≠ RoadKit.slotOf Z ST "coder" "B" → RoadKit.Fld Z h' x O n d w
/-- **new String(chars) AT A CALL, THE ARRAYS AS LISTS**: the char[] at b holds cs, not empty, no char above 255 -/
theorem backArv {p : Program} {l : Launch} {e : Env} {R : Room} {s : State} {args : Array Value} {below : List Frame} {len W : Nat} {Z : State} {a0 : Array Value} {h : Heap} (hZ : Z.Warmed39 s.vm) (hw : ∀ d ∈ words, d.before a0 Z = true) {kI : Nat} (wi : (Jvm.Cond.instantiable ST kI).before a0 Z = true)
    {x b : Addr} {k : ClassId} {zn z : Int32} {cs : List Int32} {dv v0 c0 : Value} (E : RoadKit.Exa Z h x ST) (V : RoadKit.Fld Z h x ST "value" "[B" v0) (C : RoadKit.Fld Z h x ST "coder" "B" c0) (K : RoadKit.Arv Z h b k .char zn (cs.map Value.int) dv) (S : RoadKit.Sta Z h ST "COMPACT_STRINGS" "Z" (.int z)) (hz : ¬ z = 0)
    (hlen : zn.toNatClampNeg = cs.length) (h0 : 0 < cs.length) (hbig : cs.length ≤ 536870912) (hall : ∀ c ∈ cs, ¬ 255 < c) (hfr : 4 ≤ R.frames) (hlo : W + 65 ≤ R.locals) :
    Back l R p e below s args New1.yN len W (fun P a => a = #[.ref x, .ref b] ∧ P.U.heap = h ∧ P.cells + 1 ≤ R.cells ∧ P.slots + cs.length ≤ R.slots)
      (fun P _ v B => ∃ L, QA Z x zn cs h v B.U.heap L ∧ B.locs = P.locs ++ L ∧ B.cells = P.cells + 1 ∧ B.slots = P.slots + cs.length) := by
  obtain ⟨A, K1, K2, K3, K4, K5, K6⟩ := K
  have e : A.slots.size = cs.length := K3.trans hlen
  have hat : ∀ (i : Nat) (hi : i < cs.length), A.slots[i]? = some (.int cs[i]) := fun i hi => by rw [K5 i (by omega)]; simp [List.getD_eq_getElem?_getD, hi]
  have hcv : ∀ (i : Nat) (hi : i < cs.length), cv A i = cs[i] := fun i hi => by unfold cv; rw [hat i hi]
  have hty : Typed .char A := fun i v hv => by
    have hi : i < A.slots.size := (Array.getElem?_eq_some_iff.mp hv).1
    have q := K5 i hi
    rw [hv] at q
    rw [Option.some.inj q]
    exact K6 i hi
  refine Back.mono (back hZ hw wi E V C K1 hty S hz (by omega) (by omega) (fun i hi => by rw [hcv i (by omega)]; exact hall _ (List.getElem_mem _)) hfr hlo) (fun P a hp => ⟨hp.1, hp.2.1, hp.2.2.1, by rw [e]; exact hp.2.2.2⟩) (fun P a v B hp hq => ?_)
  obtain ⟨L, ⟨q1, q2, q3, q4, q5, q6, q7, ⟨V', v1, v2, v3, v4, v5⟩, q9⟩, hl, hc, hs⟩ := hq
  refine ⟨L, ⟨q1, q2, q3, q4, q5, q6, q7, ⟨V'.cls, v3, V', v1, rfl, by rw [v4, e, hlen], K4, fun i hi => ?_, fun i hi => ?_⟩, q9⟩, hl, hc, by rw [hs, e]⟩
  · have hi' : i < cs.length := by omega
    rw [v5 i (by omega), hcv i hi']; simp [List.getD_eq_getElem?_getD, hi']
  · have hi' : i < cs.length := by omega
    simp only [List.getD_eq_getElem?_getD, List.getElem?_map, List.getElem?_eq_getElem hi', Option.map_some, Option.getD_some]
    exact fits_lo8 _
end StrChars.Road
namespace StrChars.Road
open Jvm Sem ClassFile Op Lib Jvm.Stand Jvm.Free Jvm.Free.XT
/-- WHAT COMES BACK, in the writer's own shape -/
def QV (Z : State) (x : Addr) (N : Int32) (bs : List Int32) (h : Heap) (n0 : Nat) (v : Option Value) (h' : Heap) (L : List Loc) : Prop := v = none ∧ RoadKit.Fr n0 L ∧ RoadKit.Keep h h' [x] ∧ RoadKit.Exa Z h' x ST ∧ RoadKit.Fld Z h' x ST "coder" "B" (.int 0) ∧
  ∃ (t : Addr) (kb : ClassId), n0 ≤ t ∧ h.size ≤ t ∧ ¬ t = x ∧ RoadKit.Fld Z h' x ST "value" "[B" (.ref t) ∧ RoadKit.Arv Z h' t kb .byte N (bs.map Value.int) (.int 0)
/-- **new String(chars) AT A CALL, FOR THE WRITER**: a char[] of n known ints, each 0 to 255 -/
theorem backV {p : Program} {l : Launch} {e : Env} {R : Room} {s : State} {args : Array Value} {below : List Frame} {len W : Nat} {Z : State} {a0 : Array Value} {h : Heap} (hZ : Z.Warmed39 s.vm) (hw : ∀ d ∈ words, d.before a0 Z = true) {kI : Nat} (wi : (Jvm.Cond.instantiable ST kI).before a0 Z = true)
    {x b : Addr} {kC : ClassId} {cs bs : List Int32} {d v0 c0 : Value} {z N : Int32} {n n0 : Nat} (hx0 : n0 ≤ x) (hh0 : n0 ≤ h.size) (E : RoadKit.Exa Z h x ST) (V : RoadKit.Fld Z h x ST "value" "[B" v0) (C : RoadKit.Fld Z h x ST "coder" "B" c0) (K : RoadKit.Arv Z h b kC .char N (cs.map Value.int) d) (S : RoadKit.Sta Z h ST "COMPACT_STRINGS" "Z" (.int z)) (hz : ¬ z = 0)
    (hn : cs.length = n) (hN : N = Int32.ofNat n) (l0 : 0 < n) (l2 : n ≤ 4000) (hp : ∀ c ∈ cs, ¬ c < 0 ∧ ¬ (255 : Int32) < c) (hb : bs = cs.map (fun c => c.toInt8.toInt32)) (hfr : 4 ≤ R.frames) (hlo : W + 65 ≤ R.locals) :
    Back l R p e below s args (⟨"java/lang/String", "<init>", "([C)V"⟩ : MethodName) len W (fun P a => a = #[.ref x, .ref b] ∧ P.U.heap = h ∧ P.cells + 1 ≤ R.cells ∧ P.slots + n ≤ R.slots)
      (fun P _ v B => ∃ L, QV Z x N bs h n0 v B.U.heap L ∧ B.locs = P.locs ++ L ∧ B.cells = P.cells + 1 ∧ B.slots = P.slots + n) := by
  subst hn hN hb
  refine Back.mono (backArv hZ hw wi E V C K S hz (n32 (by omega)) l0 (by omega) (fun c hc => (hp c hc).2) hfr hlo) (fun P a hp => hp) (fun P a v B hp hq => ?_)
  obtain ⟨L, ⟨q1, q2, q3, q4, q5, q6, q7, ⟨kb, v1, v2⟩, q9⟩, hl, hc, hs⟩ := hq
  exact ⟨L, ⟨q1, fun y hy => by rw [q2 y hy]; exact hx0, q3, q5, q7, h.size, kb, hh0, Nat.le_refl _, Nat.ne_of_gt E.lt, q6, by rw [List.map_map]; exact v2⟩, hl, hc, hs⟩
end StrChars.Road
namespace StrChars
open Jvm Sem ClassFile Op Lib Jvm.Stand Jvm.Free.XT Jvm.Free.ALB Jvm.Free.JM Jvm.Free
open Jvm.Lib.Cold (StaticIs)
def hi8 (x : Int32) : Int32 := lo8 (x >>> ((8 : Int32) &&& 31))
/-- what StringUTF16.getChar makes of two bytes -/
def pairCh (u v : Int32) : Int32 := (((u &&& 255) <<< ((0 : Int32) &&& 31)) ||| ((v &&& 255) <<< ((8 : Int32) &&& 31))).toUInt32.toUInt16.toUInt32.toInt32
theorem lo8_and (x : Int32) : (lo8 x &&& 255).toBitVec.toNat = x.toBitVec.toNat % 256 := by
  have h : (lo8 x).toBitVec = (x.toBitVec.signExtend 8).signExtend 32 := by rw [lo8, Int8.toBitVec_toInt32, Int32.toBitVec_toInt8]
  rw [Int32.toBitVec_and, BitVec.toNat_and, h]
  have e : ((x.toBitVec.signExtend 8).signExtend 32).toNat % 256 = x.toBitVec.toNat % 256 := by
    rw [BitVec.toNat_signExtend]
    have hlt := x.toBitVec.isLt
    simp only [BitVec.toNat_setWidth, BitVec.toNat_signExtend]
    split <;> split <;> omega
  rw [← e]
  exact Nat.and_two_pow_sub_one_eq_mod _ 8
theorem pair_says {c : Int32} (h0 : ¬ c < 0) (h1 : ¬ 65535 < c) : pairCh (lo8 c) (hi8 c) = c := by
  rw [Int32.lt_iff_toInt_lt] at h0 h1
  have e0 : (0 : Int32).toInt = 0 := rfl
  have e1 : (65535 : Int32).toInt = 65535 := rfl
  have hc : c.toInt = c.toBitVec.toNat := by
    have := c.toBitVec.isLt
    have e : c.toInt = c.toBitVec.toInt := rfl
    rw [e] at h0 h1
    rw [e]
    rw [BitVec.toInt_eq_toNat_cond] at h0 h1 ⊢
    split at h0 <;> split <;> omega
  have hn : c.toBitVec.toNat < 65536 := by omega
  have a1 := lo8_and c
  have a2 : (hi8 c &&& 255).toBitVec.toNat = c.toBitVec.toNat / 256 := by
    rw [hi8, lo8_and]
    have e : ((8 : Int32) &&& 31) = 8 := by decide
    rw [e, Int32.toBitVec_shiftRight]
    have e2 : ((8 : Int32).toBitVec.smod 32) = 8#32 := by decide
    rw [e2, BitVec.sshiftRight_eq', BitVec.toNat_sshiftRight_of_msb_false (by rw [BitVec.msb_eq_false_iff_two_mul_lt]; omega)]
    show c.toBitVec.toNat >>> 8 % 256 = _
    rw [Nat.shiftRight_eq_div_pow]
    omega
  unfold pairCh
  apply Int32.toBitVec_inj.mp
  apply BitVec.eq_of_toNat_eq
  have f0 : ((0 : Int32) &&& 31) = 0 := by decide
  have f8 : ((8 : Int32) &&& 31) = 8 := by decide
  rw [f0, f8]
  have g : (((lo8 c &&& 255) <<< (0 : Int32)) ||| ((hi8 c &&& 255) <<< (8 : Int32))).toBitVec.toNat = c.toBitVec.toNat := by
    rw [Int32.toBitVec_or, Int32.toBitVec_shiftLeft, Int32.toBitVec_shiftLeft]
    have s0 : ((0 : Int32).toBitVec.smod 32) = 0#32 := by decide
    have s8 : ((8 : Int32).toBitVec.smod 32) = 8#32 := by decide
    rw [s0, s8, BitVec.toNat_or]
    simp only [BitVec.shiftLeft_eq', BitVec.toNat_shiftLeft, a1, a2]
    show (c.toBitVec.toNat % 256) <<< 0 % 2 ^ 32 ||| (c.toBitVec.toNat / 256) <<< 8 % 2 ^ 32 = _
    rw [Nat.shiftLeft_zero, Nat.mod_eq_of_lt (show c.toBitVec.toNat % 256 < 2 ^ 32 by omega), Nat.mod_eq_of_lt (show (c.toBitVec.toNat / 256) <<< 8 < 2 ^ 32 by rw [Nat.shiftLeft_eq]; omega), Nat.or_comm, ← Nat.shiftLeft_add_eq_or_of_lt (by omega), Nat.shiftLeft_eq]
    omega
  show BitVec.toNat (((((lo8 c &&& 255) <<< (0 : Int32)) ||| ((hi8 c &&& 255) <<< (8 : Int32))).toBitVec.setWidth 16).setWidth 32) = _
  rw [BitVec.toNat_setWidth, BitVec.toNat_setWidth, g]
  omega
end StrChars
namespace StrChars
open Jvm Sem ClassFile Op Lib Jvm.Stand Jvm.Free.XT Jvm.Free.ALB Jvm.Free.JM Jvm.Free
open Jvm.Lib.Cold (StaticIs)
/-- the array's cell V codes the n chars f 0 .. f (n - 1) by the coder cd, as the JDK does: coder 1 just where some char is above 255 -/
def Cod (cd : Int32) (n : Nat) (f : Nat → Int32) (V : Cell) : Prop := (cd = 0 ∧ V.slots.size = n ∧ ∀ j, j < n → V.slots[j]? = some (.int (lo8 (f j))) ∧ ¬ 255 < f j) ∨ (cd = 1 ∧ V.slots.size = 2 * n ∧ (∀ j, j < n → V.slots[2 * j]? = some (.int (lo8 (f j))) ∧ V.slots[2 * j + 1]? = some (.int (hi8 (f j)))) ∧ ∃ j, j < n ∧ 255 < f j)
/-- **x is a String of the n chars f 0 .. f (n - 1)**, Latin-1 or UTF-16; its array at t has the cell V -/
def Txt (x t : Addr) (V : Cell) (cd : Int32) (n : Nat) (f : Nat → Int32) (U : State) : Prop := Exact "java/lang/String" x U ∧ Has x "java/lang/String" "value" "[B" (.ref t) U ∧ Has x "java/lang/String" "coder" "B" (.int cd) U ∧ XT.Arr .byte t V U ∧ Cod cd n f V ∧ ∀ j, j < n → ¬ f j < 0 ∧ ¬ 65535 < f j
theorem Txt.mv {x t : Addr} {V : Cell} {cd : Int32} {n : Nat} {f : Nat → Int32} {U U' : State} (h : Txt x t V cd n f U) (hal : U.vm.Alike U'.vm) (hh : U'.heap = U.heap) : Txt x t V cd n f U' := ⟨h.1.mv hal hh, h.2.1.mv hal hh, h.2.2.1.mv hal hh, h.2.2.2.1.mv hal hh, h.2.2.2.2⟩
end StrChars
namespace StrChars.Road
open Jvm Sem ClassFile Op Lib Jvm.Stand Jvm.Free Jvm.Free.XT
open Jvm.Lib.Cold (StaticIs)
theorem consq {a : Array Value} {s : State} {c : Jvm.Cond} {L : List Jvm.Cond} (h0 : c.before a s = true) (h : ∀ w ∈ L, w.before a s = true) : ∀ w ∈ c :: L, w.before a s = true := fun w hw => (List.mem_cons.mp hw).elim (fun e => e ▸ h0) (h w)
/-- the bytes of the chars cs, low before high -/
def wideBytes : List Int32 → List Value
  | [] => []
  | c :: cs => .int (lo8 c) :: .int (hi8 c) :: wideBytes cs
theorem wide_lo (d : Value) : ∀ (cs : List Int32) (j : Nat), j < cs.length → (wideBytes cs).getD (2 * j) d = .int (lo8 (cs.getD j 0))
  | [], j, h => absurd h (Nat.not_lt_zero j)
  | c :: cs, 0, _ => rfl
  | c :: cs, j + 1, h => by
    have q := wide_lo d cs j (by simpa using h)
    rw [show 2 * (j + 1) = 2 * j + 1 + 1 from by omega]
    simpa [wideBytes] using q
theorem wide_hi (d : Value) : ∀ (cs : List Int32) (j : Nat), j < cs.length → (wideBytes cs).getD (2 * j + 1) d = .int (hi8 (cs.getD j 0))
  | [], j, h => absurd h (Nat.not_lt_zero j)
  | c :: cs, 0, _ => rfl
  | c :: cs, j + 1, h => by
    have q := wide_hi d cs j (by simpa using h)
    rw [show 2 * (j + 1) + 1 = 2 * j + 1 + 1 + 1 from by omega]
    simpa [wideBytes] using q
theorem low_at (d : Value) (cs : List Int32) (j : Nat) (h : j < cs.length) : (cs.map fun c => Value.int (lo8 c)).getD j d = .int (lo8 (cs.getD j 0)) := by
  simp [List.getD_eq_getElem?_getD, h]
/-- an array of N2 bytes vs codes the chars cs by the coder cd -/
def CodA (cs : List Int32) (cd N2 : Int32) (vs : List Value) : Prop := (cd = 0 ∧ N2 = Int32.ofNat cs.length ∧ vs = (cs.map fun c => Value.int (lo8 c)) ∧ ∀ c ∈ cs, ¬ 255 < c) ∨ (cd = 1 ∧ N2 = Int32.ofNat (2 * cs.length) ∧ vs = wideBytes cs ∧ ∃ c ∈ cs, 255 < c)
theorem CodA.cod {cs : List Int32} {cd N2 : Int32} {vs : List Value} {V : Cell} (h : CodA cs cd N2 vs) (hn : 2 * cs.length < 2 ^ 31) (hs : V.slots.size = N2.toNatClampNeg) (hv : RoadKit.Has V vs (.int 0)) : Cod cd cs.length (fun j => cs.getD j 0) V := by
  rcases h with ⟨rfl, rfl, rfl, h⟩ | ⟨rfl, rfl, rfl, c, hc, hw⟩
  · rw [n32 (by omega)] at hs
    exact Or.inl ⟨rfl, hs, fun j hj => ⟨by rw [hv j (by omega), low_at _ _ _ hj], by
      have e : cs.getD j 0 = cs[j] := by simp [List.getD_eq_getElem?_getD, hj]
      show ¬ 255 < cs.getD j 0
      rw [e]; exact h _ (List.getElem_mem _)⟩⟩
  · rw [n32 (by omega)] at hs
    obtain ⟨j, hj, rfl⟩ := List.getElem_of_mem hc
    exact Or.inr ⟨rfl, hs, fun j hj => ⟨by rw [hv _ (by omega), wide_lo _ _ _ hj], by rw [hv _ (by omega), wide_hi _ _ _ hj]⟩, j, hj, by
      have e : cs.getD j 0 = cs[j] := by simp [List.getD_eq_getElem?_getD, hj]
      show 255 < cs.getD j 0
      rw [e]; exact hw⟩
/-- an object of exactly java/lang/String, its two fields found: as the laws ask it -/
theorem strObj {Z U : State} {a0 : Array Value} {kI : Nat} (wi : (Jvm.Cond.instantiable ST kI).before a0 Z = true) (al : Z.vm.Alike U.vm) {x : Addr} {v0 c0 : Value} (E : RoadKit.Exa Z U.heap x ST) (V : RoadKit.Fld Z U.heap x ST "value" "[B" v0) (C : RoadKit.Fld Z U.heap x ST "coder" "B" c0) :
    ∃ (D : Cell) (fV fC : Field), Blank ST x D U ∧ Found ST "value" "[B" fV U ∧ Found ST "coder" "B" fC U ∧ D.slots[fV.slot]? = some v0 ∧ D.slots[fC.slot]? = some c0 ∧ RoadKit.slotOf Z ST "value" "[B" = fV.slot ∧ RoadKit.slotOf Z ST "coder" "B" = fC.slot := by
  obtain ⟨D, cfV, kV, iV, fV, hD, gV, stV, knV, obV, asV, slV⟩ := V
  obtain ⟨D', cfC, kC, iC, fC, hD', gC, stC, -, -, asC, slC⟩ := C
  cases hD.symm.trans hD'
  obtain ⟨D2, kD, e1, e2, e3, e4, e5⟩ := E
  cases hD.symm.trans e1
  obtain ⟨c2, k2, i1, i2, i3, -⟩ := Cond.instantiable_spec wi
  cases e2.symm.trans i1
  cases e3.symm.trans i2
  obtain ⟨kU, u1, u2⟩ := al.2.2 _ _ e3
  exact ⟨D, fV, fC, ⟨hD, ⟨knV, fun q hq => by rw [hq] at obV; cases obV⟩, by rw [al.findClass]; exact e2, kU, u1, by rw [u2]; exact i3, by rw [u2]; exact e5 i3⟩, ⟨SBG.found_only al ⟨cfV, kV, iV, gV⟩, stV⟩, ⟨SBG.found_only al ⟨cfC, kC, iC, gC⟩, stC⟩, slV, slC, by simp [RoadKit.slotOf, gV], by simp [RoadKit.slotOf, gC]⟩
theorem sta_is {Z U : State} (al : Z.vm.Alike U.vm) {C n d : String} {v : Value} (S : RoadKit.Sta Z U.heap C n d v) : StaticIs U C n d v := by
  obtain ⟨cfS, iS, kS, fS, st, cS, t1, t2, t3, t4, t5, t6, t7⟩ := S
  exact StaticIs.there (s := { Z with heap := U.heap }) ⟨cfS, iS, kS, fS, st, cS, t1, t2, t3, t4, t5, (fun q => by rw [q] at t6; cases t6), t7⟩ al rfl
end StrChars.Road
namespace StrChars
open Jvm Sem ClassFile Op Lib Jvm.Stand Jvm.Free.XT Jvm.Free.ALB Jvm.Free.JM Jvm.Free
open Jvm.Lib.Cold (StaticIs)
/-- what place i of a byte[]'s cell holds -/
def yv (A : Cell) (i : Nat) : Int32 := match A.slots[i]? with | some (.int x) => x | _ => 0
theorem yv_get {a : Addr} {A : Cell} {U : State} (h : XT.Arr .byte a A U) (ht : Typed .byte A) {i : Nat} (hi : i < A.slots.size) : A.slots[i]? = some (.int (yv A i)) := by
  have e := Array.getElem?_eq_getElem hi
  have f := ht i _ e
  unfold yv; rw [e]
  generalize A.slots[i] = v at f
  cases v <;> simp [fits] at f ⊢
/-- the two arrays are equal, place for place -/
def EqC (A B : Cell) : Prop := A.slots.size = B.slots.size ∧ ∀ i, i < A.slots.size → yv A i = yv B i
/-- a boolean that says whether p -/
def Says01 (q : Prop) (r : Option Value) (s u : State) : Prop := ∃ v : Int32, r = some (.int v) ∧ u.heap = s.heap ∧ ((v = 1 ∧ q) ∨ (v = 0 ∧ ¬ q))
theorem Says01.mv {q : Prop} : ∀ r (U U' V V' : State), U'.heap = U.heap → V.vm.Alike V'.vm → V'.heap = V.heap → Says01 q r U V → Says01 q r U' V' :=
  fun r U U' V V' h1 _ h2 ⟨v, a, b, c⟩ => ⟨v, a, by rw [h1, h2]; exact b, c⟩
namespace LEq
def yN : MethodName := ⟨"java/lang/StringLatin1", "equals", "([B[B)Z"⟩
abbrev yB : ByteArray := jdk_43_method_13_code
theorem d0 : decode yB 0 = .ok (.aload_n 0, 1) := by decide +kernel
theorem d1 : decode yB 1 = .ok (.arraylength, 1) := by decide +kernel
theorem d2 : decode yB 2 = .ok (.aload_n 1, 1) := by decide +kernel
theorem d3 : decode yB 3 = .ok (.arraylength, 1) := by decide +kernel
theorem d4 : decode yB 4 = .ok (.if_icmp (.ne) 30, 3) := by decide +kernel
theorem d7 : decode yB 7 = .ok (.iconst 0, 1) := by decide +kernel
theorem d8 : decode yB 8 = .ok (.istore_n 2, 1) := by decide +kernel
theorem d9 : decode yB 9 = .ok (.iload_n 2, 1) := by decide +kernel
theorem d10 : decode yB 10 = .ok (.aload_n 0, 1) := by decide +kernel
theorem d11 : decode yB 11 = .ok (.arraylength, 1) := by decide +kernel
theorem d12 : decode yB 12 = .ok (.if_icmp (.ge) 20, 3) := by decide +kernel
theorem d15 : decode yB 15 = .ok (.aload_n 0, 1) := by decide +kernel
theorem d16 : decode yB 16 = .ok (.iload_n 2, 1) := by decide +kernel
theorem d17 : decode yB 17 = .ok (.baload, 1) := by decide +kernel
theorem d18 : decode yB 18 = .ok (.aload_n 1, 1) := by decide +kernel
theorem d19 : decode yB 19 = .ok (.iload_n 2, 1) := by decide +kernel
theorem d20 : decode yB 20 = .ok (.baload, 1) := by decide +kernel
theorem d21 : decode yB 21 = .ok (.if_icmp (.eq) 5, 3) := by decide +kernel
theorem d24 : decode yB 24 = .ok (.iconst 0, 1) := by decide +kernel
theorem d25 : decode yB 25 = .ok (.ireturn, 1) := by decide +kernel
theorem d26 : decode yB 26 = .ok (.iinc 2 1, 3) := by decide +kernel
theorem d29 : decode yB 29 = .ok (.goto (-20), 3) := by decide +kernel
theorem d32 : decode yB 32 = .ok (.iconst 1, 1) := by decide +kernel
theorem d33 : decode yB 33 = .ok (.ireturn, 1) := by decide +kernel
theorem d34 : decode yB 34 = .ok (.iconst 0, 1) := by decide +kernel
theorem d35 : decode yB 35 = .ok (.ireturn, 1) := by decide +kernel
def site : List Cond := []
def tab : Cond := tabOf yN yB 3 (some .boolean) site
def P (a : Addr) (A : Cell) (b : Addr) (B : Cell) (args : Array Value) (s : State) : Prop := args = #[.ref a, .ref b] ∧ XT.Arr .byte a A s ∧ Typed .byte A ∧ XT.Arr .byte b B s ∧ Typed .byte B
/-- whether two byte[] are equal, place for place -/
theorem law (l : Launch) (a : Addr) (A : Cell) (b : Addr) (B : Cell) : Law l yN 2 2 0 0 yB 3 (some .boolean) site (P a A b B) (Says01 (EqC A B)) [] 0 0 := by
  refine Law.of_walk (plainFor_of_name (by decide +kernel)) (by decide +kernel) (by decide +kernel) (by decide) (fun _ _ h => by rw [h.1]; rfl) (fun _ U U' hal hh h => ⟨h.1, h.2.1.mv hal hh, h.2.2.1, h.2.2.2.1.mv hal hh, h.2.2.2.2⟩) (fun r U U' V V' h1 hal h2 h => Says01.mv r U U' V V' h1 hal h2 h) ?_
  intro p e s m args below meth c s₁ X0 hexec hbytes hml hret hlk hnm hown hh0 W hP
  obtain ⟨rfl, hA, tA, hB, tB⟩ := hP
  have a31 := hA.2.2.2
  have b31 := hB.2.2.2
  have hA0 := hA.mv X0.warmed.alike hh0
  have hB0 := hB.mv X0.warmed.alike hh0
  have c1 : Steps p.tables e below (s₁.setTop (entryFrame m #[.ref a, .ref b] 3)) (s₁.setTop (mkF m 0 #[.val (.ref a), .val (.ref b), .unset] [])) := entry rfl
  have c2 : Steps p.tables e below (s₁.setTop (entryFrame m #[.ref a, .ref b] 3)) (s₁.setTop (mkF m 4 #[.val (.ref a), .val (.ref b), .unset] [.int (Int32.ofNat B.slots.size), .int (Int32.ofNat A.slots.size)])) := c1.trans (by
    refine XS.aloadN X0.here hexec rfl (hb hbytes d0) rfl rfl ?_
    refine X0.alen hexec hA0 rfl rfl (hb hbytes d1) ?_
    refine XS.aloadN X0.here hexec rfl (hb hbytes d2) rfl rfl ?_
    refine X0.alen hexec hB0 rfl rfl (hb hbytes d3) ?_
    exact Steps.refl _)
  by_cases hs : A.slots.size = B.slots.size
  · have c3 : Steps p.tables e below (s₁.setTop (entryFrame m #[.ref a, .ref b] 3)) (s₁.setTop (mkF m 9 #[.val (.ref a), .val (.ref b), .val (.int 0)] [])) := c2.trans (by
      refine XS.icmpNo X0.here hexec rfl (hb hbytes d4) rfl (ii_ne_f (by rw [hs])) ?_
      refine iconstV X0.here hexec rfl 0 (hb hbytes d7) (by decide) ?_
      refine XS.istoreN X0.here hexec rfl (hb hbytes d8) rfl rfl ?_
      exact Steps.refl _)
    have loop : ∀ (r i : Nat), i + r = A.slots.size → (∀ j, j < i → yv A j = yv B j) → Steps p.tables e below (s₁.setTop (entryFrame m #[.ref a, .ref b] 3)) (s₁.setTop (mkF m 9 #[.val (.ref a), .val (.ref b), .val (.int (Int32.ofNat i))] [])) → ∃ (pc : Nat) (Ls : Array Slot) (v : Int32), (pc = 25 ∨ pc = 33) ∧ ((v = 1 ∧ EqC A B) ∨ (v = 0 ∧ ¬ EqC A B)) ∧ Steps p.tables e below (s₁.setTop (entryFrame m #[.ref a, .ref b] 3)) (s₁.setTop (mkF m pc Ls [.int v])) := by
      intro r
      induction r with
      | zero =>
        intro i hi he cl
        exact ⟨33, _, 1, Or.inr rfl, Or.inl ⟨rfl, hs, fun j hj => he j (by omega)⟩, cl.trans (by
          refine XS.iloadN X0.here hexec rfl (hb hbytes d9) rfl ?_
          refine XS.aloadN X0.here hexec rfl (hb hbytes d10) rfl rfl ?_
          refine X0.alen hexec hA0 rfl rfl (hb hbytes d11) ?_
          refine XS.icmpYes X0.here hexec rfl (pc0 := 12) rfl (hb hbytes d12) rfl (ii_ge_t (nlt32 (by omega) (by omega))) (by decide) rfl ?_
          refine iconstV X0.here hexec rfl 1 (hb hbytes d32) (by decide) ?_
          exact Steps.refl _)⟩
      | succ r ih =>
        intro i hi he cl
        have c4 : Steps p.tables e below (s₁.setTop (entryFrame m #[.ref a, .ref b] 3)) (s₁.setTop (mkF m 21 #[.val (.ref a), .val (.ref b), .val (.int (Int32.ofNat i))] [.int (yv B i), .int (yv A i)])) := cl.trans (by
          refine XS.iloadN X0.here hexec rfl (hb hbytes d9) rfl ?_
          refine XS.aloadN X0.here hexec rfl (hb hbytes d10) rfl rfl ?_
          refine X0.alen hexec hA0 rfl rfl (hb hbytes d11) ?_
          refine XS.icmpNo X0.here hexec rfl (hb hbytes d12) rfl (ii_ge_f (lt32 (by omega) (by omega))) ?_
          refine XS.aloadN X0.here hexec rfl (hb hbytes d15) rfl rfl ?_
          refine XS.iloadN X0.here hexec rfl (hb hbytes d16) rfl ?_
          refine X0.aget hexec hA0 rfl (yv_get hA tA (i := i) (by omega)) rfl rfl (hb hbytes d17) ?_
          refine XS.aloadN X0.here hexec rfl (hb hbytes d18) rfl rfl ?_
          refine XS.iloadN X0.here hexec rfl (hb hbytes d19) rfl ?_
          refine X0.aget hexec hB0 rfl (yv_get hB tB (i := i) (by omega)) rfl rfl (hb hbytes d20) ?_
          exact Steps.refl _)
        by_cases hv : yv A i = yv B i
        · have c5 : Steps p.tables e below (s₁.setTop (entryFrame m #[.ref a, .ref b] 3)) (s₁.setTop (mkF m 9 #[.val (.ref a), .val (.ref b), .val (.int (Int32.ofNat i + 1))] [])) := c4.trans (by
            refine XS.icmpYes X0.here hexec rfl (pc0 := 21) rfl (hb hbytes d21) rfl (ii_eq_t hv) (by decide) rfl ?_
            refine iincV X0.here hexec rfl 1 (hb hbytes d26) (by decide) rfl rfl ?_
            refine XS.goto X0.here hexec rfl (pc0 := 29) rfl (hb hbytes d29) (by decide) rfl ?_
            exact Steps.refl _)
          rw [succ32] at c5
          exact ih (i + 1) (by omega) (fun j hj => by
            by_cases e : j = i
            · rw [e]; exact hv
            · exact he j (by omega)) c5
        · exact ⟨25, _, 0, Or.inl rfl, Or.inr ⟨rfl, fun q => hv (q.2 i (by omega))⟩, c4.trans (by
            refine XS.icmpNo X0.here hexec rfl (hb hbytes d21) rfl (ii_eq_f hv) ?_
            refine iconstV X0.here hexec rfl 0 (hb hbytes d24) (by decide) ?_
            exact Steps.refl _)⟩
    obtain ⟨pc, Ls, v, hpc, hv, cz⟩ := loop A.slots.size 0 (by omega) (fun j hj => absurd hj (Nat.not_lt_zero j)) c3
    have nv : narrow .boolean (.int v) = .int v := by rcases hv with ⟨rfl, -⟩ | ⟨rfl, -⟩ <;> rfl
    rcases hpc with rfl | rfl
    · exact ⟨s₁, some (.int v), _, _, _, X0, rfl, rfl, rfl, (fun h => by cases h), ⟨v, rfl, hh0, hv⟩, fun fs hl => cz.trans (X0.ireturnOut hexec hret nv (Or.inr (Or.inl rfl)) (hb hbytes d25) hl)⟩
    · exact ⟨s₁, some (.int v), _, _, _, X0, rfl, rfl, rfl, (fun h => by cases h), ⟨v, rfl, hh0, hv⟩, fun fs hl => cz.trans (X0.ireturnOut hexec hret nv (Or.inr (Or.inl rfl)) (hb hbytes d33) hl)⟩
  · have c3 : Steps p.tables e below (s₁.setTop (entryFrame m #[.ref a, .ref b] 3)) (s₁.setTop (mkF m 35 #[.val (.ref a), .val (.ref b), .unset] [.int 0])) := c2.trans (by
      refine XS.icmpYes X0.here hexec rfl (pc0 := 4) rfl (hb hbytes d4) rfl (ii_ne_t (ne32 a31 b31 hs)) (by decide) rfl ?_
      refine iconstV X0.here hexec rfl 0 (hb hbytes d34) (by decide) ?_
      exact Steps.refl _)
    exact ⟨s₁, some (.int 0), _, _, _, X0, rfl, rfl, rfl, (fun h => by cases h), ⟨0, rfl, hh0, Or.inr ⟨rfl, fun q => hs q.1⟩⟩, fun fs hl => c3.trans (X0.ireturnOut hexec hret rfl (Or.inr (Or.inl rfl)) (hb hbytes d35) hl)⟩
end LEq
theorem Cod.ty {cd : Int32} {n : Nat} {f : Nat → Int32} {V : Cell} (h : Cod cd n f V) : Typed .byte V := fun i v hv => by
  have hi : i < V.slots.size := (Array.getElem?_eq_some_iff.mp hv).1
  rcases h with ⟨-, k1, k2⟩ | ⟨-, k1, k2, -⟩
  · rw [(k2 i (by omega)).1] at hv; cases hv; exact fits_lo8 _
  · rcases Nat.mod_two_eq_zero_or_one i with e | e
    · obtain ⟨j, rfl⟩ : ∃ j, i = 2 * j := ⟨i / 2, by omega⟩
      rw [(k2 j (by omega)).1] at hv; cases hv; exact fits_lo8 _
    · obtain ⟨j, rfl⟩ : ∃ j, i = 2 * j + 1 := ⟨i / 2, by omega⟩
      rw [(k2 j (by omega)).2] at hv; cases hv; exact fits_lo8 _
/-- the same text -/
def SameT (n : Nat) (f : Nat → Int32) (k : Nat) (g : Nat → Int32) : Prop := n = k ∧ ∀ j, j < n → f j = g j
theorem lo8_inj {x y : Int32} (h0 : ¬ x < 0) (h1 : ¬ 255 < x) (k0 : ¬ y < 0) (k1 : ¬ 255 < y) (h : lo8 x = lo8 y) : x = y := by
  rw [← lo8_mask h0 h1, ← lo8_mask k0 k1, h]
/-- arrays coded by one coder are equal just where the texts are -/
theorem Cod.eqv {cd : Int32} {n k : Nat} {f g : Nat → Int32} {V V' : Cell} (h : Cod cd n f V) (h' : Cod cd k g V') (hf : ∀ j, j < n → ¬ f j < 0 ∧ ¬ 65535 < f j) (hg : ∀ j, j < k → ¬ g j < 0 ∧ ¬ 65535 < g j) : EqC V V' ↔ SameT n f k g := by
  have yvv : ∀ {W : Cell} {i : Nat} {x : Int32}, W.slots[i]? = some (.int x) → yv W i = x := fun q => by unfold yv; rw [q]
  rcases h with ⟨rfl, k1, k2⟩ | ⟨rfl, k1, k2, -⟩
  · rcases h' with ⟨-, m1, m2⟩ | ⟨e, -⟩
    · constructor
      · rintro ⟨e1, e2⟩
        refine ⟨by omega, fun j hj => ?_⟩
        have q := e2 j (by omega)
        rw [yvv (k2 j hj).1, yvv (m2 j (by omega)).1] at q
        exact lo8_inj (hf j hj).1 (k2 j hj).2 (hg j (by omega)).1 (m2 j (by omega)).2 q
      · rintro ⟨rfl, e2⟩
        refine ⟨by omega, fun j hj => ?_⟩
        rw [yvv (k2 j (by omega)).1, yvv (m2 j (by omega)).1, e2 j (by omega)]
    · exact absurd e (by decide)
  · rcases h' with ⟨e, -⟩ | ⟨-, m1, m2, -⟩
    · exact absurd e (by decide)
    · constructor
      · rintro ⟨e1, e2⟩
        refine ⟨by omega, fun j hj => ?_⟩
        have q1 := e2 (2 * j) (by omega)
        have q2 := e2 (2 * j + 1) (by omega)
        rw [yvv (k2 j hj).1, yvv (m2 j (by omega)).1] at q1
        rw [yvv (k2 j hj).2, yvv (m2 j (by omega)).2] at q2
        rw [← pair_says (hf j hj).1 (hf j hj).2, ← pair_says (hg j (by omega)).1 (hg j (by omega)).2, q1, q2]
      · rintro ⟨rfl, e2⟩
        refine ⟨by omega, fun i hi => ?_⟩
        rcases Nat.mod_two_eq_zero_or_one i with e | e
        · obtain ⟨j, rfl⟩ : ∃ j, i = 2 * j := ⟨i / 2, by omega⟩
          rw [yvv (k2 j (by omega)).1, yvv (m2 j (by omega)).1, e2 j (by omega)]
        · obtain ⟨j, rfl⟩ : ∃ j, i = 2 * j + 1 := ⟨i / 2, by omega⟩
          rw [yvv (k2 j (by omega)).2, yvv (m2 j (by omega)).2, e2 j (by omega)]
/-- two codings differ: so do the texts -/
theorem Cod.dif {cd cd' : Int32} {n k : Nat} {f g : Nat → Int32} {V V' : Cell} (h : Cod cd n f V) (h' : Cod cd' k g V') (hne : ¬ cd = cd') : ¬ SameT n f k g := by
  rintro ⟨rfl, e⟩
  rcases h with ⟨rfl, -, k2⟩ | ⟨rfl, -, -, j, hj, hw⟩
  · rcases h' with ⟨rfl, -⟩ | ⟨-, -, -, j, hj, hw⟩
    · exact hne rfl
    · exact (k2 j hj).2 (by rw [e j hj]; exact hw)
  · rcases h' with ⟨-, -, m2⟩ | ⟨rfl, -⟩
    · exact (m2 j hj).2 (by rw [← e j hj]; exact hw)
    · exact hne rfl
/-- an object of exactly C is an instance of C -/
theorem cinst {p : Program} {l : Launch} {e : Env} {R : Room} {s : State} {m : MethodId} {args : Array Value} {below : List Frame} {meth : Method} {c : Code} {T : State} {locs : List Loc} {cells slots : Nat} (X : Stand p l e R s m args below meth c T locs cells slots) (hexec : p.tables.exec = Jvm.exec) {own C : String} {index : Nat} (hown : s.vm.findClass own = some m.cls) (hlink : (Cond.classLink own index C).before args s = true) {a : Addr} (hE : Exact C a T)
    {g : JFrame} (hg : g.method = m) {rest : List Value} (hstack : g.stack = .ref a :: rest) (hdg : decode c.code g.pc = .ok (.instanceof index, 3)) :
    ∃ T', Stand p l e R s m args below meth c T' locs cells slots ∧ T'.heap = T.heap ∧ ∀ target, Steps p.tables e below (T'.setTop { g with pc := g.pc + 3, stack := .int 1 :: rest }) target → Steps p.tables e below (T.setTop g) target := by
  obtain ⟨cB, h1, D, h2, h3, h4⟩ := hE
  have h1' : s.vm.findClass C = some cB := by rw [← X.warmed.alike.findClass]; exact h1
  obtain ⟨vm', X', st⟩ := X.instanceofYes hexec hown hlink h2 h4 h1' (by rw [h3]; exact Jvm.Free.SB.assignable_self _ _) hg hstack hdg
  exact ⟨_, X', rfl, st⟩
theorem cself {p : Program} {l : Launch} {e : Env} {R : Room} {s : State} {m : MethodId} {args : Array Value} {below : List Frame} {meth : Method} {c : Code} {T : State} {locs : List Loc} {cells slots : Nat} (X : Stand p l e R s m args below meth c T locs cells slots) (hexec : p.tables.exec = Jvm.exec) {own C : String} {index : Nat} (hown : s.vm.findClass own = some m.cls) (hlink : (Cond.classLink own index C).before args s = true) {a : Addr} (hE : Exact C a T)
    {g : JFrame} (hg : g.method = m) {rest : List Value} (hstack : g.stack = .ref a :: rest) (hdg : decode c.code g.pc = .ok (.checkcast index, 3)) :
    ∃ T', Stand p l e R s m args below meth c T' locs cells slots ∧ T'.heap = T.heap ∧ ∀ target, Steps p.tables e below (T'.setTop { g with pc := g.pc + 3, stack := .ref a :: rest }) target → Steps p.tables e below (T.setTop g) target := by
  obtain ⟨cB, h1, D, h2, h3, h4⟩ := hE
  have h1' : s.vm.findClass C = some cB := by rw [← X.warmed.alike.findClass]; exact h1
  obtain ⟨vm', X', st⟩ := X.checkcastYes hexec hown hlink h2 h4 h1' (by rw [h3]; exact Jvm.Free.SB.assignable_self _ _) hg hstack hdg
  exact ⟨_, X', rfl, fun t h => st t (by rw [← hstack] at h; exact h)⟩
namespace SEq
def yN : MethodName := ⟨"java/lang/String", "equals", "(Ljava/lang/Object;)Z"⟩
abbrev yB : ByteArray := jdk_42_method_66_code
theorem d0 : decode yB 0 = .ok (.aload_n 0, 1) := by decide +kernel
theorem d1 : decode yB 1 = .ok (.aload_n 1, 1) := by decide +kernel
theorem d2 : decode yB 2 = .ok (.if_acmp (.ne) 5, 3) := by decide +kernel
theorem d5 : decode yB 5 = .ok (.iconst 1, 1) := by decide +kernel
theorem d6 : decode yB 6 = .ok (.ireturn, 1) := by decide +kernel
theorem d7 : decode yB 7 = .ok (.aload_n 1, 1) := by decide +kernel
theorem d8 : decode yB 8 = .ok (.instanceof 10, 3) := by decide +kernel
theorem d11 : decode yB 11 = .ok (.ifCond (.eq) 43, 3) := by decide +kernel
theorem d14 : decode yB 14 = .ok (.aload_n 1, 1) := by decide +kernel
theorem d15 : decode yB 15 = .ok (.checkcast 10, 3) := by decide +kernel
theorem d18 : decode yB 18 = .ok (.astore_n 2, 1) := by decide +kernel
theorem d19 : decode yB 19 = .ok (.getstatic 38, 3) := by decide +kernel
theorem d22 : decode yB 22 = .ok (.ifCond (.eq) 14, 3) := by decide +kernel
theorem d25 : decode yB 25 = .ok (.aload_n 0, 1) := by decide +kernel
theorem d26 : decode yB 26 = .ok (.getfield 15, 3) := by decide +kernel
theorem d29 : decode yB 29 = .ok (.aload_n 2, 1) := by decide +kernel
theorem d30 : decode yB 30 = .ok (.getfield 15, 3) := by decide +kernel
theorem d33 : decode yB 33 = .ok (.if_icmp (.ne) 21, 3) := by decide +kernel
theorem d36 : decode yB 36 = .ok (.aload_n 0, 1) := by decide +kernel
theorem d37 : decode yB 37 = .ok (.getfield 9, 3) := by decide +kernel
theorem d40 : decode yB 40 = .ok (.aload_n 2, 1) := by decide +kernel
theorem d41 : decode yB 41 = .ok (.getfield 9, 3) := by decide +kernel
theorem d44 : decode yB 44 = .ok (.invokestatic 541, 3) := by decide +kernel
theorem d47 : decode yB 47 = .ok (.ifCond (.eq) 7, 3) := by decide +kernel
theorem d50 : decode yB 50 = .ok (.iconst 1, 1) := by decide +kernel
theorem d51 : decode yB 51 = .ok (.goto 4, 3) := by decide +kernel
theorem d54 : decode yB 54 = .ok (.iconst 0, 1) := by decide +kernel
theorem d55 : decode yB 55 = .ok (.ireturn, 1) := by decide +kernel
def site : List Cond := [.classLink "java/lang/String" 10 "java/lang/String", .fieldLink "java/lang/String" 38 "java/lang/String" "COMPACT_STRINGS" "Z", .fieldLink "java/lang/String" 15 "java/lang/String" "coder" "B", .fieldLink "java/lang/String" 9 "java/lang/String" "value" "[B", LEq.tab] ++ staticW "java/lang/String" 541 LEq.yN
def tab : Cond := tabOf yN yB 3 (some .boolean) site
def P (x t : Addr) (V : Cell) (cd : Int32) (n : Nat) (f : Nat → Int32) (y t' : Addr) (V' : Cell) (cd' : Int32) (k : Nat) (g : Nat → Int32) (z : Int32) (args : Array Value) (s : State) : Prop := args = #[.ref x, .ref y] ∧ Txt x t V cd n f s ∧ Txt y t' V' cd' k g s ∧ StaticIs s "java/lang/String" "COMPACT_STRINGS" "Z" (.int z) ∧ ¬ z = 0
/-- equals(Object) of two Strings: whether the texts are the same -/
theorem law (l : Launch) (x t : Addr) (V : Cell) (cd : Int32) (n : Nat) (f : Nat → Int32) (y t' : Addr) (V' : Cell) (cd' : Int32) (k : Nat) (g : Nat → Int32) (z : Int32) : Law l yN 2 1 1 14 yB 3 (some .boolean) site (P x t V cd n f y t' V' cd' k g z) (Says01 (SameT n f k g)) [] 0 0 := by
  refine Law.of_walk (plainFor_of_name (by decide +kernel)) (by decide +kernel) (by decide +kernel) (by decide) (fun _ _ h => by rw [h.1]; rfl) (fun _ U U' hal hh h => ⟨h.1, h.2.1.mv hal hh, h.2.2.1.mv hal hh, h.2.2.2.1.there hal hh, h.2.2.2.2⟩) (fun r U U' V V' h1 hal h2 h => Says01.mv r U U' V V' h1 hal h2 h) ?_
  intro p e s m args below meth c s₁ X0 hexec hbytes hml hret hlk hnm hown hh0 W hP
  obtain ⟨rfl, hx, hy, s1, hz⟩ := hP
  have c1 : Steps p.tables e below (s₁.setTop (entryFrame m #[.ref x, .ref y] 3)) (s₁.setTop (mkF m 2 #[.val (.ref x), .val (.ref y), .unset] [.ref y, .ref x])) := Steps.trans (entry rfl) (by
    show Steps p.tables e below (s₁.setTop (mkF m 0 #[.val (.ref x), .val (.ref y), .unset] [])) _
    refine XS.aloadN X0.here hexec rfl (hb hbytes d0) rfl rfl ?_
    refine XS.aloadN X0.here hexec rfl (hb hbytes d1) rfl rfl ?_
    exact Steps.refl _)
  by_cases hxy : x = y
  · have c2 : Steps p.tables e below (s₁.setTop (entryFrame m #[.ref x, .ref y] 3)) (s₁.setTop (mkF m 6 #[.val (.ref x), .val (.ref y), .unset] [.int 1])) := c1.trans (by
      refine acmpNo X0.here hexec rfl (hb hbytes d2) rfl rfl rfl (by simp [acmp, hxy]) ?_
      refine iconstV X0.here hexec rfl 1 (hb hbytes d5) (by decide) ?_
      exact Steps.refl _)
    subst hxy
    have ec : cd = cd' := by
      obtain ⟨D, fd, a1, a2, a3⟩ := hx.2.2.1
      obtain ⟨D', fd', b1, b2, b3⟩ := hy.2.2.1
      cases a1.symm.trans b1
      obtain ⟨q1, q2, q3, q4⟩ := a2.1
      obtain ⟨r1, r2, r3, r4⟩ := b2.1
      cases q4.symm.trans r4
      cases a3.symm.trans b3; rfl
    have et : t = t' := by
      obtain ⟨D, fd, a1, a2, a3⟩ := hx.2.1
      obtain ⟨D', fd', b1, b2, b3⟩ := hy.2.1
      cases a1.symm.trans b1
      obtain ⟨q1, q2, q3, q4⟩ := a2.1
      obtain ⟨r1, r2, r3, r4⟩ := b2.1
      cases q4.symm.trans r4
      cases a3.symm.trans b3; rfl
    subst ec et
    have ev : V = V' := by cases hx.2.2.2.1.1.symm.trans hy.2.2.2.1.1; rfl
    subst ev
    have hs : SameT n f k g := (Cod.eqv hx.2.2.2.2.1 hy.2.2.2.2.1 hx.2.2.2.2.2 hy.2.2.2.2.2).mp ⟨rfl, fun _ _ => rfl⟩
    exact ⟨s₁, some (.int 1), _, _, _, X0, rfl, rfl, rfl, (fun h => by cases h), ⟨1, rfl, hh0, Or.inl ⟨rfl, hs⟩⟩, fun fs hl => c2.trans (X0.ireturnOut hexec hret rfl (Or.inr (Or.inl rfl)) (hb hbytes d6) hl)⟩
  · have c2 : Steps p.tables e below (s₁.setTop (entryFrame m #[.ref x, .ref y] 3)) (s₁.setTop (mkF m 8 #[.val (.ref x), .val (.ref y), .unset] [.ref y])) := c1.trans (by
      refine acmpYes X0.here hexec rfl (pc0 := 2) rfl (hb hbytes d2) rfl rfl rfl (by simp [acmp, hxy]) (by decide) rfl ?_
      refine XS.aloadN X0.here hexec rfl (hb hbytes d7) rfl rfl ?_
      exact Steps.refl _)
    obtain ⟨T3, X3, q3, st3⟩ := cinst X0 hexec hown (wk W (.classLink "java/lang/String" 10 "java/lang/String")) (hy.mv X0.warmed.alike hh0).1 (g := (mkF m 8 #[.val (.ref x), .val (.ref y), .unset] [.ref y])) rfl (rest := []) rfl (hb hbytes d8)
    have hh3 := q3.trans hh0
    have c4 : Steps p.tables e below (s₁.setTop (entryFrame m #[.ref x, .ref y] 3)) (T3.setTop (mkF m 15 #[.val (.ref x), .val (.ref y), .unset] [.ref y])) := (c2.trans (st3 _ (Steps.refl _))).trans (by
      refine XS.ifNo X3.here hexec rfl (hb hbytes d11) rfl (i0_eq_f (by decide)) ?_
      refine XS.aloadN X3.here hexec rfl (hb hbytes d14) rfl rfl ?_
      exact Steps.refl _)
    obtain ⟨T5, X5, q5, st5⟩ := cself X3 hexec hown (wk W (.classLink "java/lang/String" 10 "java/lang/String")) (hy.mv X3.warmed.alike hh3).1 (g := (mkF m 15 #[.val (.ref x), .val (.ref y), .unset] [.ref y])) rfl (rest := []) rfl (hb hbytes d15)
    have hh5 := q5.trans hh3
    have c6 : Steps p.tables e below (s₁.setTop (entryFrame m #[.ref x, .ref y] 3)) (T5.setTop (mkF m 19 #[.val (.ref x), .val (.ref y), .val (.ref y)] [])) := (c4.trans (st5 _ (Steps.refl _))).trans (by
      refine XS.astoreN X5.here hexec rfl (hb hbytes d18) rfl rfl rfl ?_
      exact Steps.refl _)
    obtain ⟨T7, X7, q7, st7⟩ := X5.sget hexec hown (wk W (.fieldLink "java/lang/String" 38 "java/lang/String" "COMPACT_STRINGS" "Z")) s1 (fun _ _ h => by rw [hh5]; exact h) (g := (mkF m 19 #[.val (.ref x), .val (.ref y), .val (.ref y)] [])) rfl (hb hbytes d19)
    have hh7 := q7.trans hh5
    have c8 : Steps p.tables e below (s₁.setTop (entryFrame m #[.ref x, .ref y] 3)) (T7.setTop (mkF m 26 #[.val (.ref x), .val (.ref y), .val (.ref y)] [.ref x])) := (c6.trans (st7 _ (Steps.refl _))).trans (by
      refine XS.ifNo X7.here hexec rfl (hb hbytes d22) rfl (i0_eq_f hz) ?_
      refine XS.aloadN X7.here hexec rfl (hb hbytes d25) rfl rfl ?_
      exact Steps.refl _)
    obtain ⟨T9, X9, q9, st9⟩ := X7.hget hexec hown (wk W (.fieldLink "java/lang/String" 15 "java/lang/String" "coder" "B")) (hx.mv X7.warmed.alike hh7).2.2.1 (g := (mkF m 26 #[.val (.ref x), .val (.ref y), .val (.ref y)] [.ref x])) rfl (rest := []) rfl (hb hbytes d26)
    have hh9 := q9.trans hh7
    have c10 : Steps p.tables e below (s₁.setTop (entryFrame m #[.ref x, .ref y] 3)) (T9.setTop (mkF m 30 #[.val (.ref x), .val (.ref y), .val (.ref y)] [.ref y, .int cd])) := (c8.trans (st9 _ (Steps.refl _))).trans (by
      refine XS.aloadN X9.here hexec rfl (hb hbytes d29) rfl rfl ?_
      exact Steps.refl _)
    obtain ⟨T11, X11, q11, st11⟩ := X9.hget hexec hown (wk W (.fieldLink "java/lang/String" 15 "java/lang/String" "coder" "B")) (hy.mv X9.warmed.alike hh9).2.2.1 (g := (mkF m 30 #[.val (.ref x), .val (.ref y), .val (.ref y)] [.ref y, .int cd])) rfl (rest := [.int cd]) rfl (hb hbytes d30)
    have hh11 := q11.trans hh9
    have c12 : Steps p.tables e below (s₁.setTop (entryFrame m #[.ref x, .ref y] 3)) (T11.setTop (mkF m 33 #[.val (.ref x), .val (.ref y), .val (.ref y)] [.int cd', .int cd])) := c10.trans (st11 _ (Steps.refl _))
    by_cases hcd : cd = cd'
    · subst hcd
      have c13 : Steps p.tables e below (s₁.setTop (entryFrame m #[.ref x, .ref y] 3)) (T11.setTop (mkF m 37 #[.val (.ref x), .val (.ref y), .val (.ref y)] [.ref x])) := c12.trans (by
        refine XS.icmpNo X11.here hexec rfl (hb hbytes d33) rfl (ii_ne_f rfl) ?_
        refine XS.aloadN X11.here hexec rfl (hb hbytes d36) rfl rfl ?_
        exact Steps.refl _)
      obtain ⟨T14, X14, q14, st14⟩ := X11.hget hexec hown (wk W (.fieldLink "java/lang/String" 9 "java/lang/String" "value" "[B")) (hx.mv X11.warmed.alike hh11).2.1 (g := (mkF m 37 #[.val (.ref x), .val (.ref y), .val (.ref y)] [.ref x])) rfl (rest := []) rfl (hb hbytes d37)
      have hh14 := q14.trans hh11
      have c15 : Steps p.tables e below (s₁.setTop (entryFrame m #[.ref x, .ref y] 3)) (T14.setTop (mkF m 41 #[.val (.ref x), .val (.ref y), .val (.ref y)] [.ref y, .ref t])) := (c13.trans (st14 _ (Steps.refl _))).trans (by
        refine XS.aloadN X14.here hexec rfl (hb hbytes d40) rfl rfl ?_
        exact Steps.refl _)
      obtain ⟨T16, X16, q16, st16⟩ := X14.hget hexec hown (wk W (.fieldLink "java/lang/String" 9 "java/lang/String" "value" "[B")) (hy.mv X14.warmed.alike hh14).2.1 (g := (mkF m 41 #[.val (.ref x), .val (.ref y), .val (.ref y)] [.ref y, .ref t])) rfl (rest := [.ref t]) rfl (hb hbytes d41)
      have hh16 := q16.trans hh14
      have c17 : Steps p.tables e below (s₁.setTop (entryFrame m #[.ref x, .ref y] 3)) (T16.setTop (mkF m 44 #[.val (.ref x), .val (.ref y), .val (.ref y)] [.ref t', .ref t])) := c15.trans (st16 _ (Steps.refl _))
      obtain ⟨v18, T18, X18, E18, g18⟩ := X16.callS hexec (LEq.law l t V t' V') hown (wks W (staticW "java/lang/String" 541 LEq.yN)) (wk W LEq.tab) (W := 0) (Nat.le_of_ble_eq_true rfl) (Nat.le_of_ble_eq_true rfl) (Nat.le_refl _) (Nat.le_refl _) (g := (mkF m 44 #[.val (.ref x), .val (.ref y), .val (.ref y)] [.ref t', .ref t])) rfl (by rw [hml]; rfl) c17 (argsL := [.ref t, .ref t']) (rest := []) rfl rfl (by show 2 * 0 + 0 ≤ _; decide) (hb hbytes d44) (⟨rfl, hx.2.2.2.1.mv X16.warmed.alike hh16, hx.2.2.2.2.1.ty, hy.2.2.2.1.mv X16.warmed.alike hh16, hy.2.2.2.2.1.ty⟩)
      obtain ⟨v, rfl, q18, hv⟩ := E18
      have iff := Cod.eqv hx.2.2.2.2.1 hy.2.2.2.2.1 hx.2.2.2.2.2 hy.2.2.2.2.2
      rcases hv with ⟨rfl, he⟩ | ⟨rfl, he⟩
      · have c19 : Steps p.tables e below (s₁.setTop (entryFrame m #[.ref x, .ref y] 3)) (T18.setTop (mkF m 55 #[.val (.ref x), .val (.ref y), .val (.ref y)] [.int 1])) := Steps.trans g18 (by
          refine XS.ifNo X18.here hexec rfl (hb hbytes d47) rfl (i0_eq_f (by decide)) ?_
          refine iconstV X18.here hexec rfl 1 (hb hbytes d50) (by decide) ?_
          refine XS.goto X18.here hexec rfl (pc0 := 51) rfl (hb hbytes d51) (by decide) rfl ?_
          exact Steps.refl _)
        exact ⟨T18, some (.int 1), _, _, _, X18, rfl, rfl, rfl, (fun h => by cases h), ⟨1, rfl, q18.trans hh16, Or.inl ⟨rfl, iff.mp he⟩⟩, fun fs hl => c19.trans (X18.ireturnOut hexec hret rfl (Or.inr (Or.inl rfl)) (hb hbytes d55) hl)⟩
      · have c19 : Steps p.tables e below (s₁.setTop (entryFrame m #[.ref x, .ref y] 3)) (T18.setTop (mkF m 55 #[.val (.ref x), .val (.ref y), .val (.ref y)] [.int 0])) := Steps.trans g18 (by
          refine XS.ifYes X18.here hexec rfl (pc0 := 47) rfl (hb hbytes d47) rfl (i0_eq_t rfl) (by decide) rfl ?_
          refine iconstV X18.here hexec rfl 0 (hb hbytes d54) (by decide) ?_
          exact Steps.refl _)
        exact ⟨T18, some (.int 0), _, _, _, X18, rfl, rfl, rfl, (fun h => by cases h), ⟨0, rfl, q18.trans hh16, Or.inr ⟨rfl, fun q => he (iff.mpr q)⟩⟩, fun fs hl => c19.trans (X18.ireturnOut hexec hret rfl (Or.inr (Or.inl rfl)) (hb hbytes d55) hl)⟩
    · have c13 : Steps p.tables e below (s₁.setTop (entryFrame m #[.ref x, .ref y] 3)) (T11.setTop (mkF m 55 #[.val (.ref x), .val (.ref y), .val (.ref y)] [.int 0])) := c12.trans (by
        refine XS.icmpYes X11.here hexec rfl (pc0 := 33) rfl (hb hbytes d33) rfl (ii_ne_t hcd) (by decide) rfl ?_
        refine iconstV X11.here hexec rfl 0 (hb hbytes d54) (by decide) ?_
        exact Steps.refl _)
      exact ⟨T11, some (.int 0), _, _, _, X11, rfl, rfl, rfl, (fun h => by cases h), ⟨0, rfl, hh11, Or.inr ⟨rfl, Cod.dif hx.2.2.2.2.1 hy.2.2.2.2.1 hcd⟩⟩, fun fs hl => c13.trans (X11.ireturnOut hexec hret rfl (Or.inr (Or.inl rfl)) (hb hbytes d55) hl)⟩
theorem pays {l : Launch} {R : Room} {p : Program} {e : Env} {below : List Frame} {s : State} {sargs : Array Value} {len W : Nat} (x t : Addr) (V : Cell) (cd : Int32) (n : Nat) (f : Nat → Int32) (y t' : Addr) (V' : Cell) (cd' : Int32) (k : Nat) (g : Nat → Int32) (z : Int32) (htab : tab.before sargs s = true) (hfr : 2 ≤ R.frames) (hlo : W + 28 ≤ R.locals) :
    Back l R p e below s sargs yN len W (fun A₁ a₁ => A₁.cells + 0 ≤ R.cells ∧ A₁.slots + 0 ≤ R.slots ∧ P x t V cd n f y t' V' cd' k g z a₁ A₁.U) (fun A₁ _ v₁ B₁ => Says01 (SameT n f k g) v₁ A₁.U B₁.U ∧ B₁.locs = A₁.locs ++ [] ∧ B₁.cells = A₁.cells + 0 ∧ B₁.slots = A₁.slots + 0) :=
  (law l x t V cd n f y t' V' cd' k g z).pays htab hfr (by omega)
end SEq
end StrChars
namespace StrChars.Road
open Jvm Sem ClassFile Op Lib Jvm.Stand Jvm.Free Jvm.Free.XT
open Jvm.Lib.Cold (StaticIs)
/-- the words of String.equals(Object) -/
abbrev wordsEq : List Jvm.Cond := [.code SEq.yN SEq.yB 3 (some .boolean), .initialized ST, .classLink ST 10 ST, .fieldLink ST 38 ST "COMPACT_STRINGS" "Z", .fieldLink ST 15 ST "coder" "B", .fieldLink ST 9 ST "value" "[B", .methodLink ST 541 LEq.yN, .static LEq.yN, .code LEq.yN LEq.yB 3 (some .boolean), .initialized "java/lang/StringLatin1"]
theorem tabEq_of {a : Array Value} {s : State} (h : ∀ w ∈ wordsEq, w.before a s = true) : SEq.tab.before a s = true := by
  have hl : LEq.tab.before a s = true := unparts (wk h (.code LEq.yN LEq.yB 3 (some .boolean))) (wks h (.initialized LEq.yN.cls :: LEq.site))
  have q := consq hl h
  exact unparts (wk q (.code SEq.yN SEq.yB 3 (some .boolean))) (wks q (.initialized SEq.yN.cls :: SEq.site))
theorem movedEq {Z s : State} {a0 args : Array Value} (hZ : Z.Warmed39 s.vm) (hw : ∀ d ∈ wordsEq, d.before a0 Z = true) : ∀ d ∈ wordsEq, d.before args s = true := fun d hd => by
  have t : ∀ d ∈ wordsEq, (d.onTables && d.keepsFace) = true := by decide +kernel
  exact RoadKit.mv hZ (hw d hd) (t d hd)
/-- the road's facts of a String, as the laws ask it -/
theorem txt_of {Z U : State} {a0 : Array Value} {kI : Nat} (wi : (Jvm.Cond.instantiable ST kI).before a0 Z = true) (al : Z.vm.Alike U.vm) {x t : Addr} {kb : ClassId} {cs : List Int32} {cd N2 : Int32} {vs : List Value} (E : RoadKit.Exa Z U.heap x ST) (V : RoadKit.Fld Z U.heap x ST "value" "[B" (.ref t)) (C : RoadKit.Fld Z U.heap x ST "coder" "B" (.int cd)) (K : RoadKit.Arv Z U.heap t kb .byte N2 vs (.int 0)) (hc : CodA cs cd N2 vs) (hb : ∀ c ∈ cs, ¬ c < 0 ∧ ¬ (65535 : Int32) < c) (l2 : cs.length ≤ 4000) :
    ∃ A, Txt x t A cd cs.length (fun j => cs.getD j 0) U := by
  obtain ⟨A, K1, K2, K3, K4, K5, K6⟩ := K
  have hcod := hc.cod (by omega) K3 K5
  obtain ⟨D, fV, fC, hB, F1, F2, g1, g2, -, -⟩ := strObj wi al E V C
  exact ⟨A, ⟨_, hB.2.2.1, D, hB.1, rfl, by cases q : D.vm <;> first | rfl | exact absurd q (hB.2.1.2 _)⟩, Has.of hB F1 g1, Has.of hB F2 g2, ⟨K1.1, State.isArrayOf_alike al K1.2.1, K1.2.2, by rcases hcod with ⟨-, q, -⟩ | ⟨-, q, -⟩ <;> omega⟩, hcod, fun j hj => by
    have e : cs.getD j 0 = cs[j] := by simp [List.getD_eq_getElem?_getD, hj]
    show ¬ cs.getD j 0 < 0 ∧ ¬ 65535 < cs.getD j 0
    rw [e]; exact hb _ (List.getElem_mem _)⟩
theorem same_list (cs ds : List Int32) : SameT cs.length (fun j => cs.getD j 0) ds.length (fun j => ds.getD j 0) ↔ cs = ds := by
  constructor
  · rintro ⟨e, q⟩
    refine List.ext_getElem e fun j h1 h2 => ?_
    have := q j h1
    simpa [List.getD_eq_getElem?_getD, h1, h2] using this
  · rintro rfl
    exact ⟨rfl, fun _ _ => rfl⟩
/-- **equals(Object) OF TWO SUCH STRINGS**: 1 just where the chars are the same -/
theorem eqW {p : Program} {l : Launch} {e : Env} {R : Room} {s : State} {args : Array Value} {below : List Frame} {len W : Nat} {Z : State} {a0 : Array Value} {h : Heap} (hZ : Z.Warmed39 s.vm) (hw : ∀ d ∈ wordsEq, d.before a0 Z = true) {kI : Nat} (wi : (Jvm.Cond.instantiable ST kI).before a0 Z = true)
    {x t : Addr} {kb : ClassId} {cs : List Int32} {cd N2 : Int32} {vs : List Value} (E : RoadKit.Exa Z h x ST) (V : RoadKit.Fld Z h x ST "value" "[B" (.ref t)) (C : RoadKit.Fld Z h x ST "coder" "B" (.int cd)) (K : RoadKit.Arv Z h t kb .byte N2 vs (.int 0)) (hc : CodA cs cd N2 vs) (hb : ∀ c ∈ cs, ¬ c < 0 ∧ ¬ (65535 : Int32) < c) (l2 : cs.length ≤ 4000)
    {y t' : Addr} {kb' : ClassId} {ds : List Int32} {cd' N2' : Int32} {vs' : List Value} (E' : RoadKit.Exa Z h y ST) (V' : RoadKit.Fld Z h y ST "value" "[B" (.ref t')) (C' : RoadKit.Fld Z h y ST "coder" "B" (.int cd')) (K' : RoadKit.Arv Z h t' kb' .byte N2' vs' (.int 0)) (hc' : CodA ds cd' N2' vs') (hb' : ∀ c ∈ ds, ¬ c < 0 ∧ ¬ (65535 : Int32) < c) (l2' : ds.length ≤ 4000)
    {z : Int32} (S : RoadKit.Sta Z h ST "COMPACT_STRINGS" "Z" (.int z)) (hz : ¬ z = 0) (hfr : 2 ≤ R.frames) (hlo : W + 28 ≤ R.locals) :
    Back l R p e below s args (⟨"java/lang/String", "equals", "(Ljava/lang/Object;)Z"⟩ : MethodName) len W (fun P a => a = #[.ref x, .ref y] ∧ P.U.heap = h ∧ P.cells + 0 ≤ R.cells ∧ P.slots + 0 ≤ R.slots)
      (fun P _ v B => ∃ L, (((v = some (.int 1) ∧ cs = ds) ∨ (v = some (.int 0) ∧ ¬ cs = ds)) ∧ L = [] ∧ B.U.heap = h) ∧ B.locs = P.locs ++ L ∧ B.cells = P.cells + 0 ∧ B.slots = P.slots + 0) := by
  intro m meth c P g ig mk a X hg hsize hdg hW hn hp'
  obtain ⟨rfl, rfl, r1, r2⟩ := hp'
  have al : Z.vm.Alike P.U.vm := hZ.alike.trans X.warmed.alike
  obtain ⟨A, hx⟩ := txt_of wi al E V C K hc hb l2
  obtain ⟨A', hy⟩ := txt_of wi al E' V' C' K' hc' hb' l2'
  obtain ⟨v, B, X', ⟨⟨w, hv, hh, hq⟩, hl, hk, hs⟩, st⟩ := SEq.pays x t A cd cs.length (fun j => cs.getD j 0) y t' A' cd' ds.length (fun j => ds.getD j 0) z (tabEq_of (movedEq hZ hw)) hfr hlo m meth c P g ig mk _ X hg hsize hdg hW hn ⟨r1, r2, rfl, hx, hy, sta_is al S, hz⟩
  refine ⟨v, B, X', ⟨[], ⟨?_, rfl, hh⟩, hl, hk, hs⟩, st⟩
  rcases hq with ⟨rfl, q⟩ | ⟨rfl, q⟩
  · exact Or.inl ⟨hv, (same_list cs ds).mp q⟩
  · exact Or.inr ⟨hv, fun e => q ((same_list cs ds).mpr e)⟩
end StrChars.Road
namespace StrChars.Road
open Jvm Sem ClassFile Op Lib Jvm.Stand Jvm.Free Jvm.Free.XT
open Jvm.Lib.Cold (StaticIs)
/-- what backV says of its String, as the contracts of this text ask it: cs's low bytes, coder 0 -/
theorem codOf {cs : List Int32} {n : Nat} (hn : cs.length = n) (hb : ∀ c ∈ cs, ¬ 255 < c) : CodA cs 0 (Int32.ofNat n) ((cs.map lo8).map Value.int) := Or.inl ⟨rfl, by rw [hn], by simp [List.map_map, Function.comp_def], hb⟩
end StrChars.Road
end Jvm.Pilot.@@N@@

namespace Jvm.OwnGo
open Sem ClassFile Op Lib Jvm.Stand Jvm.Free Jvm.LawKit Jvm.RoadKit
section Own
variable {p : Program} {l : Launch} {e : Env} {R : Room} {s : State} {m : MethodId} {args : Array Value} {below : List Frame} {meth : Method} {c : Code} {T T' : State} {locs : List Loc} {cells slots : Nat} {P : Outcome → State → Prop} {g g' : JFrame} {Z : State} {h : Heap}
/-- from where the walk stands (the state T, the frame g) it ends well -/
def Go (p : Program) (e : Env) (below : List Frame) (P : Outcome → State → Prop) (T : State) (g : JFrame) : Prop :=
  ∃ s₂ o, Steps p.tables e below (T.setTop g) s₂ ∧ s₂.status = .running ∧ Ended s₂ below o ∧ P o s₂
/-- what a contract asks of the end -/
abbrev PQ (s : State) (C S : Nat) (Q : Option Value → Heap → List Loc → Prop) : Outcome → State → Prop := fun o U' => ∃ v L, o = .returned v ∧ Q v U'.heap L ∧ FrameEnd s o U' L C S
theorem goS {n : Nat} {Ls' : Array Slot} {st' : List Value} (k : ∀ t, Steps p.tables e below (T'.setTop (mkF m n Ls' st')) t → Steps p.tables e below (T.setTop g) t) (h : Go p e below P T' (mkF m n Ls' st')) : Go p e below P T g := by
  obtain ⟨s2, o, h1, h2⟩ := h; exact ⟨s2, o, k _ h1, h2⟩
theorem goT {n : Nat} {Ls' : Array Slot} {st' : List Value} (k : Steps p.tables e below (T.setTop g) (T'.setTop (mkF m n Ls' st'))) (h : Go p e below P T' (mkF m n Ls' st')) : Go p e below P T g := by
  obtain ⟨s2, o, h1, h2⟩ := h; exact ⟨s2, o, k.trans h1, h2⟩
theorem enter (q : entryFrame m args n = g) (h : Go p e below P T g) : ∃ s₂ o, Steps p.tables e below (T.setTop (entryFrame m args n)) s₂ ∧ s₂.status = .running ∧ Ended s₂ below o ∧ P o s₂ := by
  rw [q]; exact h
theorem goRet {Q : Option Value → Heap → List Loc → Prop} {C S : Nat} (X : Stand p l e R s m args below meth c T locs cells slots) (hx : p.tables.exec = Jvm.exec) (hlk : meth.locks = false) {pc : Nat} {Ls : Array Slot} {w : Value} {t : FieldType} {i : Instr} {rest : List Value} (hret : meth.sig.returnType = some t) (hn : narrow t w = w)
    (hi : (i = .ireturn ∧ (t = .int ∨ t = .boolean ∨ t = .byte ∨ t = .char ∨ t = .short) ∧ ∃ z, w = .int z) ∨ (i = .lreturn ∧ t = .long ∧ ∃ z, w = .long z) ∨ (i = .dreturn ∧ t = .double ∧ ∃ z, w = .double z) ∨ (i = .freturn ∧ t = .float ∧ ∃ z, w = .float z) ∨ (i = .areturn ∧ t.isReference = true ∧ w.isRef = true))
    (hd : decode c.code pc = .ok (i, 1)) (hC : cells ≤ C) (hS : slots ≤ S) (hQ : Q (some w) T.heap locs) : Go p e below (PQ s C S Q) T (mkF m pc Ls (w :: rest)) := by
  obtain ⟨fs, hr, hrun, hended, hW, hsame⟩ := X.leave (v := some w) (fun h => by rw [hret] at h; cases h) hlk
  exact ⟨_, _, retOut X hx hret hn hi hd hr, hrun, hended, _, _, rfl, hQ, ⟨_, rfl⟩, hW, hsame.mono hC hS⟩
theorem goRetI {Q : Option Value → Heap → List Loc → Prop} {C S : Nat} (X : Stand p l e R s m args below meth c T locs cells slots) (hx : p.tables.exec = Jvm.exec) (hlk : meth.locks = false) {pc : Nat} {Ls : Array Slot} {z : Int32} {rest : List Value} (hret : meth.sig.returnType = some .int) (hd : decode c.code pc = .ok (.ireturn, 1)) (hC : cells ≤ C) (hS : slots ≤ S) (hQ : Q (some (.int z)) T.heap locs) : Go p e below (PQ s C S Q) T (mkF m pc Ls (.int z :: rest)) :=
  goRet X hx hlk hret rfl (Or.inl ⟨rfl, Or.inl rfl, _, rfl⟩) hd hC hS hQ
theorem goRetZ {Q : Option Value → Heap → List Loc → Prop} {C S : Nat} (X : Stand p l e R s m args below meth c T locs cells slots) (hx : p.tables.exec = Jvm.exec) (hlk : meth.locks = false) {pc : Nat} {Ls : Array Slot} {z : Int32} {rest : List Value} (hret : meth.sig.returnType = some .boolean) (hz : z = 0 ∨ z = 1) (hd : decode c.code pc = .ok (.ireturn, 1)) (hC : cells ≤ C) (hS : slots ≤ S) (hQ : Q (some (.int z)) T.heap locs) : Go p e below (PQ s C S Q) T (mkF m pc Ls (.int z :: rest)) :=
  goRet X hx hlk hret (by rcases hz with rfl | rfl <;> rfl) (Or.inl ⟨rfl, Or.inr (Or.inl rfl), _, rfl⟩) hd hC hS hQ
theorem goRetJ {Q : Option Value → Heap → List Loc → Prop} {C S : Nat} (X : Stand p l e R s m args below meth c T locs cells slots) (hx : p.tables.exec = Jvm.exec) (hlk : meth.locks = false) {pc : Nat} {Ls : Array Slot} {z : Int64} {rest : List Value} (hret : meth.sig.returnType = some .long) (hd : decode c.code pc = .ok (.lreturn, 1)) (hC : cells ≤ C) (hS : slots ≤ S) (hQ : Q (some (.long z)) T.heap locs) : Go p e below (PQ s C S Q) T (mkF m pc Ls (.long z :: rest)) :=
  goRet X hx hlk hret rfl (Or.inr (Or.inl ⟨rfl, rfl, _, rfl⟩)) hd hC hS hQ
theorem goRetA {Q : Option Value → Heap → List Loc → Prop} {C S : Nat} (X : Stand p l e R s m args below meth c T locs cells slots) (hx : p.tables.exec = Jvm.exec) (hlk : meth.locks = false) {pc : Nat} {Ls : Array Slot} {w : Value} {t : FieldType} {rest : List Value} (hret : meth.sig.returnType = some t) (ht : t.isReference = true) (hw : w.isRef = true) (hd : decode c.code pc = .ok (.areturn, 1)) (hC : cells ≤ C) (hS : slots ≤ S) (hQ : Q (some w) T.heap locs) : Go p e below (PQ s C S Q) T (mkF m pc Ls (w :: rest)) :=
  goRet X hx hlk hret (by cases t <;> first | rfl | cases ht) (Or.inr (Or.inr (Or.inr (Or.inr ⟨rfl, ht, hw⟩)))) hd hC hS hQ
theorem goRetV {Q : Option Value → Heap → List Loc → Prop} {C S : Nat} (X : Stand p l e R s m args below meth c T locs cells slots) (hx : p.tables.exec = Jvm.exec) (hlk : meth.locks = false) {pc : Nat} {Ls : Array Slot} (hret : meth.sig.returnType = none) (hd : decode c.code pc = .ok (.return_, 1)) (hC : cells ≤ C) (hS : slots ≤ S) (hQ : Q none T.heap locs) : Go p e below (PQ s C S Q) T (mkF m pc Ls []) := by
  obtain ⟨fs, hr, hrun, hended, hW, hsame⟩ := X.leave (v := none) (fun _ => rfl) hlk
  exact ⟨_, _, X.returnOut hx hret hd hr, hrun, hended, _, _, rfl, hQ, ⟨_, rfl⟩, hW, hsame.mono hC hS⟩
abbrev PQW (s : State) (C S : Nat) (Q : Option Value → Heap → List Loc → Prop) : Outcome → State → Prop := fun o U' => ∃ v L, o = .returned v ∧ Q v U'.heap L ∧ ReturnedEndW s o U' L C S
theorem goRetW {Q : Option Value → Heap → List Loc → Prop} {C S : Nat} {vm₁ : Vm} (X : Stand p l e R (s.setVm vm₁) m args below meth c T locs cells slots) (hx : p.tables.exec = Jvm.exec) (hlk : meth.locks = false) {n : Nat} (hS : s.Since vm₁ n) (hn0 : n ≤ T.heap.size) {pc : Nat} {Ls : Array Slot} {w : Value} {t : FieldType} {i : Instr} {rest : List Value} (hret : meth.sig.returnType = some t) (hn : narrow t w = w)
    (hi : (i = .ireturn ∧ (t = .int ∨ t = .boolean ∨ t = .byte ∨ t = .char ∨ t = .short) ∧ ∃ z, w = .int z) ∨ (i = .lreturn ∧ t = .long ∧ ∃ z, w = .long z) ∨ (i = .dreturn ∧ t = .double ∧ ∃ z, w = .double z) ∨ (i = .freturn ∧ t = .float ∧ ∃ z, w = .float z) ∨ (i = .areturn ∧ t.isReference = true ∧ w.isRef = true))
    (hd : decode c.code pc = .ok (i, 1)) (hC : cells ≤ C) (hSl : slots ≤ S) (hQ : Q (some w) T.heap locs) : Go p e below (PQW s C S Q) T (mkF m pc Ls (w :: rest)) := by
  obtain ⟨fs, hr, hrun, hended, h1, h2, h3, h4⟩ := X.leaveW hS hn0 (v := some w) (fun h => by rw [hret] at h; cases h) hlk
  exact ⟨_, _, retOut X hx hret hn hi hd hr, hrun, hended, _, _, rfl, hQ, ⟨_, rfl⟩, h2, h3, h4.mono hC hSl⟩
theorem goRetVW {Q : Option Value → Heap → List Loc → Prop} {C S : Nat} {vm₁ : Vm} (X : Stand p l e R (s.setVm vm₁) m args below meth c T locs cells slots) (hx : p.tables.exec = Jvm.exec) (hlk : meth.locks = false) {n : Nat} (hS : s.Since vm₁ n) (hn0 : n ≤ T.heap.size) {pc : Nat} {Ls : Array Slot} (hret : meth.sig.returnType = none) (hd : decode c.code pc = .ok (.return_, 1)) (hC : cells ≤ C) (hSl : slots ≤ S) (hQ : Q none T.heap locs) : Go p e below (PQW s C S Q) T (mkF m pc Ls []) := by
  obtain ⟨fs, hr, hrun, hended, h1, h2, h3, h4⟩ := X.leaveW hS hn0 (v := none) (fun _ => rfl) hlk
  exact ⟨_, _, X.returnOut hx hret hd hr, hrun, hended, _, _, rfl, hQ, ⟨_, rfl⟩, h2, h3, h4.mono hC hSl⟩
abbrev PQH (Z : State) (EL : List (String × Nat)) (s : State) (C S : Nat) (Q : Option Value → Heap → List Loc → Prop) : Outcome → State → Prop := fun o U' => ∃ v L, o = .returned v ∧ Q v U'.heap L ∧ CHr Z EL s.vm s.heap U'.vm U'.heap ∧ ReturnedEndW s o U' L C S
theorem goRetH {Q : Option Value → Heap → List Loc → Prop} {C S : Nat} {vm₁ : Vm} {EL : List (String × Nat)} {a0 : Array Value} (X : Stand p l e R (s.setVm vm₁) m args below meth c T locs cells slots) (hx : p.tables.exec = Jvm.exec) (hlk : meth.locks = false) {n : Nat} (hS : s.Since vm₁ n) (hn0 : n ≤ T.heap.size) (hZ : Z.Warmed39 vm₁) (hEL : EW Z a0 EL) (hC' : CHr Z EL s.vm s.heap vm₁ T.heap) {pc : Nat} {Ls : Array Slot} {w : Value} {t : FieldType} {i : Instr} {rest : List Value} (hret : meth.sig.returnType = some t) (hn : narrow t w = w)
    (hi : (i = .ireturn ∧ (t = .int ∨ t = .boolean ∨ t = .byte ∨ t = .char ∨ t = .short) ∧ ∃ z, w = .int z) ∨ (i = .lreturn ∧ t = .long ∧ ∃ z, w = .long z) ∨ (i = .dreturn ∧ t = .double ∧ ∃ z, w = .double z) ∨ (i = .freturn ∧ t = .float ∧ ∃ z, w = .float z) ∨ (i = .areturn ∧ t.isReference = true ∧ w.isRef = true))
    (hd : decode c.code pc = .ok (i, 1)) (hC : cells ≤ C) (hSl : slots ≤ S) (hQ : Q (some w) T.heap locs) : Go p e below (PQH Z EL s C S Q) T (mkF m pc Ls (w :: rest)) := by
  obtain ⟨fs, hr, hrun, hended, h1, h2, h3, h4⟩ := X.leaveW hS hn0 (v := some w) (fun h => by rw [hret] at h; cases h) hlk
  have qC : CHr Z EL s.vm s.heap T.vm T.heap := hC'.trans (CHv.at X hZ hEL hC'.1)
  exact ⟨_, _, retOut X hx hret hn hi hd hr, hrun, hended, _, _, rfl, hQ, qC, ⟨_, rfl⟩, h2, h3, h4.mono hC hSl⟩
theorem goRetVH {Q : Option Value → Heap → List Loc → Prop} {C S : Nat} {vm₁ : Vm} {EL : List (String × Nat)} {a0 : Array Value} (X : Stand p l e R (s.setVm vm₁) m args below meth c T locs cells slots) (hx : p.tables.exec = Jvm.exec) (hlk : meth.locks = false) {n : Nat} (hS : s.Since vm₁ n) (hn0 : n ≤ T.heap.size) (hZ : Z.Warmed39 vm₁) (hEL : EW Z a0 EL) (hC' : CHr Z EL s.vm s.heap vm₁ T.heap) {pc : Nat} {Ls : Array Slot} (hret : meth.sig.returnType = none) (hd : decode c.code pc = .ok (.return_, 1)) (hC : cells ≤ C) (hSl : slots ≤ S) (hQ : Q none T.heap locs) : Go p e below (PQH Z EL s C S Q) T (mkF m pc Ls []) := by
  obtain ⟨fs, hr, hrun, hended, h1, h2, h3, h4⟩ := X.leaveW hS hn0 (v := none) (fun _ => rfl) hlk
  have qC : CHr Z EL s.vm s.heap T.vm T.heap := hC'.trans (CHv.at X hZ hEL hC'.1)
  exact ⟨_, _, X.returnOut hx hret hd hr, hrun, hended, _, _, rfl, hQ, qC, ⟨_, rfl⟩, h2, h3, h4.mono hC hSl⟩
/-- a String under construction (its value is null) is no booked one -/
theorem safeNull {vm : Vm} {EL : List (String × Nat)} {a : Addr} (hal : Z.vm.Alike vm) (E : Exa Z h a "java/lang/String") (F : Fld Z h a "java/lang/String" "value" "[B" .null) : Safe Z EL vm h a := fun B => by
  obtain ⟨cell, cf, k, i, f, f1, f2, f3, f4, f5, f6, f7⟩ := F
  obtain ⟨cell', k', e1, e2, e3, -, -⟩ := E
  cases f1.symm.trans e1
  obtain ⟨p, -, u, a', -, q, -, F', rfl | rfl⟩ := B
  · have ha := F'.ha
    cases (show h[q.sa]? = some q.sC from ha).symm.trans f1
    obtain ⟨cS, ⟨⟨-, -, -, ⟨cv, kv, iv, s4, -⟩, -, -, -, s8, -⟩, -⟩, -⟩ := F'
    obtain ⟨kv', z4⟩ := ff_back (U := Wst Z vm h) hal s4
    cases f2.symm.trans z4
    rw [f7] at s8
    cases s8
  · have hd := F'.hd
    cases (show h[q.sd]? = some q.SA from hd).symm.trans f1
    obtain ⟨cS, -, -, hB, -⟩ := F'
    have hB' : Z.vm.findClass "[B" = some q.SA.cls := by rw [← hal.findClass]; exact hB
    obtain ⟨k1, q1, q2⟩ := Vm.findClass_spec hB'
    obtain ⟨k2, q3, q4⟩ := Vm.findClass_spec e2
    cases q1.symm.trans q3
    exact absurd (q2.symm.trans q4) (by decide)
theorem mvMN {a0 args : Array Value} {own host : String} {y : MethodName} {index : Nat} (hZ : Z.Warmed39 s.vm) (w : (Cond.methodLinkNest own index y host).before a0 Z = true) : (Cond.methodLinkNest own index y host).before args s = true := (Cond.methodLinkNest_wide hZ w :)
theorem shr0 (z : Int32) : z >>> ((0 : Int32) &&& 31) = z := by
  have h := c_ishr z 0 0 (by decide)
  exact Int32.toInt_inj.mp (by rw [h]; omega)
theorem neEA {a0 : Array Value} {a b : Addr} {C : String} {n : Nat} {k : ClassId} {ty : FieldType} {z : Int32} {vs : List Value} {d : Value} (F : Exa Z h a C) (wi : (Cond.instantiable C n).before a0 Z = true) (G : Arv Z h b k ty z vs d) : a ≠ b := by
  obtain ⟨c, A, -⟩ := G
  exact ne_arr F wi A
theorem narZ {z : Int32} (hz : z = 0 ∨ z = 1) : narrow .boolean (.int z) = .int z := by rcases hz with rfl | rfl <;> rfl
theorem fldStart {args : Array Value} {t : Term} {C n d : String} {a : Addr} {k : Int32} (ht : t.eval args Z none [] Z = some (.ref a)) (h : (Cond.eq (Term.field t C n d) (.int k)).value args Z none Z [] = some true) : Fld Z Z.heap a C n d (.int k) := by
  obtain ⟨x, y, e1, e2, k1, k2⟩ := cmp_v (Or.inl h)
  rw [Term.int_eval] at e2
  cases e2
  obtain ⟨z, rfl⟩ := k2
  have e3 := e1
  rw [fld_at ht] at e3
  have q : z = k := by simpa [Cond.value, e1, Term.int_eval] using h
  subst q
  exact Fld.start e3
def bi (P : Prop) [Decidable P] : Int32 := if P then 1 else 0
theorem bi_t {P : Prop} [Decidable P] (h : P) : bi P = 1 := if_pos h
theorem bi_f {P : Prop} [Decidable P] (h : ¬ P) : bi P = 0 := if_neg h
theorem bi01 (P : Prop) [Decidable P] : bi P = 0 ∨ bi P = 1 := by unfold bi; split <;> simp
theorem modk (x k : Int32) (K : Int) (hk : k.toInt = K) : 0 < K → 0 ≤ ((x &&& 2147483647) % k).toInt ∧ ((x &&& 2147483647) % k).toInt < K := by
  intro h0
  have h1 := c_mask x 2147483647 31 (by decide) (by decide)
  have h2 : 0 ≤ (x &&& 2147483647).toInt := by rw [h1]; omega
  have h3 := (c_irem (x &&& 2147483647) k K hk).1 h2
  rw [h3]
  exact ⟨Int.emod_nonneg _ (by omega), Int.emod_lt_of_pos _ h0⟩
/-- an index: a natural below n -/
theorem idx {i : Int32} {n : Nat} (h : 0 ≤ i.toInt ∧ i.toInt < (n : Int)) : ∃ k : Nat, k < n ∧ i.toInt = (k : Int) ∧ i.toNatClampNeg = k ∧ ¬ i < 0 := by
  have h0 : ¬ i < 0 := by rw [Int32.lt_iff_toInt_lt]; show ¬ i.toInt < 0; omega
  have h1 := nat_of h0
  exact ⟨i.toNatClampNeg, by omega, h1, rfl, h0⟩
theorem lsw {target : State} (X : Stand p l e R s m args below meth c T locs cells slots) (hx : p.tables.exec = Jvm.exec) (hg : g.method = m) {dflt : Int} {pairs : Array (Int × Int)} {len pc0 pc' : Nat} (hpc : g.pc = pc0) {o : Int} {i : Int32} {rest : List Value} (hd : decode c.code g.pc = .ok (.lookupswitch dflt pairs, len)) (hs : g.stack = .int i :: rest)
    (hord : ∀ (a b a_1 b_1 : Int), ((a, b), a_1, b_1) ∈ pairs.toList.zip pairs.toList.tail → a < a_1) (hf : (∃ kk, pairs.find? (·.1 == i.toInt) = some (kk, o)) ∨ (pairs.find? (·.1 == i.toInt) = none ∧ o = dflt)) (h0 : 0 ≤ (pc0 : Int) + o) (hp : ((pc0 : Int) + o).toNat = pc')
    (hr : Steps p.tables e below (T.setTop { g with pc := pc', stack := rest }) target) : Steps p.tables e below (T.setTop g) target := by
  subst hg hpc hp
  rcases hf with ⟨kk, hf⟩ | ⟨hf, rfl⟩
  · jvm_step X.here [X.here.top, hx, hd, hs, hf, h0, lookupswitch.wp_whole]
    exact ⟨hord, hr⟩
  · jvm_step X.here [X.here.top, hx, hd, hs, hf, h0, lookupswitch.wp_whole]
    exact ⟨hord, hr⟩
theorem ieq {x k : Int32} {n K : Nat} (hx : x.toInt = (n : Int)) (hk : k.toInt = (K : Int)) : x = k ↔ n = K := by rw [← Int32.toInt_inj, hx, hk]; omega
theorem lenStart {args : Array Value} {t : Term} {a : Addr} {cl : Cell} {ty : FieldType} {z : Int32} (ht : t.eval args Z none [] Z = some (.ref a)) (A : Arr Z Z.heap a cl ty) (h : (Term.length t).eval args Z none [] Z = some (.int z)) : cl.slots.size < 2 ^ 31 ∧ cl.slots.size.toInt32 = z := by
  have ha := A.fin (U := Z) (Vm.Alike.refl _)
  by_cases q : cl.slots.size < 2 ^ 31
  · refine ⟨q, ?_⟩
    rw [len_f ht ha q] at h
    exact Value.int.inj (Option.some.inj h)
  · simp [Term.eval, ht, ha, q] at h
theorem subIdx {args : Array Value} {j : Int32} (hj : ¬ j < 0) (k : Int32) : (Term.sub (.index 0) (.int k)).eval args Z none [j.toNatClampNeg] Z = some (.int (j - k)) := Term.sub_int (idx_at hj) (Term.int_eval _)
theorem bi_iff {P Q : Prop} [Decidable P] [Decidable Q] (h : P ↔ Q) : bi P = bi Q := by unfold bi; simp only [h]
theorem cacheIdx {x : Int32} {n : Nat} (h1 : ¬ x < (-128 : Int32)) (h2 : ¬ (127 : Int32) < x) (hn : n = (256 : Int32).toNatClampNeg) : ¬ (x + (128 : Int32) < 0 ∨ n ≤ (x + (128 : Int32)).toNatClampNeg) := by
  rw [Int32.lt_iff_toInt_lt] at h1 h2
  have a1 : ¬ x.toInt < -128 := h1
  have a2 : ¬ (127 : Int) < x.toInt := h2
  have q0 : (128 : Int32).toInt = 128 := rfl
  have q := c_iadd x 128
  have r := rng32 (x + 128)
  rw [q0] at q
  have e1 : (x + (128 : Int32)).toInt = x.toInt + 128 := by omega
  have e2 : ¬ x + (128 : Int32) < 0 := by rw [Int32.lt_iff_toInt_lt]; show ¬ _ < (0 : Int); omega
  have e3 := nat_of e2
  have e4 : n = 256 := hn
  rintro (h | h)
  · exact e2 h
  · omega
theorem nsRoot {a0 : Array Value} {O K : String} {n : Nat} (w : (Cond.noSuperclass O).before a0 Z = true) (wk : (Cond.instantiable K n).before a0 Z = true) (hn : O ≠ K) : NS Z O K := by
  obtain ⟨c, k, h1, h2, h3, -, -⟩ := Cond.noSuperclass_spec w
  obtain ⟨t, kt, g1, -⟩ := Cond.instantiable_spec wk
  have ne := ids_ne h1 g1 hn
  refine ⟨c, t, h1, g1, fun fuel => ?_⟩
  cases fuel with
  | zero => rfl
  | succ f => simp [Vm.isSubclassAux, ne, h2, h3]
theorem nsNo {a0 : Array Value} {C S K : String} {n : Nat} (w : (Cond.superclass C S).before a0 Z = true) (wk : (Cond.instantiable K n).before a0 Z = true) (q : NS Z C K) (hn : C ≠ K) : ∃ c t, Z.vm.findClass C = some c ∧ Z.vm.findClass K = some t ∧ Z.vm.assignable c t = false := by
  obtain ⟨c, t, h0, g0, n3⟩ := q
  obtain ⟨p, k, kp, h1, h2, h3, h4, h5, -, h7⟩ := Cond.superclass_spec h0 w
  obtain ⟨t', k', g1, g2, g5, g7, -⟩ := Cond.instantiable_spec wk
  cases g0.symm.trans g1
  have g8 := (Bool.or_eq_false_iff.mp g7).1
  have ne := ids_ne h0 g0 hn
  refine ⟨c, t, h0, g0, ?_⟩
  show Z.vm.assignableAux (255 + 1) c t = false
  simp [Vm.assignableAux, ne, h2, g2, h5, g5, g8, Vm.isSubclass, n3]
theorem ne_key {x k : Int32} {K : Int} (h : ¬ x = k) (hk : k.toInt = K) : K ≠ x.toInt := fun q => h (Int32.toInt_inj.mp (by rw [hk]; exact q.symm))
end Own
end Jvm.OwnGo

namespace Jvm.Pilot.@@N@@
open Jvm Jvm.ClassFile Sem Op Lib Jvm.Free Jvm.Stand Jvm.LawKit Jvm.RoadKit Jvm.OwnGo Bundle Jvm.Pilot.@@N@@.Jvm.D
theorem own_wS {Z : State} {a0 : Array Value} (hw : ∀ d ∈ tables_1, d.before a0 Z = true) : ∀ a ∈ Bundle.stringAtoms, a.before a0 Z = true := by
  intro a ha
  simp only [Bundle.stringAtoms, List.mem_cons, List.not_mem_nil, or_false] at ha
  rcases ha with rfl | rfl | rfl | rfl | rfl | rfl | rfl
  all_goals first | exact (hw _ (List.mem_of_getElem? (i := 6) rfl)) | exact (hw _ (List.mem_of_getElem? (i := 5) rfl)) | exact (hw _ (List.mem_of_getElem? (i := 19) rfl)) | exact (hw _ (List.mem_of_getElem? (i := 20) rfl)) | exact (hw _ (List.mem_of_getElem? (i := 21) rfl)) | exact (hw _ (List.mem_of_getElem? (i := 22) rfl)) | exact (hw _ (List.mem_of_getElem? (i := 23) rfl))
abbrev own_EL : List (String × Nat) := [("java/lang/String", 7)]
theorem own_EW {Z : State} {a0 : Array Value} (hw : ∀ d ∈ tables_1, d.before a0 Z = true) : EW Z a0 own_EL := EW.cons (text := "") (hw _ (List.mem_of_getElem? (i := 18) rfl)) (fun _ q => nomatch q) EW.nil
theorem own_words {Z : State} {a0 : Array Value} (hw : ∀ d ∈ tables_1, d.before a0 Z = true) : ∀ d ∈ StrChars.Road.words, d.before a0 Z = true := fun d hd => hw d ((by decide +kernel : ∀ d ∈ StrChars.Road.words, d ∈ tables_1) d hd)
theorem own_wordsEq {Z : State} {a0 : Array Value} (hw : ∀ d ∈ tables_1, d.before a0 Z = true) : ∀ d ∈ StrChars.Road.wordsEq, d.before a0 Z = true := fun d hd => hw d ((by decide +kernel : ∀ d ∈ StrChars.Road.wordsEq, d ∈ tables_1) d hd)
theorem own_cod {cs : List Int32} (hb : ∀ c ∈ cs, ¬ c < 0 ∧ ¬ (255 : Int32) < c) : StrChars.Road.CodA cs 0 (Int32.ofNat cs.length) ((List.map (fun c : Int32 => c.toInt8.toInt32) cs).map Value.int) := StrChars.Road.codOf rfl fun c hc => (hb c hc).2
theorem own_up {cs : List Int32} (hb : ∀ c ∈ cs, ¬ c < 0 ∧ ¬ (255 : Int32) < c) : ∀ c ∈ cs, ¬ c < 0 ∧ ¬ (65535 : Int32) < c := fun c hc => ⟨(hb c hc).1, fun q => (hb c hc).2 (by rw [Int32.lt_iff_toInt_lt] at *; have z1 : (255 : Int32).toInt = 255 := rfl; have z2 : (65535 : Int32).toInt = 65535 := rfl; omega)⟩
def own_mk (n : Int32) (c0 : Int32) (c1 : Int32) (c2 : Int32) : List Int32 := if n = (0 : Int32) then [] else if n = (1 : Int32) then [c0] else if n = (2 : Int32) then [c0, c1] else [c0, c1, c2]
theorem own_mkR (n : Int32) (c0 : Int32) (c1 : Int32) (c2 : Int32) (h0 : (¬ c0 < 0 ∧ ¬ (255 : Int32) < c0)) (h1 : (¬ c1 < 0 ∧ ¬ (255 : Int32) < c1)) (h2 : (¬ c2 < 0 ∧ ¬ (255 : Int32) < c2)) : ∀ c ∈ own_mk n c0 c1 c2, (¬ c < 0 ∧ ¬ (255 : Int32) < c) := by
  intro c hc
  unfold own_mk at hc
  repeat' split at hc
  all_goals (simp only [List.mem_cons, List.not_mem_nil, or_false] at hc; try (first | (rcases hc with rfl | rfl | rfl) | skip))
  all_goals first | assumption | (exact False.elim hc) | (rcases hc with rfl | rfl <;> assumption) | (subst hc; assumption)
theorem own_mkL (n : Int32) (c0 : Int32) (c1 : Int32) (c2 : Int32) : (own_mk n c0 c1 c2).length ≤ 4000 := by
  unfold own_mk
  repeat' split
  all_goals simp
theorem own_narC (x : Int32) (h : (¬ x < 0 ∧ ¬ (255 : Int32) < x)) : nar .char x = x := by
  have q := c_i2c x
  obtain ⟨h1, h2⟩ := h
  rw [Int32.lt_iff_toInt_lt] at h1 h2
  have z1 : (0 : Int32).toInt = 0 := rfl
  have z2 : (255 : Int32).toInt = 255 := rfl
  exact Int32.toInt_inj.mp (by show (x.toUInt32.toUInt16.toUInt32.toInt32).toInt = _; omega)
theorem d3_0 : decode jdk_42_method_149_code 0 = .ok (.aload_n 0, 1) := by decide +kernel
theorem d3_1 : decode jdk_42_method_149_code 1 = .ok (.invokespecial 1, 3) := by decide +kernel
theorem d3_4 : decode jdk_42_method_149_code 4 = .ok (.iload_n 3, 1) := by decide +kernel
theorem d3_5 : decode jdk_42_method_149_code 5 = .ok (.ifCond .ne 22, 3) := by decide +kernel
theorem d3_8 : decode jdk_42_method_149_code 8 = .ok (.aload_n 0, 1) := by decide +kernel
theorem d3_9 : decode jdk_42_method_149_code 9 = .ok (.ldc 7, 2) := by decide +kernel
theorem d3_11 : decode jdk_42_method_149_code 11 = .ok (.getfield 9, 3) := by decide +kernel
theorem d3_14 : decode jdk_42_method_149_code 14 = .ok (.putfield 9, 3) := by decide +kernel
theorem d3_17 : decode jdk_42_method_149_code 17 = .ok (.aload_n 0, 1) := by decide +kernel
theorem d3_18 : decode jdk_42_method_149_code 18 = .ok (.ldc 7, 2) := by decide +kernel
theorem d3_20 : decode jdk_42_method_149_code 20 = .ok (.getfield 15, 3) := by decide +kernel
theorem d3_23 : decode jdk_42_method_149_code 23 = .ok (.putfield 15, 3) := by decide +kernel
theorem d3_26 : decode jdk_42_method_149_code 26 = .ok (.return_, 1) := by decide +kernel
theorem pn_0 : plainName "java/lang/String" = true := by first | (simp [plainName, overriddenIn]; done) | decide +kernel
theorem ef_strE4 (m : MethodId) (a : Addr) (c0 : Addr) : entryFrame m #[(.ref a), (.ref c0), (.int (0 : Int32)), (.int (0 : Int32)), .null] 6 = mkF m 0 #[.val (.ref a), .val (.ref c0), .val (.int (0 : Int32)), .val (.int (0 : Int32)), .val .null, .unset] [] := by first | (simp [entryFrame, mkF, argsToLocals, Value.category]; done) | rfl
abbrev R_strE4 : Room := { frames := 1, cells := 4, slots := 8, locals := 12 }
def Q_strE4 (Z : State) (a : Addr) (c0 : Addr) (h0 : Heap) (n0 : Nat) (v : Option Value) (h : Heap) (L : List Loc) : Prop := v = none ∧ ∃ (t : Addr) (k : ClassId), Fr n0 L ∧ Keep h0 h [a] ∧ Fld Z h a "java/lang/String" "value" "[B" (.ref t) ∧ Fld Z h a "java/lang/String" "coder" "B" (.int (0 : Int32)) ∧ Arv Z h t k .byte (0 : Int32) [] (.int (0 : Int32))
set_option maxRecDepth 65536 in
set_option maxHeartbeats 40000000 in
theorem rm_strE4 (l : Launch) (Z : State) (a0 : Array Value) (hw : ∀ d ∈ tables_1, d.before a0 Z = true) (ws : List Jvm.Cond) (a : Addr) (c0 : Addr) (h0 : Heap) (n0 : Nat) (O0 : Old Z n0 h0) (E_a : Exa Z h0 a "java/lang/String") (F_value_a : Fld Z h0 a "java/lang/String" "value" "[B" .null) (F_coder_a : Fld Z h0 a "java/lang/String" "coder" "B" (.int (0 : Int32))) (g_a : n0 ≤ a) :
    MetFree l (⟨"java/lang/String", "<init>", "([CIILjava/lang/Void;)V"⟩ : MethodName) (head1 (Jvm.Cond.code (⟨"java/lang/String", "<init>", "([CIILjava/lang/Void;)V"⟩ : MethodName) jdk_42_method_149_code 6 none :: ws) R_strE4) (fun as_ U => as_ = #[(.ref a), (.ref c0), (.int (0 : Int32)), (.int (0 : Int32)), .null] ∧ Z.Warmed39 U.vm ∧ U.heap = h0 ∧ CHv Z own_EL U.vm h0) (fun _ _ _ _ _ => True) (fun _ U o U' => ∃ v L, o = .returned v ∧ Q_strE4 Z a c0 h0 n0 v U'.heap L ∧ CHr Z own_EL U.vm U.heap U'.vm U'.heap ∧ ReturnedEndW U o U' L R_strE4.cells R_strE4.slots) := by
  refine MetFree.of_bodySF (plainFor_of_name pn_0) hisR ?_
  intro p e s m args below meth c s₁ Bd hml0 hP hK
  obtain ⟨rfl, hZ, hh, hC0⟩ := hP
  have hx := Bd.exec
  have hby := Bd.bytes
  have hml : c.maxLocals = 6 := hml0
  have hown : s.vm.findClass "java/lang/String" = some m.cls := findClass_of_methodNamed Bd.named
  have hnm := (name_of_methodNamed Bd.named Bd.method).1
  have hlk : meth.locks = false := BodyLoose.notSynchronized Bd
  have X0 : Stand p l e R_strE4 (s.setVm s.vm) m #[(.ref a), (.ref c0), (.int (0 : Int32)), (.int (0 : Int32)), .null] below meth c s₁ [] 0 0 := Stand.of_body Bd
  have e0 : s₁.heap = h0 := by rw [← hh, Bd.state]; rfl
  have N0 := Fr.nil n0
  have hS : s.Since s.vm s.heap.size := (State.WarmedH.refl s).since _
  have hk : s.heap.size ≤ h0.size := by rw [← hh]; exact Nat.le_refl _
  have hZ : Z.Warmed39 (s.setVm s.vm).vm := hZ
  have hown : (s.setVm s.vm).vm.findClass "java/lang/String" = some m.cls := hown
  have wS := own_wS hw
  have hC : CHr Z own_EL s.vm h0 s.vm h0 := CHr.refl hC0
  have hEL := own_EW hw
  have SF_a : Safe Z own_EL s.vm h0 a := safeNull hZ.alike E_a F_value_a
  refine enter (P := PQH Z own_EL s R_strE4.cells R_strE4.slots (Q_strE4 Z a c0 h0 n0)) (ef_strE4 m a c0) ?_
  refine goS (n := 1) (Ls' := #[.val (.ref a), .val (.ref c0), .val (.int (0 : Int32)), .val (.int (0 : Int32)), .val .null, .unset]) (st' := [(.ref a)]) (fun _ kz => XS.aloadN X0.here hx rfl (hb hby d3_0) rfl rfl kz) ?_
  obtain ⟨T1, X1, e1, st1⟩ := initO X0 hx hZ hown (hw _ (List.mem_of_getElem? (i := 15) rfl)) (hw _ (List.mem_of_getElem? (i := 16) rfl)) (hw _ (List.mem_of_getElem? (i := 17) rfl)) e0 (g := (mkF m 1 #[.val (.ref a), .val (.ref c0), .val (.int (0 : Int32)), .val (.int (0 : Int32)), .val .null, .unset] [(.ref a)])) rfl (by rw [hml]; rfl) rfl (hb hby d3_1) (by decide) (W := 0) (by show 2 * 0 + _ ≤ _; exact Nat.le_of_eq rfl) (by decide)
  refine goS (n := 4) (Ls' := #[.val (.ref a), .val (.ref c0), .val (.int (0 : Int32)), .val (.int (0 : Int32)), .val .null, .unset]) (st' := []) st1 ?_
  refine goS (n := 5) (Ls' := #[.val (.ref a), .val (.ref c0), .val (.int (0 : Int32)), .val (.int (0 : Int32)), .val .null, .unset]) (st' := [(.int (0 : Int32))]) (fun _ kz => XS.iloadN X1.here hx rfl (hb hby d3_4) rfl kz) ?_
  refine goS (n := 8) (Ls' := #[.val (.ref a), .val (.ref c0), .val (.int (0 : Int32)), .val (.int (0 : Int32)), .val .null, .unset]) (st' := []) (fun _ kz => XS.ifNo X1.here hx rfl (hb hby d3_5) rfl (by decide) kz) ?_
  refine goS (n := 9) (Ls' := #[.val (.ref a), .val (.ref c0), .val (.int (0 : Int32)), .val (.int (0 : Int32)), .val .null, .unset]) (st' := [(.ref a)]) (fun _ kz => XS.aloadN X1.here hx rfl (hb hby d3_8) rfl rfl kz) ?_
  obtain ⟨sa2, T2, h2, k12, sb2, kb2, X2, e2, E2, hS, hk2, hZ, hown, E_sa2, F_coder_sa2, F_value_sa2, V_sb2, -, -, hCr2, -, hne2, st2⟩ := ldcCH X1 hx hZ hown (hw _ (List.mem_of_getElem? (i := 18) rfl)) wS e1 hS hk hEL (List.mem_of_getElem? (i := 0) rfl) hC.1 (vs := []) (z := 0) ⟨(fun _ q => nomatch q), rfl⟩ (by decide) rfl (g := (mkF m 9 #[.val (.ref a), .val (.ref c0), .val (.int (0 : Int32)), .val (.int (0 : Int32)), .val .null, .unset] [(.ref a)])) rfl (hb hby d3_9) (n := 0) (by decide +kernel) (by decide) (by decide) (by decide)
  have SF_a := CHr.safe hCr2 E_a.lt SF_a
  have hC := hC.trans hCr2
  have E_a : Exa Z h2 a "java/lang/String" := E_a.ext E2
  have F_value_a : Fld Z h2 a "java/lang/String" "value" "[B" .null := F_value_a.ext E2
  have F_coder_a : Fld Z h2 a "java/lang/String" "coder" "B" (.int (0 : Int32)) := F_coder_a.ext E2
  have hk := hk2
  have O2 := O0.ext E2
  have KK2 : Keep h0 h2 [a] := (Keep.refl h0 [a]).ext E2
  have ne_a_sa2 : a ≠ sa2 := (hne2 _ SF_a).1
  have ne_a_sb2 : a ≠ sb2 := (hne2 _ SF_a).2
  refine goS (n := 11) (Ls' := #[.val (.ref a), .val (.ref c0), .val (.int (0 : Int32)), .val (.int (0 : Int32)), .val .null, .unset]) (st' := [(.ref sa2), (.ref a)]) st2 ?_
  obtain ⟨T3, X3, e3, st3⟩ := getF X2 hx hZ hown (host := "") (Or.inl (hw _ (List.mem_of_getElem? (i := 24) rfl))) Via.refl e2 F_value_sa2 (g := (mkF m 11 #[.val (.ref a), .val (.ref c0), .val (.int (0 : Int32)), .val (.int (0 : Int32)), .val .null, .unset] [(.ref sa2), (.ref a)])) rfl rfl (hb hby d3_11)
  refine goS (n := 14) (Ls' := #[.val (.ref a), .val (.ref c0), .val (.int (0 : Int32)), .val (.int (0 : Int32)), .val .null, .unset]) (st' := [(.ref sb2), (.ref a)]) st3 ?_
  obtain ⟨T4, h4, X4, e4, W4, st4⟩ := putF X3 hx hZ hown (host := "") (Or.inl (hw _ (List.mem_of_getElem? (i := 24) rfl))) Via.refl e3 F_value_a E_a (Or.inr ⟨(hw _ (List.mem_of_getElem? (i := 20) rfl)), rfl, hnm⟩) (hw _ (List.mem_of_getElem? (i := 5) rfl)) (ty := (.array .byte)) (v := (.ref sb2)) (by decide) rfl rfl (g := (mkF m 14 #[.val (.ref a), .val (.ref c0), .val (.int (0 : Int32)), .val (.int (0 : Int32)), .val .null, .unset] [(.ref sb2), (.ref a)])) rfl rfl (hb hby d3_14)
  have Fn4 : Fld Z h4 a "java/lang/String" "value" "[B" (.ref sb2) := F_value_a.same W4
  have hk := Nat.le_trans hk (Keep.of_wr W4).1
  have sfw := SF_a
  have SF_a := Safe.wr W4 sfw hC.1 SF_a
  have hC := hC.trans (CHr.wr W4 sfw hC.1)
  have E_a : Exa Z h4 a "java/lang/String" := E_a.wr W4
  have F_coder_a : Fld Z h4 a "java/lang/String" "coder" "B" (.int (0 : Int32)) := F_coder_a.other W4 (Or.inr (slot_ne (Or.inr (hw _ (List.mem_of_getElem? (i := 21) rfl))) (Or.inr (hw _ (List.mem_of_getElem? (i := 20) rfl))) (by decide) (t := .byte) (t' := (.array .byte)) (by decide) (by decide)))
  have E_sa2 : Exa Z h4 sa2 "java/lang/String" := E_sa2.wr W4
  have F_coder_sa2 : Fld Z h4 sa2 "java/lang/String" "coder" "B" (.int (0 : Int32)) := F_coder_sa2.other W4 (Or.inl (Ne.symm ne_a_sa2))
  have F_value_sa2 : Fld Z h4 sa2 "java/lang/String" "value" "[B" (.ref sb2) := F_value_sa2.other W4 (Or.inl (Ne.symm ne_a_sa2))
  have V_sb2 : Arv Z h4 sb2 kb2 .byte (0 : Int32) [] (.int (0 : Int32)) := V_sb2.other W4 (Ne.symm ne_a_sb2)
  have F_value_a := Fn4
  have N4 := Fr.snoc X4 N0 g_a
  have O4 := O2.wr W4 g_a
  have KK4 : Keep h0 h4 [a] := KK2.wr W4 (Or.inl (List.mem_of_getElem? (i := 0) rfl))
  refine goS (n := 17) (Ls' := #[.val (.ref a), .val (.ref c0), .val (.int (0 : Int32)), .val (.int (0 : Int32)), .val .null, .unset]) (st' := []) st4 ?_
  refine goS (n := 18) (Ls' := #[.val (.ref a), .val (.ref c0), .val (.int (0 : Int32)), .val (.int (0 : Int32)), .val .null, .unset]) (st' := [(.ref a)]) (fun _ kz => XS.aloadN X4.here hx rfl (hb hby d3_17) rfl rfl kz) ?_
  obtain ⟨sa5, T5, h5, k15, sb5, kb5, X5, e5, E5, hS, hk5, hZ, hown, E_sa5, F_coder_sa5, F_value_sa5, V_sb5, -, -, hCr5, -, hne5, st5⟩ := ldcCH X4 hx hZ hown (hw _ (List.mem_of_getElem? (i := 18) rfl)) wS e4 hS hk hEL (List.mem_of_getElem? (i := 0) rfl) hC.1 (vs := []) (z := 0) ⟨(fun _ q => nomatch q), rfl⟩ (by decide) rfl (g := (mkF m 18 #[.val (.ref a), .val (.ref c0), .val (.int (0 : Int32)), .val (.int (0 : Int32)), .val .null, .unset] [(.ref a)])) rfl (hb hby d3_18) (n := 0) (by decide +kernel) (by decide) (by decide) (by decide)
  have SF_a := CHr.safe hCr5 E_a.lt SF_a
  have hC := hC.trans hCr5
  have E_a : Exa Z h5 a "java/lang/String" := E_a.ext E5
  have F_coder_a : Fld Z h5 a "java/lang/String" "coder" "B" (.int (0 : Int32)) := F_coder_a.ext E5
  have E_sa2 : Exa Z h5 sa2 "java/lang/String" := E_sa2.ext E5
  have F_coder_sa2 : Fld Z h5 sa2 "java/lang/String" "coder" "B" (.int (0 : Int32)) := F_coder_sa2.ext E5
  have F_value_sa2 : Fld Z h5 sa2 "java/lang/String" "value" "[B" (.ref sb2) := F_value_sa2.ext E5
  have V_sb2 : Arv Z h5 sb2 kb2 .byte (0 : Int32) [] (.int (0 : Int32)) := V_sb2.ext E5
  have F_value_a : Fld Z h5 a "java/lang/String" "value" "[B" (.ref sb2) := F_value_a.ext E5
  have hk := hk5
  have O5 := O4.ext E5
  have KK5 : Keep h0 h5 [a] := KK4.ext E5
  have ne_a_sa5 : a ≠ sa5 := (hne5 _ SF_a).1
  have ne_a_sb5 : a ≠ sb5 := (hne5 _ SF_a).2
  refine goS (n := 20) (Ls' := #[.val (.ref a), .val (.ref c0), .val (.int (0 : Int32)), .val (.int (0 : Int32)), .val .null, .unset]) (st' := [(.ref sa5), (.ref a)]) st5 ?_
  obtain ⟨T6, X6, e6, st6⟩ := getF X5 hx hZ hown (host := "") (Or.inl (hw _ (List.mem_of_getElem? (i := 25) rfl))) Via.refl e5 F_coder_sa5 (g := (mkF m 20 #[.val (.ref a), .val (.ref c0), .val (.int (0 : Int32)), .val (.int (0 : Int32)), .val .null, .unset] [(.ref sa5), (.ref a)])) rfl rfl (hb hby d3_20)
  refine goS (n := 23) (Ls' := #[.val (.ref a), .val (.ref c0), .val (.int (0 : Int32)), .val (.int (0 : Int32)), .val .null, .unset]) (st' := [(.int (0 : Int32)), (.ref a)]) st6 ?_
  obtain ⟨T7, h7, X7, e7, W7, st7⟩ := putFN X6 hx hZ hown (hw _ (List.mem_of_getElem? (i := 25) rfl)) Via.refl e6 F_coder_a E_a (Or.inr ⟨(hw _ (List.mem_of_getElem? (i := 21) rfl)), rfl, hnm⟩) (hw _ (List.mem_of_getElem? (i := 5) rfl)) (ty := .byte) (v' := (.int (0 : Int32))) (by decide) rfl rfl (g := (mkF m 23 #[.val (.ref a), .val (.ref c0), .val (.int (0 : Int32)), .val (.int (0 : Int32)), .val .null, .unset] [(.int (0 : Int32)), (.ref a)])) rfl rfl (hb hby d3_23)
  have Fn7 : Fld Z h7 a "java/lang/String" "coder" "B" (.int (0 : Int32)) := F_coder_a.same W7
  have hk := Nat.le_trans hk (Keep.of_wr W7).1
  have sfw := SF_a
  have SF_a := Safe.wr W7 sfw hC.1 SF_a
  have hC := hC.trans (CHr.wr W7 sfw hC.1)
  have E_a : Exa Z h7 a "java/lang/String" := E_a.wr W7
  have E_sa2 : Exa Z h7 sa2 "java/lang/String" := E_sa2.wr W7
  have F_coder_sa2 : Fld Z h7 sa2 "java/lang/String" "coder" "B" (.int (0 : Int32)) := F_coder_sa2.other W7 (Or.inl (Ne.symm ne_a_sa2))
  have F_value_sa2 : Fld Z h7 sa2 "java/lang/String" "value" "[B" (.ref sb2) := F_value_sa2.other W7 (Or.inl (Ne.symm ne_a_sa2))
  have V_sb2 : Arv Z h7 sb2 kb2 .byte (0 : Int32) [] (.int (0 : Int32)) := V_sb2.other W7 (Ne.symm ne_a_sb2)
  have F_value_a : Fld Z h7 a "java/lang/String" "value" "[B" (.ref sb2) := F_value_a.other W7 (Or.inr (slot_ne (Or.inr (hw _ (List.mem_of_getElem? (i := 20) rfl))) (Or.inr (hw _ (List.mem_of_getElem? (i := 21) rfl))) (by decide) (t := (.array .byte)) (t' := .byte) (by decide) (by decide)))
  have E_sa5 : Exa Z h7 sa5 "java/lang/String" := E_sa5.wr W7
  have F_coder_sa5 : Fld Z h7 sa5 "java/lang/String" "coder" "B" (.int (0 : Int32)) := F_coder_sa5.other W7 (Or.inl (Ne.symm ne_a_sa5))
  have F_value_sa5 : Fld Z h7 sa5 "java/lang/String" "value" "[B" (.ref sb5) := F_value_sa5.other W7 (Or.inl (Ne.symm ne_a_sa5))
  have V_sb5 : Arv Z h7 sb5 kb5 .byte (0 : Int32) [] (.int (0 : Int32)) := V_sb5.other W7 (Ne.symm ne_a_sb5)
  have F_coder_a := Fn7
  have N7 := Fr.snoc X7 N4 g_a
  have O7 := O5.wr W7 g_a
  have KK7 : Keep h0 h7 [a] := KK5.wr W7 (Or.inl (List.mem_of_getElem? (i := 0) rfl))
  refine goS (n := 26) (Ls' := #[.val (.ref a), .val (.ref c0), .val (.int (0 : Int32)), .val (.int (0 : Int32)), .val .null, .unset]) (st' := []) st7 ?_
  exact goRetVH X7 hx hlk hS (by rw [e7]; exact hk) hZ hEL (by rw [hh, e7]; exact hC) Bd.returns (hb hby d3_26) (by decide) (by decide) (by rw [e7]; exact ⟨rfl, sb2, _, N7, KK7, F_value_a, F_coder_a, V_sb2⟩)
theorem d2_0 : decode jdk_42_method_3_code 0 = .ok (.aload_n 0, 1) := by decide +kernel
theorem d2_1 : decode jdk_42_method_3_code 1 = .ok (.aload_n 1, 1) := by decide +kernel
theorem d2_2 : decode jdk_42_method_3_code 2 = .ok (.iconst 0, 1) := by decide +kernel
theorem d2_3 : decode jdk_42_method_3_code 3 = .ok (.aload_n 1, 1) := by decide +kernel
theorem d2_4 : decode jdk_42_method_3_code 4 = .ok (.arraylength, 1) := by decide +kernel
theorem d2_5 : decode jdk_42_method_3_code 5 = .ok (.aconst_null, 1) := by decide +kernel
theorem d2_6 : decode jdk_42_method_3_code 6 = .ok (.invokespecial 27, 3) := by decide +kernel
theorem pd_0 : parseMethodDescriptor "([CIILjava/lang/Void;)V" = some ⟨[(.array .char), .int, .int, (.object "java/lang/Void")], none⟩ := by decide +kernel
theorem d2_9 : decode jdk_42_method_3_code 9 = .ok (.return_, 1) := by decide +kernel
theorem ef_strE1 (m : MethodId) (a : Addr) (c0 : Addr) : entryFrame m #[(.ref a), (.ref c0)] 2 = mkF m 0 #[.val (.ref a), .val (.ref c0)] [] := by first | (simp [entryFrame, mkF, argsToLocals, Value.category]; done) | rfl
abbrev R_strE1 : Room := { frames := 2, cells := 4, slots := 8, locals := 29 }
def Q_strE1 (Z : State) (a : Addr) (c0 : Addr) (kc : ClassId) (vs : List Value) (h0 : Heap) (n0 : Nat) (v : Option Value) (h : Heap) (L : List Loc) : Prop := v = none ∧ ∃ (t : Addr) (k : ClassId), Fr n0 L ∧ Keep h0 h [a] ∧ Fld Z h a "java/lang/String" "value" "[B" (.ref t) ∧ Fld Z h a "java/lang/String" "coder" "B" (.int (0 : Int32)) ∧ Arv Z h t k .byte (0 : Int32) [] (.int (0 : Int32))
set_option maxRecDepth 65536 in
set_option maxHeartbeats 40000000 in
theorem rm_strE1 (l : Launch) (Z : State) (a0 : Array Value) (hw : ∀ d ∈ tables_1, d.before a0 Z = true) (ws : List Jvm.Cond) (a : Addr) (c0 : Addr) (kc : ClassId) (vs : List Value) (h0 : Heap) (n0 : Nat) (O0 : Old Z n0 h0) (E_a : Exa Z h0 a "java/lang/String") (F_value_a : Fld Z h0 a "java/lang/String" "value" "[B" .null) (F_coder_a : Fld Z h0 a "java/lang/String" "coder" "B" (.int (0 : Int32))) (g_a : n0 ≤ a) (V_c0 : Arv Z h0 c0 kc .char (0 : Int32) vs (.int (0 : Int32))) :
    MetFree l (⟨"java/lang/String", "<init>", "([C)V"⟩ : MethodName) (head1 (Jvm.Cond.code (⟨"java/lang/String", "<init>", "([C)V"⟩ : MethodName) jdk_42_method_3_code 2 none :: ws) R_strE1) (fun as_ U => as_ = #[(.ref a), (.ref c0)] ∧ Z.Warmed39 U.vm ∧ U.heap = h0 ∧ CHv Z own_EL U.vm h0) (fun _ _ _ _ _ => True) (fun _ U o U' => ∃ v L, o = .returned v ∧ Q_strE1 Z a c0 kc vs h0 n0 v U'.heap L ∧ CHr Z own_EL U.vm U.heap U'.vm U'.heap ∧ ReturnedEndW U o U' L R_strE1.cells R_strE1.slots) := by
  refine MetFree.of_bodySF (plainFor_of_name pn_0) hisR ?_
  intro p e s m args below meth c s₁ Bd hml0 hP hK
  obtain ⟨rfl, hZ, hh, hC0⟩ := hP
  have hx := Bd.exec
  have hby := Bd.bytes
  have hml : c.maxLocals = 2 := hml0
  have hown : s.vm.findClass "java/lang/String" = some m.cls := findClass_of_methodNamed Bd.named
  have hnm := (name_of_methodNamed Bd.named Bd.method).1
  have hlk : meth.locks = false := BodyLoose.notSynchronized Bd
  have X0 : Stand p l e R_strE1 (s.setVm s.vm) m #[(.ref a), (.ref c0)] below meth c s₁ [] 0 0 := Stand.of_body Bd
  have e0 : s₁.heap = h0 := by rw [← hh, Bd.state]; rfl
  have N0 := Fr.nil n0
  have hS : s.Since s.vm s.heap.size := (State.WarmedH.refl s).since _
  have hk : s.heap.size ≤ h0.size := by rw [← hh]; exact Nat.le_refl _
  have hZ : Z.Warmed39 (s.setVm s.vm).vm := hZ
  have hown : (s.setVm s.vm).vm.findClass "java/lang/String" = some m.cls := hown
  have wS := own_wS hw
  have hC : CHr Z own_EL s.vm h0 s.vm h0 := CHr.refl hC0
  have hEL := own_EW hw
  have SF_a : Safe Z own_EL s.vm h0 a := safeNull hZ.alike E_a F_value_a
  refine enter (P := PQH Z own_EL s R_strE1.cells R_strE1.slots (Q_strE1 Z a c0 kc vs h0 n0)) (ef_strE1 m a c0) ?_
  refine goS (n := 1) (Ls' := #[.val (.ref a), .val (.ref c0)]) (st' := [(.ref a)]) (fun _ kz => XS.aloadN X0.here hx rfl (hb hby d2_0) rfl rfl kz) ?_
  refine goS (n := 2) (Ls' := #[.val (.ref a), .val (.ref c0)]) (st' := [(.ref c0), (.ref a)]) (fun _ kz => XS.aloadN X0.here hx rfl (hb hby d2_1) rfl rfl kz) ?_
  refine goS (n := 3) (Ls' := #[.val (.ref a), .val (.ref c0)]) (st' := [(.int (0 : Int32)), (.ref c0), (.ref a)]) (fun _ kz => XS.iconst X0.here hx rfl (hb hby d2_2) kz) ?_
  refine goS (n := 4) (Ls' := #[.val (.ref a), .val (.ref c0)]) (st' := [(.ref c0), (.int (0 : Int32)), (.ref c0), (.ref a)]) (fun _ kz => XS.aloadN X0.here hx rfl (hb hby d2_3) rfl rfl kz) ?_
  have vv1 := V_c0
  obtain ⟨cl1, Ar1, -, S1, Nn1, -, -⟩ := vv1
  refine goS (n := 5) (Ls' := #[.val (.ref a), .val (.ref c0)]) (st' := [(.int (0 : Int32)), (.int (0 : Int32)), (.ref c0), (.ref a)]) (fun tz kz => X0.arraylength hx (by rw [e0]; exact Ar1.1) (State.isArrayOf_alike hZ.alike Ar1.2.1) (g := (mkF m 4 #[.val (.ref a), .val (.ref c0)] [(.ref c0), (.int (0 : Int32)), (.ref c0), (.ref a)])) rfl rfl (hb hby d2_4) tz (by rw [len_of S1 Nn1]; exact kz)) ?_
  refine goS (n := 6) (Ls' := #[.val (.ref a), .val (.ref c0)]) (st' := [.null, (.int (0 : Int32)), (.int (0 : Int32)), (.ref c0), (.ref a)]) (fun _ kz => XS.aconstNull X0.here hx rfl (hb hby d2_5) kz) ?_
  obtain ⟨vr2, _, ⟨T2, L2, k2, n2⟩, -, X2, hS2, hgr2, ⟨Lc2, hQ2, l2, y2, z2, hCr2⟩, st2⟩ := X0.specialBackS hx (y := (⟨"java/lang/String", "<init>", "([CIILjava/lang/Void;)V"⟩ : MethodName)) rfl hown (mvT hZ (hw _ (List.mem_of_getElem? (i := 11) rfl))) (mvT hZ (hw _ (List.mem_of_getElem? (i := 12) rfl))) (mvT hZ (hw _ (List.mem_of_getElem? (i := 14) rfl))) (by decide) (backOfSH (W := 0) (rm_strE4 l Z a0 hw [] a c0 h0 n0 O0 E_a F_value_a F_coder_a g_a) hZ (hw _ (List.mem_of_getElem? (i := 14) rfl)) (hw _ (List.mem_of_getElem? (i := 6) rfl)) (by decide) (by decide) hEL hC.1) (g := (mkF m 6 #[.val (.ref a), .val (.ref c0)] [.null, (.int (0 : Int32)), (.int (0 : Int32)), (.ref c0), (.ref a)])) rfl (by rw [hml]; rfl) (Steps.refl _) (a := a) (argsL := [(.ref c0), (.int (0 : Int32)), (.int (0 : Int32)), .null]) (rest := []) (lenOf pd_0 rfl) rfl (by show 2 * 0 + _ ≤ _; exact Nat.le_of_eq rfl) (hb hby d2_6) (fun _ _ => ⟨rfl, e0, (Nat.le_of_ble_eq_true rfl), (Nat.le_of_ble_eq_true rfl)⟩)
  dsimp only [Pt.U, Pt.locs, Pt.cells, Pt.slots] at X2 l2 y2 z2 st2 hQ2 hS2 hgr2 hCr2
  subst l2 y2 z2
  obtain ⟨X2, hS, hZ, hown⟩ := rebS hS (n1 := s₁.heap.size) (by rw [e0]; exact hk) X2 hS2 hgr2 hZ hown
  have hk : T2.heap.size ≤ T2.heap.size := Nat.le_refl _
  obtain ⟨rfl, t2, kt2, N2q, K2, F_value_a, F_coder_a, V_t2⟩ := hQ2
  have N2 := Fr.app N0 N2q
  have e2 : T2.heap = T2.heap := rfl
  have O2 := O0.keep K2 (allS g_a all0)
  have KK2 : Keep h0 T2.heap [a] := (Keep.refl h0 [a]).trans K2 (allS (Or.inl (List.mem_of_getElem? (i := 0) rfl)) all0)
  have SF_a := CHr.safe hCr2 E_a.lt SF_a
  have hC := hC.trans hCr2
  have E_a : Exa Z T2.heap a "java/lang/String" := E_a.keep K2
  refine goT (n := 9) (Ls' := #[.val (.ref a), .val (.ref c0)]) (st' := []) st2 ?_
  exact goRetVH X2 hx hlk hS (by rw [e2]; exact hk) hZ hEL (by rw [hh, e2]; exact hC) Bd.returns (hb hby d2_9) (by decide) (by decide) (by rw [e2]; exact ⟨rfl, t2, _, N2, KK2, F_value_a, F_coder_a, V_t2⟩)
theorem d1_0 : decode method_2_code 0 = .ok (.iload_n 0, 1) := by decide +kernel
theorem d1_1 : decode method_2_code 1 = .ok (.ifCond .ne 14, 3) := by decide +kernel
theorem d1_4 : decode method_2_code 4 = .ok (.new 7, 3) := by decide +kernel
theorem d1_7 : decode method_2_code 7 = .ok (.dup, 1) := by decide +kernel
theorem d1_8 : decode method_2_code 8 = .ok (.iconst 0, 1) := by decide +kernel
theorem d1_9 : decode method_2_code 9 = .ok (.newarray .char, 2) := by decide +kernel
theorem d1_11 : decode method_2_code 11 = .ok (.invokespecial 9, 3) := by decide +kernel
theorem pd_1 : parseMethodDescriptor "([C)V" = some ⟨[(.array .char)], none⟩ := by decide +kernel
theorem d1_14 : decode method_2_code 14 = .ok (.areturn, 1) := by decide +kernel
theorem d1_15 : decode method_2_code 15 = .ok (.iload_n 0, 1) := by decide +kernel
theorem d1_16 : decode method_2_code 16 = .ok (.iconst 1, 1) := by decide +kernel
theorem d1_17 : decode method_2_code 17 = .ok (.if_icmp .ne 18, 3) := by decide +kernel
theorem d1_20 : decode method_2_code 20 = .ok (.new 7, 3) := by decide +kernel
theorem d1_23 : decode method_2_code 23 = .ok (.dup, 1) := by decide +kernel
theorem d1_24 : decode method_2_code 24 = .ok (.iconst 1, 1) := by decide +kernel
theorem d1_25 : decode method_2_code 25 = .ok (.newarray .char, 2) := by decide +kernel
theorem d1_27 : decode method_2_code 27 = .ok (.dup, 1) := by decide +kernel
theorem d1_28 : decode method_2_code 28 = .ok (.iconst 0, 1) := by decide +kernel
theorem d1_29 : decode method_2_code 29 = .ok (.iload_n 1, 1) := by decide +kernel
theorem d1_30 : decode method_2_code 30 = .ok (.castore, 1) := by decide +kernel
theorem d1_31 : decode method_2_code 31 = .ok (.invokespecial 9, 3) := by decide +kernel
theorem d1_34 : decode method_2_code 34 = .ok (.areturn, 1) := by decide +kernel
theorem d1_35 : decode method_2_code 35 = .ok (.iload_n 0, 1) := by decide +kernel
theorem d1_36 : decode method_2_code 36 = .ok (.iconst 2, 1) := by decide +kernel
theorem d1_37 : decode method_2_code 37 = .ok (.if_icmp .ne 22, 3) := by decide +kernel
theorem d1_40 : decode method_2_code 40 = .ok (.new 7, 3) := by decide +kernel
theorem d1_43 : decode method_2_code 43 = .ok (.dup, 1) := by decide +kernel
theorem d1_44 : decode method_2_code 44 = .ok (.iconst 2, 1) := by decide +kernel
theorem d1_45 : decode method_2_code 45 = .ok (.newarray .char, 2) := by decide +kernel
theorem d1_47 : decode method_2_code 47 = .ok (.dup, 1) := by decide +kernel
theorem d1_48 : decode method_2_code 48 = .ok (.iconst 0, 1) := by decide +kernel
theorem d1_49 : decode method_2_code 49 = .ok (.iload_n 1, 1) := by decide +kernel
theorem d1_50 : decode method_2_code 50 = .ok (.castore, 1) := by decide +kernel
theorem d1_51 : decode method_2_code 51 = .ok (.dup, 1) := by decide +kernel
theorem d1_52 : decode method_2_code 52 = .ok (.iconst 1, 1) := by decide +kernel
theorem d1_53 : decode method_2_code 53 = .ok (.iload_n 2, 1) := by decide +kernel
theorem d1_54 : decode method_2_code 54 = .ok (.castore, 1) := by decide +kernel
theorem d1_55 : decode method_2_code 55 = .ok (.invokespecial 9, 3) := by decide +kernel
theorem d1_58 : decode method_2_code 58 = .ok (.areturn, 1) := by decide +kernel
theorem d1_59 : decode method_2_code 59 = .ok (.new 7, 3) := by decide +kernel
theorem d1_62 : decode method_2_code 62 = .ok (.dup, 1) := by decide +kernel
theorem d1_63 : decode method_2_code 63 = .ok (.iconst 3, 1) := by decide +kernel
theorem d1_64 : decode method_2_code 64 = .ok (.newarray .char, 2) := by decide +kernel
theorem d1_66 : decode method_2_code 66 = .ok (.dup, 1) := by decide +kernel
theorem d1_67 : decode method_2_code 67 = .ok (.iconst 0, 1) := by decide +kernel
theorem d1_68 : decode method_2_code 68 = .ok (.iload_n 1, 1) := by decide +kernel
theorem d1_69 : decode method_2_code 69 = .ok (.castore, 1) := by decide +kernel
theorem d1_70 : decode method_2_code 70 = .ok (.dup, 1) := by decide +kernel
theorem d1_71 : decode method_2_code 71 = .ok (.iconst 1, 1) := by decide +kernel
theorem d1_72 : decode method_2_code 72 = .ok (.iload_n 2, 1) := by decide +kernel
theorem d1_73 : decode method_2_code 73 = .ok (.castore, 1) := by decide +kernel
theorem d1_74 : decode method_2_code 74 = .ok (.dup, 1) := by decide +kernel
theorem d1_75 : decode method_2_code 75 = .ok (.iconst 2, 1) := by decide +kernel
theorem d1_76 : decode method_2_code 76 = .ok (.iload_n 3, 1) := by decide +kernel
theorem d1_77 : decode method_2_code 77 = .ok (.castore, 1) := by decide +kernel
theorem d1_78 : decode method_2_code 78 = .ok (.invokespecial 9, 3) := by decide +kernel
theorem d1_81 : decode method_2_code 81 = .ok (.areturn, 1) := by decide +kernel
theorem pn_1 : plainName "com/example/claimgate/claimgate/NamePatternExactlyPinLaw" = true := by first | (simp [plainName, overriddenIn]; done) | decide +kernel
theorem ef_mk (m : MethodId) (n : Int32) (c0 : Int32) (c1 : Int32) (c2 : Int32) : entryFrame m #[(.int n), (.int c0), (.int c1), (.int c2)] 4 = mkF m 0 #[.val (.int n), .val (.int c0), .val (.int c1), .val (.int c2)] [] := by first | (simp [entryFrame, mkF, argsToLocals, Value.category]; done) | rfl
abbrev R_mk : Room := { frames := 4, cells := 6, slots := 12, locals := 66 }
def Q_mk (Z : State) (n : Int32) (c0 : Int32) (c1 : Int32) (c2 : Int32) (cs : Int32) (h0 : Heap) (n0 : Nat) (v : Option Value) (h : Heap) (L : List Loc) : Prop := ∃ (a : Addr) (t : Addr) (k : ClassId), v = some (.ref a) ∧ Fr n0 L ∧ Keep h0 h [] ∧ n0 ≤ a ∧ h0.size ≤ a ∧ Exa Z h a "java/lang/String" ∧ Fld Z h a "java/lang/String" "value" "[B" (.ref t) ∧ Fld Z h a "java/lang/String" "coder" "B" (.int (0 : Int32)) ∧ Arv Z h t k .byte (Int32.ofNat (List.length (own_mk n c0 c1 c2))) ((List.map (fun c : Int32 => c.toInt8.toInt32) (own_mk n c0 c1 c2)).map Value.int) (.int (0 : Int32))
set_option maxRecDepth 65536 in
set_option maxHeartbeats 40000000 in
theorem rm_mk (l : Launch) (Z : State) (a0 : Array Value) (hw : ∀ d ∈ tables_1, d.before a0 Z = true) (ws : List Jvm.Cond) (n : Int32) (c0 : Int32) (c1 : Int32) (c2 : Int32) (cs : Int32) (h0 : Heap) (n0 : Nat) (O0 : Old Z n0 h0) (S_CS : Sta Z Z.heap "java/lang/String" "COMPACT_STRINGS" "Z" (.int cs)) (hcs : ¬ cs = (0 : Int32)) (hr0 : (¬ c0 < 0 ∧ ¬ (255 : Int32) < c0)) (hr1 : (¬ c1 < 0 ∧ ¬ (255 : Int32) < c1)) (hr2 : (¬ c2 < 0 ∧ ¬ (255 : Int32) < c2)) :
    MetFree l (⟨"com/example/claimgate/claimgate/NamePatternExactlyPinLaw", "mk", "(ICCC)Ljava/lang/String;"⟩ : MethodName) (head1 (Jvm.Cond.code (⟨"com/example/claimgate/claimgate/NamePatternExactlyPinLaw", "mk", "(ICCC)Ljava/lang/String;"⟩ : MethodName) method_2_code 4 (some (.object "java/lang/String")) :: ws) R_mk) (fun as_ U => as_ = #[(.int n), (.int c0), (.int c1), (.int c2)] ∧ Z.Warmed39 U.vm ∧ U.heap = h0 ∧ CHv Z own_EL U.vm h0) (fun _ _ _ _ _ => True) (fun _ U o U' => ∃ v L, o = .returned v ∧ Q_mk Z n c0 c1 c2 cs h0 n0 v U'.heap L ∧ CHr Z own_EL U.vm U.heap U'.vm U'.heap ∧ ReturnedEndW U o U' L R_mk.cells R_mk.slots) := by
  refine MetFree.of_bodySF (plainFor_of_name pn_1) hisR ?_
  intro p e s m args below meth c s₁ Bd hml0 hP hK
  obtain ⟨rfl, hZ, hh, hC0⟩ := hP
  have hx := Bd.exec
  have hby := Bd.bytes
  have hml : c.maxLocals = 4 := hml0
  have hown : s.vm.findClass "com/example/claimgate/claimgate/NamePatternExactlyPinLaw" = some m.cls := findClass_of_methodNamed Bd.named
  have hnm := (name_of_methodNamed Bd.named Bd.method).1
  have hlk : meth.locks = false := BodyLoose.notSynchronized Bd
  have X0 : Stand p l e R_mk (s.setVm s.vm) m #[(.int n), (.int c0), (.int c1), (.int c2)] below meth c s₁ [] 0 0 := Stand.of_body Bd
  have e0 : s₁.heap = h0 := by rw [← hh, Bd.state]; rfl
  have N0 := Fr.nil n0
  have hS : s.Since s.vm s.heap.size := (State.WarmedH.refl s).since _
  have hk : s.heap.size ≤ h0.size := by rw [← hh]; exact Nat.le_refl _
  have hZ : Z.Warmed39 (s.setVm s.vm).vm := hZ
  have hown : (s.setVm s.vm).vm.findClass "com/example/claimgate/claimgate/NamePatternExactlyPinLaw" = some m.cls := hown
  have wS := own_wS hw
  have hC : CHr Z own_EL s.vm h0 s.vm h0 := CHr.refl hC0
  have hEL := own_EW hw
  refine enter (P := PQH Z own_EL s R_mk.cells R_mk.slots (Q_mk Z n c0 c1 c2 cs h0 n0)) (ef_mk m n c0 c1 c2) ?_
  refine goS (n := 1) (Ls' := #[.val (.int n), .val (.int c0), .val (.int c1), .val (.int c2)]) (st' := [(.int n)]) (fun _ kz => XS.iloadN X0.here hx rfl (hb hby d1_0) rfl kz) ?_
  by_cases hc1 : n = (0 : Int32)
  · refine goS (n := 4) (Ls' := #[.val (.int n), .val (.int c0), .val (.int c1), .val (.int c2)]) (st' := []) (fun _ kz => XS.ifNo X0.here hx rfl (hb hby d1_1) rfl ((if0 _ _).trans (teq hc1).2) kz) ?_
    obtain ⟨T2, h2, X2, e2, E2, A2, D2, -, st2⟩ := newO X0 hx hZ hown (hw _ (List.mem_of_getElem? (i := 4) rfl)) (hw _ (List.mem_of_getElem? (i := 5) rfl)) (hw _ (List.mem_of_getElem? (i := 6) rfl)) e0 (g := (mkF m 4 #[.val (.int n), .val (.int c0), .val (.int c1), .val (.int c2)] [])) rfl (hb hby d1_4) (by decide) (by decide)
    obtain ⟨b2, g2⟩ : ∃ z, z = h0.size := ⟨_, rfl⟩
    rw [← g2] at A2 D2 st2
    have g_b2 : n0 ≤ b2 := Nat.le_trans (O0.1 ▸ O0.2.1) (Nat.le_of_eq g2.symm)
    have z_b2 : h0.size ≤ b2 := Nat.le_trans (Keep.refl h0 []).1 (Nat.le_of_eq g2.symm)
    have SF_b2 : Safe Z own_EL s.vm h0 b2 := Safe.new (Nat.le_of_eq g2.symm)
    have hk := Nat.le_trans hk E2.1
    have SF_b2 := Safe.ext E2 hC.1 SF_b2
    have hC := hC.trans (CHr.ext E2 hC.1)
    have F_value_b2 : Fld Z h2 b2 "java/lang/String" "value" "[B" .null := D2 (Or.inr (hw _ (List.mem_of_getElem? (i := 20) rfl))) (ty := (.array .byte)) (by decide)
    have F_coder_b2 : Fld Z h2 b2 "java/lang/String" "coder" "B" (.int (0 : Int32)) := D2 (Or.inr (hw _ (List.mem_of_getElem? (i := 21) rfl))) (ty := .byte) (by decide)
    have E_b2 : Exa Z h2 b2 "java/lang/String" := A2
    have O2 := O0.ext E2
    have KK2 : Keep h0 h2 [] := (Keep.refl h0 []).ext E2
    refine goS (n := 7) (Ls' := #[.val (.int n), .val (.int c0), .val (.int c1), .val (.int c2)]) (st' := [(.ref b2)]) st2 ?_
    refine goS (n := 8) (Ls' := #[.val (.int n), .val (.int c0), .val (.int c1), .val (.int c2)]) (st' := [(.ref b2), (.ref b2)]) (fun _ kz => XS.dup X2.here hx rfl (hb hby d1_7) rfl rfl kz) ?_
    refine goS (n := 9) (Ls' := #[.val (.int n), .val (.int c0), .val (.int c1), .val (.int c2)]) (st' := [(.int (0 : Int32)), (.ref b2), (.ref b2)]) (fun _ kz => XS.iconst X2.here hx rfl (hb hby d1_8) kz) ?_
    obtain ⟨T3, h3, k3, X3, e3, E3, A3, Ex3, st3⟩ := newPE X2 hx hZ (hw _ (List.mem_of_getElem? (i := 7) rfl)) e2 (g := (mkF m 9 #[.val (.int n), .val (.int c0), .val (.int c1), .val (.int c2)] [(.int (0 : Int32)), (.ref b2), (.ref b2)])) rfl (hb hby d1_9) rfl (by decide) (cap := 0) (by decide) (by decide) (by decide) (by decide) (ad := "[C") (by decide +kernel)
    obtain ⟨b3, g3⟩ : ∃ z, z = h2.size := ⟨_, rfl⟩
    rw [← g3] at A3 st3 Ex3
    have g_b3 : n0 ≤ b3 := Nat.le_trans (O2.1 ▸ O2.2.1) (Nat.le_of_eq g3.symm)
    have z_b3 : h0.size ≤ b3 := Nat.le_trans KK2.1 (Nat.le_of_eq g3.symm)
    have SF_b3 : Safe Z own_EL s.vm h2 b3 := Safe.new (Nat.le_of_eq g3.symm)
    have ne_b2_b3 : b2 ≠ b3 := Nat.ne_of_lt (Nat.lt_of_lt_of_le E_b2.lt (Nat.le_of_eq g3.symm))
    have hk := Nat.le_trans hk E3.1
    have SF_b2 := Safe.ext E3 hC.1 SF_b2
    have SF_b3 := Safe.ext E3 hC.1 SF_b3
    have hC := hC.trans (CHr.ext E3 hC.1)
    have F_value_b2 : Fld Z h3 b2 "java/lang/String" "value" "[B" .null := F_value_b2.ext E3
    have F_coder_b2 : Fld Z h3 b2 "java/lang/String" "coder" "B" (.int (0 : Int32)) := F_coder_b2.ext E3
    have E_b2 : Exa Z h3 b2 "java/lang/String" := E_b2.ext E3
    have E_b3 : Exa Z h3 b3 "[C" := Ex3
    have V_b3 : Arv Z h3 b3 k3 .char (0 : Int32) [] (.int (0 : Int32)) := (Arv.new A3 (by decide)).pad (pad_rep [] (.int (0 : Int32)) 0)
    have O3 := O2.ext E3
    have KK3 : Keep h0 h3 [] := KK2.ext E3
    refine goS (n := 11) (Ls' := #[.val (.int n), .val (.int c0), .val (.int c1), .val (.int c2)]) (st' := [(.ref b3), (.ref b2), (.ref b2)]) st3 ?_
    obtain ⟨vr4, _, ⟨T4, L4, k4, n4⟩, -, X4, hS4, hgr4, ⟨Lc4, hQ4, l4, y4, z4, hCr4⟩, st4⟩ := X3.specialBackS hx (y := (⟨"java/lang/String", "<init>", "([C)V"⟩ : MethodName)) rfl hown (mvT hZ (hw _ (List.mem_of_getElem? (i := 8) rfl))) (mvT hZ (hw _ (List.mem_of_getElem? (i := 9) rfl))) (mvT hZ (hw _ (List.mem_of_getElem? (i := 10) rfl))) (by decide) (backOfSH (W := 1) (rm_strE1 l Z a0 hw [] b2 b3 k3 [] h3 n0 O3 E_b2 F_value_b2 F_coder_b2 g_b2 V_b3) hZ (hw _ (List.mem_of_getElem? (i := 10) rfl)) (hw _ (List.mem_of_getElem? (i := 6) rfl)) (by decide) (by decide) hEL hC.1) (g := (mkF m 11 #[.val (.int n), .val (.int c0), .val (.int c1), .val (.int c2)] [(.ref b3), (.ref b2), (.ref b2)])) rfl (by rw [hml]; rfl) (Steps.refl _) (a := b2) (argsL := [(.ref b3)]) (rest := [(.ref b2)]) (lenOf pd_1 rfl) rfl (by show 2 * 0 + _ ≤ _; exact Nat.le_of_eq rfl) (hb hby d1_11) (fun _ _ => ⟨rfl, e3, (Nat.le_of_ble_eq_true rfl), (Nat.le_of_ble_eq_true rfl)⟩)
    dsimp only [Pt.U, Pt.locs, Pt.cells, Pt.slots] at X4 l4 y4 z4 st4 hQ4 hS4 hgr4 hCr4
    subst l4 y4 z4
    obtain ⟨X4, hS, hZ, hown⟩ := rebS hS (n1 := T3.heap.size) (by rw [e3]; exact hk) X4 hS4 hgr4 hZ hown
    have hk : T4.heap.size ≤ T4.heap.size := Nat.le_refl _
    obtain ⟨rfl, t4, kt4, N4q, K4, F_value_b2, F_coder_b2, V_t4⟩ := hQ4
    have N4 := Fr.app N0 N4q
    have e4 : T4.heap = T4.heap := rfl
    have O4 := O3.keep K4 (allS g_b2 all0)
    have KK4 : Keep h0 T4.heap [] := KK3.trans K4 (allS (Or.inr z_b2) all0)
    have SF_b2 := CHr.safe hCr4 E_b2.lt SF_b2
    have SF_b3 := CHr.safe hCr4 E_b3.lt SF_b3
    have hC := hC.trans hCr4
    have E_b2 : Exa Z T4.heap b2 "java/lang/String" := E_b2.keep K4
    have E_b3 : Exa Z T4.heap b3 "[C" := E_b3.keep K4
    have V_b3 : Arv Z T4.heap b3 k3 .char (0 : Int32) [] (.int (0 : Int32)) := V_b3.keep K4 (ninS (Ne.symm ne_b2_b3) nin0)
    refine goT (n := 14) (Ls' := #[.val (.int n), .val (.int c0), .val (.int c1), .val (.int c2)]) (st' := [(.ref b2)]) st4 ?_
    exact goRetH X4 hx hlk hS (by rw [e4]; exact hk) hZ hEL (by rw [hh, e4]; exact hC) Bd.returns rfl (Or.inr (Or.inr (Or.inr (Or.inr ⟨rfl, rfl, rfl⟩)))) (hb hby d1_14) (by decide) (by decide) (by rw [e4]; exact ⟨b2, t4, _, rfl, N4, KK4, g_b2, z_b2, E_b2, F_value_b2, F_coder_b2, by rw [show (own_mk n c0 c1 c2) = _ from by unfold own_mk; rw [if_pos hc1]]; exact V_t4⟩)
  · refine goS (n := 15) (Ls' := #[.val (.int n), .val (.int c0), .val (.int c1), .val (.int c2)]) (st' := []) (fun _ kz => XS.ifYes X0.here hx rfl (pc0 := 1) (pc' := 15) rfl (hb hby d1_1) rfl ((if0 _ _).trans (feq hc1).2) (by decide) (by decide) kz) ?_
    refine goS (n := 16) (Ls' := #[.val (.int n), .val (.int c0), .val (.int c1), .val (.int c2)]) (st' := [(.int n)]) (fun _ kz => XS.iloadN X0.here hx rfl (hb hby d1_15) rfl kz) ?_
    refine goS (n := 17) (Ls' := #[.val (.int n), .val (.int c0), .val (.int c1), .val (.int c2)]) (st' := [(.int (1 : Int32)), (.int n)]) (fun _ kz => XS.iconst X0.here hx rfl (hb hby d1_16) kz) ?_
    by_cases hc5 : n = (1 : Int32)
    · refine goS (n := 20) (Ls' := #[.val (.int n), .val (.int c0), .val (.int c1), .val (.int c2)]) (st' := []) (fun _ kz => XS.icmpNo X0.here hx rfl (hb hby d1_17) rfl (teq hc5).2 kz) ?_
      obtain ⟨T6, h6, X6, e6, E6, A6, D6, -, st6⟩ := newO X0 hx hZ hown (hw _ (List.mem_of_getElem? (i := 4) rfl)) (hw _ (List.mem_of_getElem? (i := 5) rfl)) (hw _ (List.mem_of_getElem? (i := 6) rfl)) e0 (g := (mkF m 20 #[.val (.int n), .val (.int c0), .val (.int c1), .val (.int c2)] [])) rfl (hb hby d1_20) (by decide) (by decide)
      obtain ⟨b6, g6⟩ : ∃ z, z = h0.size := ⟨_, rfl⟩
      rw [← g6] at A6 D6 st6
      have g_b6 : n0 ≤ b6 := Nat.le_trans (O0.1 ▸ O0.2.1) (Nat.le_of_eq g6.symm)
      have z_b6 : h0.size ≤ b6 := Nat.le_trans (Keep.refl h0 []).1 (Nat.le_of_eq g6.symm)
      have SF_b6 : Safe Z own_EL s.vm h0 b6 := Safe.new (Nat.le_of_eq g6.symm)
      have hk := Nat.le_trans hk E6.1
      have SF_b6 := Safe.ext E6 hC.1 SF_b6
      have hC := hC.trans (CHr.ext E6 hC.1)
      have F_value_b6 : Fld Z h6 b6 "java/lang/String" "value" "[B" .null := D6 (Or.inr (hw _ (List.mem_of_getElem? (i := 20) rfl))) (ty := (.array .byte)) (by decide)
      have F_coder_b6 : Fld Z h6 b6 "java/lang/String" "coder" "B" (.int (0 : Int32)) := D6 (Or.inr (hw _ (List.mem_of_getElem? (i := 21) rfl))) (ty := .byte) (by decide)
      have E_b6 : Exa Z h6 b6 "java/lang/String" := A6
      have O6 := O0.ext E6
      have KK6 : Keep h0 h6 [] := (Keep.refl h0 []).ext E6
      refine goS (n := 23) (Ls' := #[.val (.int n), .val (.int c0), .val (.int c1), .val (.int c2)]) (st' := [(.ref b6)]) st6 ?_
      refine goS (n := 24) (Ls' := #[.val (.int n), .val (.int c0), .val (.int c1), .val (.int c2)]) (st' := [(.ref b6), (.ref b6)]) (fun _ kz => XS.dup X6.here hx rfl (hb hby d1_23) rfl rfl kz) ?_
      refine goS (n := 25) (Ls' := #[.val (.int n), .val (.int c0), .val (.int c1), .val (.int c2)]) (st' := [(.int (1 : Int32)), (.ref b6), (.ref b6)]) (fun _ kz => XS.iconst X6.here hx rfl (hb hby d1_24) kz) ?_
      obtain ⟨T7, h7, k7, X7, e7, E7, A7, Ex7, st7⟩ := newPE X6 hx hZ (hw _ (List.mem_of_getElem? (i := 7) rfl)) e6 (g := (mkF m 25 #[.val (.int n), .val (.int c0), .val (.int c1), .val (.int c2)] [(.int (1 : Int32)), (.ref b6), (.ref b6)])) rfl (hb hby d1_25) rfl (by decide) (cap := 1) (by decide) (by decide) (by decide) (by decide) (ad := "[C") (by decide +kernel)
      obtain ⟨b7, g7⟩ : ∃ z, z = h6.size := ⟨_, rfl⟩
      rw [← g7] at A7 st7 Ex7
      have g_b7 : n0 ≤ b7 := Nat.le_trans (O6.1 ▸ O6.2.1) (Nat.le_of_eq g7.symm)
      have z_b7 : h0.size ≤ b7 := Nat.le_trans KK6.1 (Nat.le_of_eq g7.symm)
      have SF_b7 : Safe Z own_EL s.vm h6 b7 := Safe.new (Nat.le_of_eq g7.symm)
      have ne_b6_b7 : b6 ≠ b7 := Nat.ne_of_lt (Nat.lt_of_lt_of_le E_b6.lt (Nat.le_of_eq g7.symm))
      have hk := Nat.le_trans hk E7.1
      have SF_b6 := Safe.ext E7 hC.1 SF_b6
      have SF_b7 := Safe.ext E7 hC.1 SF_b7
      have hC := hC.trans (CHr.ext E7 hC.1)
      have F_value_b6 : Fld Z h7 b6 "java/lang/String" "value" "[B" .null := F_value_b6.ext E7
      have F_coder_b6 : Fld Z h7 b6 "java/lang/String" "coder" "B" (.int (0 : Int32)) := F_coder_b6.ext E7
      have E_b6 : Exa Z h7 b6 "java/lang/String" := E_b6.ext E7
      have E_b7 : Exa Z h7 b7 "[C" := Ex7
      have V_b7 : Arv Z h7 b7 k7 .char (1 : Int32) [(.int (0 : Int32))] (.int (0 : Int32)) := (Arv.new A7 (by decide)).pad (pad_rep [] (.int (0 : Int32)) 1)
      have O7 := O6.ext E7
      have KK7 : Keep h0 h7 [] := KK6.ext E7
      refine goS (n := 27) (Ls' := #[.val (.int n), .val (.int c0), .val (.int c1), .val (.int c2)]) (st' := [(.ref b7), (.ref b6), (.ref b6)]) st7 ?_
      refine goS (n := 28) (Ls' := #[.val (.int n), .val (.int c0), .val (.int c1), .val (.int c2)]) (st' := [(.ref b7), (.ref b7), (.ref b6), (.ref b6)]) (fun _ kz => XS.dup X7.here hx rfl (hb hby d1_27) rfl rfl kz) ?_
      refine goS (n := 29) (Ls' := #[.val (.int n), .val (.int c0), .val (.int c1), .val (.int c2)]) (st' := [(.int (0 : Int32)), (.ref b7), (.ref b7), (.ref b6), (.ref b6)]) (fun _ kz => XS.iconst X7.here hx rfl (hb hby d1_28) kz) ?_
      refine goS (n := 30) (Ls' := #[.val (.int n), .val (.int c0), .val (.int c1), .val (.int c2)]) (st' := [(.int c0), (.int (0 : Int32)), (.ref b7), (.ref b7), (.ref b6), (.ref b6)]) (fun _ kz => XS.iloadN X7.here hx rfl (hb hby d1_29) rfl kz) ?_
      obtain ⟨cl8, Ar8, q8, S8, Nn8, H8, G8⟩ := V_b7
      have hin8 : ¬ ((0 : Int32) < 0 ∨ cl8.slots.size ≤ ((0 : Int32)).toNatClampNeg) := inb_of S8 ⟨by decide, by decide⟩
      obtain ⟨T9, h9, X9, e9, W9, st9⟩ := stC X7 hx hZ e7 Ar8 (j := (0 : Int32)) hin8 (g := (mkF m 30 #[.val (.int n), .val (.int c0), .val (.int c1), .val (.int c2)] [(.int c0), (.int (0 : Int32)), (.ref b7), (.ref b7), (.ref b6), (.ref b6)])) rfl rfl (hb hby d1_30)
      rw [(own_narC _ hr0)] at W9
      have fz9 : fits .char (.int c0) = true := by have q := fits_nar_char c0; rw [(own_narC _ hr0)] at q; exact q
      have hk := Nat.le_trans hk (Keep.of_wr W9).1
      have sfw := SF_b7
      have SF_b6 := Safe.wr W9 sfw hC.1 SF_b6
      have SF_b7 := Safe.wr W9 sfw hC.1 SF_b7
      have hC := hC.trans (CHr.wr W9 sfw hC.1)
      have F_value_b6 : Fld Z h9 b6 "java/lang/String" "value" "[B" .null := F_value_b6.other W9 (Or.inl ne_b6_b7)
      have F_coder_b6 : Fld Z h9 b6 "java/lang/String" "coder" "B" (.int (0 : Int32)) := F_coder_b6.other W9 (Or.inl ne_b6_b7)
      have E_b6 : Exa Z h9 b6 "java/lang/String" := E_b6.wr W9
      have E_b7 : Exa Z h9 b7 "[C" := E_b7.wr W9
      have V_b7 : Arv Z h9 b7 k7 .char (1 : Int32) [(.int c0)] (.int (0 : Int32)) := Arv.set Ar8 q8 S8 Nn8 H8 G8 fz9 W9 0 rfl (Nat.le_of_ble_eq_true rfl)
      have N9 := Fr.snoc X9 N0 g_b7
      have O9 := O7.wr W9 g_b7
      have KK9 : Keep h0 h9 [] := KK7.wr W9 (Or.inr z_b7)
      refine goS (n := 31) (Ls' := #[.val (.int n), .val (.int c0), .val (.int c1), .val (.int c2)]) (st' := [(.ref b7), (.ref b6), (.ref b6)]) st9 ?_
      obtain ⟨vr10, _, ⟨T10, L10, k10, n10⟩, -, X10, ⟨Lc10, hQ10, l10, y10, z10⟩, st10⟩ := X9.specialBack hx (y := (⟨"java/lang/String", "<init>", "([C)V"⟩ : MethodName)) rfl hown (mvT hZ (hw _ (List.mem_of_getElem? (i := 8) rfl))) (mvT hZ (hw _ (List.mem_of_getElem? (i := 9) rfl))) (mvT hZ (hw _ (List.mem_of_getElem? (i := 10) rfl))) (by decide) (StrChars.Road.backV (W := 1) hZ (own_words hw) (kI := 4) (hw _ (List.mem_of_getElem? (i := 5) rfl)) (cs := [c0]) (bs := [(c0).toInt8.toInt32]) (n := 1) g_b6 (O9.1 ▸ O9.2.1) E_b6 F_value_b6 F_coder_b6 V_b7 (S_CS.ext O9.2) hcs rfl rfl (by decide) (by decide) (by intro c hc; simp only [List.mem_cons, List.not_mem_nil, or_false] at hc; subst hc; exact hr0) rfl (by decide) (by decide)) (g := (mkF m 31 #[.val (.int n), .val (.int c0), .val (.int c1), .val (.int c2)] [(.ref b7), (.ref b6), (.ref b6)])) rfl (by rw [hml]; rfl) (Steps.refl _) (a := b6) (argsL := [(.ref b7)]) (rest := [(.ref b6)]) (lenOf pd_1 rfl) rfl (by show 2 * 0 + _ ≤ _; exact Nat.le_of_eq rfl) (hb hby d1_31) (fun _ _ => ⟨rfl, e9, (Nat.le_of_ble_eq_true rfl), (Nat.le_of_ble_eq_true rfl)⟩)
      dsimp only [Pt.U, Pt.locs, Pt.cells, Pt.slots] at X10 l10 y10 z10 st10 hQ10
      subst l10 y10 z10
      obtain ⟨rfl, N10q, K10, -, F_coder_b6, t10, kt10, g_t10, zt10, -, F_value_b6, V_t10⟩ := hQ10
      have ne_b6_t10 : b6 ≠ t10 := Nat.ne_of_lt (Nat.lt_of_lt_of_le E_b6.lt zt10)
      have ne_b7_t10 : b7 ≠ t10 := Nat.ne_of_lt (Nat.lt_of_lt_of_le E_b7.lt zt10)
      have N10 := Fr.app N9 N10q
      have e10 : T10.heap = T10.heap := rfl
      have O10 := O9.keep K10 (allS g_b6 all0)
      have KK10 : Keep h0 T10.heap [] := KK9.trans K10 (allS (Or.inr z_b6) all0)
      have hk := Nat.le_trans hk K10.1
      have sfw : ∀ x ∈ [b6], Safe Z own_EL s.vm h9 x := (sfS SF_b6 sf0)
      have SF_b6 := Safe.keep K10 sfw hC.1 SF_b6
      have SF_b7 := Safe.keep K10 sfw hC.1 SF_b7
      have hC := hC.trans (CHr.keep K10 sfw hC.1)
      have E_b6 : Exa Z T10.heap b6 "java/lang/String" := E_b6.keep K10
      have E_b7 : Exa Z T10.heap b7 "[C" := E_b7.keep K10
      have V_b7 : Arv Z T10.heap b7 k7 .char (1 : Int32) [(.int c0)] (.int (0 : Int32)) := V_b7.keep K10 (ninS (Ne.symm ne_b6_b7) nin0)
      refine goT (n := 34) (Ls' := #[.val (.int n), .val (.int c0), .val (.int c1), .val (.int c2)]) (st' := [(.ref b6)]) st10 ?_
      exact goRetH X10 hx hlk hS (by rw [e10]; exact hk) hZ hEL (by rw [hh, e10]; exact hC) Bd.returns rfl (Or.inr (Or.inr (Or.inr (Or.inr ⟨rfl, rfl, rfl⟩)))) (hb hby d1_34) (by decide) (by decide) (by rw [e10]; exact ⟨b6, t10, _, rfl, N10, KK10, g_b6, z_b6, E_b6, F_value_b6, F_coder_b6, by rw [show (own_mk n c0 c1 c2) = _ from by unfold own_mk; rw [if_neg hc1, if_pos hc5]]; exact V_t10⟩)
    · refine goS (n := 35) (Ls' := #[.val (.int n), .val (.int c0), .val (.int c1), .val (.int c2)]) (st' := []) (fun _ kz => XS.icmpYes X0.here hx rfl (pc0 := 17) (pc' := 35) rfl (hb hby d1_17) rfl (feq hc5).2 (by decide) (by decide) kz) ?_
      refine goS (n := 36) (Ls' := #[.val (.int n), .val (.int c0), .val (.int c1), .val (.int c2)]) (st' := [(.int n)]) (fun _ kz => XS.iloadN X0.here hx rfl (hb hby d1_35) rfl kz) ?_
      refine goS (n := 37) (Ls' := #[.val (.int n), .val (.int c0), .val (.int c1), .val (.int c2)]) (st' := [(.int (2 : Int32)), (.int n)]) (fun _ kz => XS.iconst X0.here hx rfl (hb hby d1_36) kz) ?_
      by_cases hc11 : n = (2 : Int32)
      · refine goS (n := 40) (Ls' := #[.val (.int n), .val (.int c0), .val (.int c1), .val (.int c2)]) (st' := []) (fun _ kz => XS.icmpNo X0.here hx rfl (hb hby d1_37) rfl (teq hc11).2 kz) ?_
        obtain ⟨T12, h12, X12, e12, E12, A12, D12, -, st12⟩ := newO X0 hx hZ hown (hw _ (List.mem_of_getElem? (i := 4) rfl)) (hw _ (List.mem_of_getElem? (i := 5) rfl)) (hw _ (List.mem_of_getElem? (i := 6) rfl)) e0 (g := (mkF m 40 #[.val (.int n), .val (.int c0), .val (.int c1), .val (.int c2)] [])) rfl (hb hby d1_40) (by decide) (by decide)
        obtain ⟨b12, g12⟩ : ∃ z, z = h0.size := ⟨_, rfl⟩
        rw [← g12] at A12 D12 st12
        have g_b12 : n0 ≤ b12 := Nat.le_trans (O0.1 ▸ O0.2.1) (Nat.le_of_eq g12.symm)
        have z_b12 : h0.size ≤ b12 := Nat.le_trans (Keep.refl h0 []).1 (Nat.le_of_eq g12.symm)
        have SF_b12 : Safe Z own_EL s.vm h0 b12 := Safe.new (Nat.le_of_eq g12.symm)
        have hk := Nat.le_trans hk E12.1
        have SF_b12 := Safe.ext E12 hC.1 SF_b12
        have hC := hC.trans (CHr.ext E12 hC.1)
        have F_value_b12 : Fld Z h12 b12 "java/lang/String" "value" "[B" .null := D12 (Or.inr (hw _ (List.mem_of_getElem? (i := 20) rfl))) (ty := (.array .byte)) (by decide)
        have F_coder_b12 : Fld Z h12 b12 "java/lang/String" "coder" "B" (.int (0 : Int32)) := D12 (Or.inr (hw _ (List.mem_of_getElem? (i := 21) rfl))) (ty := .byte) (by decide)
        have E_b12 : Exa Z h12 b12 "java/lang/String" := A12
        have O12 := O0.ext E12
        have KK12 : Keep h0 h12 [] := (Keep.refl h0 []).ext E12
        refine goS (n := 43) (Ls' := #[.val (.int n), .val (.int c0), .val (.int c1), .val (.int c2)]) (st' := [(.ref b12)]) st12 ?_
        refine goS (n := 44) (Ls' := #[.val (.int n), .val (.int c0), .val (.int c1), .val (.int c2)]) (st' := [(.ref b12), (.ref b12)]) (fun _ kz => XS.dup X12.here hx rfl (hb hby d1_43) rfl rfl kz) ?_
        refine goS (n := 45) (Ls' := #[.val (.int n), .val (.int c0), .val (.int c1), .val (.int c2)]) (st' := [(.int (2 : Int32)), (.ref b12), (.ref b12)]) (fun _ kz => XS.iconst X12.here hx rfl (hb hby d1_44) kz) ?_
        obtain ⟨T13, h13, k13, X13, e13, E13, A13, Ex13, st13⟩ := newPE X12 hx hZ (hw _ (List.mem_of_getElem? (i := 7) rfl)) e12 (g := (mkF m 45 #[.val (.int n), .val (.int c0), .val (.int c1), .val (.int c2)] [(.int (2 : Int32)), (.ref b12), (.ref b12)])) rfl (hb hby d1_45) rfl (by decide) (cap := 2) (by decide) (by decide) (by decide) (by decide) (ad := "[C") (by decide +kernel)
        obtain ⟨b13, g13⟩ : ∃ z, z = h12.size := ⟨_, rfl⟩
        rw [← g13] at A13 st13 Ex13
        have g_b13 : n0 ≤ b13 := Nat.le_trans (O12.1 ▸ O12.2.1) (Nat.le_of_eq g13.symm)
        have z_b13 : h0.size ≤ b13 := Nat.le_trans KK12.1 (Nat.le_of_eq g13.symm)
        have SF_b13 : Safe Z own_EL s.vm h12 b13 := Safe.new (Nat.le_of_eq g13.symm)
        have ne_b12_b13 : b12 ≠ b13 := Nat.ne_of_lt (Nat.lt_of_lt_of_le E_b12.lt (Nat.le_of_eq g13.symm))
        have hk := Nat.le_trans hk E13.1
        have SF_b12 := Safe.ext E13 hC.1 SF_b12
        have SF_b13 := Safe.ext E13 hC.1 SF_b13
        have hC := hC.trans (CHr.ext E13 hC.1)
        have F_value_b12 : Fld Z h13 b12 "java/lang/String" "value" "[B" .null := F_value_b12.ext E13
        have F_coder_b12 : Fld Z h13 b12 "java/lang/String" "coder" "B" (.int (0 : Int32)) := F_coder_b12.ext E13
        have E_b12 : Exa Z h13 b12 "java/lang/String" := E_b12.ext E13
        have E_b13 : Exa Z h13 b13 "[C" := Ex13
        have V_b13 : Arv Z h13 b13 k13 .char (2 : Int32) [(.int (0 : Int32)), (.int (0 : Int32))] (.int (0 : Int32)) := (Arv.new A13 (by decide)).pad (pad_rep [] (.int (0 : Int32)) 2)
        have O13 := O12.ext E13
        have KK13 : Keep h0 h13 [] := KK12.ext E13
        refine goS (n := 47) (Ls' := #[.val (.int n), .val (.int c0), .val (.int c1), .val (.int c2)]) (st' := [(.ref b13), (.ref b12), (.ref b12)]) st13 ?_
        refine goS (n := 48) (Ls' := #[.val (.int n), .val (.int c0), .val (.int c1), .val (.int c2)]) (st' := [(.ref b13), (.ref b13), (.ref b12), (.ref b12)]) (fun _ kz => XS.dup X13.here hx rfl (hb hby d1_47) rfl rfl kz) ?_
        refine goS (n := 49) (Ls' := #[.val (.int n), .val (.int c0), .val (.int c1), .val (.int c2)]) (st' := [(.int (0 : Int32)), (.ref b13), (.ref b13), (.ref b12), (.ref b12)]) (fun _ kz => XS.iconst X13.here hx rfl (hb hby d1_48) kz) ?_
        refine goS (n := 50) (Ls' := #[.val (.int n), .val (.int c0), .val (.int c1), .val (.int c2)]) (st' := [(.int c0), (.int (0 : Int32)), (.ref b13), (.ref b13), (.ref b12), (.ref b12)]) (fun _ kz => XS.iloadN X13.here hx rfl (hb hby d1_49) rfl kz) ?_
        obtain ⟨cl14, Ar14, q14, S14, Nn14, H14, G14⟩ := V_b13
        have hin14 : ¬ ((0 : Int32) < 0 ∨ cl14.slots.size ≤ ((0 : Int32)).toNatClampNeg) := inb_of S14 ⟨by decide, by decide⟩
        obtain ⟨T15, h15, X15, e15, W15, st15⟩ := stC X13 hx hZ e13 Ar14 (j := (0 : Int32)) hin14 (g := (mkF m 50 #[.val (.int n), .val (.int c0), .val (.int c1), .val (.int c2)] [(.int c0), (.int (0 : Int32)), (.ref b13), (.ref b13), (.ref b12), (.ref b12)])) rfl rfl (hb hby d1_50)
        rw [(own_narC _ hr0)] at W15
        have fz15 : fits .char (.int c0) = true := by have q := fits_nar_char c0; rw [(own_narC _ hr0)] at q; exact q
        have hk := Nat.le_trans hk (Keep.of_wr W15).1
        have sfw := SF_b13
        have SF_b12 := Safe.wr W15 sfw hC.1 SF_b12
        have SF_b13 := Safe.wr W15 sfw hC.1 SF_b13
        have hC := hC.trans (CHr.wr W15 sfw hC.1)
        have F_value_b12 : Fld Z h15 b12 "java/lang/String" "value" "[B" .null := F_value_b12.other W15 (Or.inl ne_b12_b13)
        have F_coder_b12 : Fld Z h15 b12 "java/lang/String" "coder" "B" (.int (0 : Int32)) := F_coder_b12.other W15 (Or.inl ne_b12_b13)
        have E_b12 : Exa Z h15 b12 "java/lang/String" := E_b12.wr W15
        have E_b13 : Exa Z h15 b13 "[C" := E_b13.wr W15
        have V_b13 : Arv Z h15 b13 k13 .char (2 : Int32) [(.int c0), (.int (0 : Int32))] (.int (0 : Int32)) := Arv.set Ar14 q14 S14 Nn14 H14 G14 fz15 W15 0 rfl (Nat.le_of_ble_eq_true rfl)
        have N15 := Fr.snoc X15 N0 g_b13
        have O15 := O13.wr W15 g_b13
        have KK15 : Keep h0 h15 [] := KK13.wr W15 (Or.inr z_b13)
        refine goS (n := 51) (Ls' := #[.val (.int n), .val (.int c0), .val (.int c1), .val (.int c2)]) (st' := [(.ref b13), (.ref b12), (.ref b12)]) st15 ?_
        refine goS (n := 52) (Ls' := #[.val (.int n), .val (.int c0), .val (.int c1), .val (.int c2)]) (st' := [(.ref b13), (.ref b13), (.ref b12), (.ref b12)]) (fun _ kz => XS.dup X15.here hx rfl (hb hby d1_51) rfl rfl kz) ?_
        refine goS (n := 53) (Ls' := #[.val (.int n), .val (.int c0), .val (.int c1), .val (.int c2)]) (st' := [(.int (1 : Int32)), (.ref b13), (.ref b13), (.ref b12), (.ref b12)]) (fun _ kz => XS.iconst X15.here hx rfl (hb hby d1_52) kz) ?_
        refine goS (n := 54) (Ls' := #[.val (.int n), .val (.int c0), .val (.int c1), .val (.int c2)]) (st' := [(.int c1), (.int (1 : Int32)), (.ref b13), (.ref b13), (.ref b12), (.ref b12)]) (fun _ kz => XS.iloadN X15.here hx rfl (hb hby d1_53) rfl kz) ?_
        obtain ⟨cl16, Ar16, q16, S16, Nn16, H16, G16⟩ := V_b13
        have hin16 : ¬ ((1 : Int32) < 0 ∨ cl16.slots.size ≤ ((1 : Int32)).toNatClampNeg) := inb_of S16 ⟨by decide, by decide⟩
        obtain ⟨T17, h17, X17, e17, W17, st17⟩ := stC X15 hx hZ e15 Ar16 (j := (1 : Int32)) hin16 (g := (mkF m 54 #[.val (.int n), .val (.int c0), .val (.int c1), .val (.int c2)] [(.int c1), (.int (1 : Int32)), (.ref b13), (.ref b13), (.ref b12), (.ref b12)])) rfl rfl (hb hby d1_54)
        rw [(own_narC _ hr1)] at W17
        have fz17 : fits .char (.int c1) = true := by have q := fits_nar_char c1; rw [(own_narC _ hr1)] at q; exact q
        have hk := Nat.le_trans hk (Keep.of_wr W17).1
        have sfw := SF_b13
        have SF_b12 := Safe.wr W17 sfw hC.1 SF_b12
        have SF_b13 := Safe.wr W17 sfw hC.1 SF_b13
        have hC := hC.trans (CHr.wr W17 sfw hC.1)
        have F_value_b12 : Fld Z h17 b12 "java/lang/String" "value" "[B" .null := F_value_b12.other W17 (Or.inl ne_b12_b13)
        have F_coder_b12 : Fld Z h17 b12 "java/lang/String" "coder" "B" (.int (0 : Int32)) := F_coder_b12.other W17 (Or.inl ne_b12_b13)
        have E_b12 : Exa Z h17 b12 "java/lang/String" := E_b12.wr W17
        have E_b13 : Exa Z h17 b13 "[C" := E_b13.wr W17
        have V_b13 : Arv Z h17 b13 k13 .char (2 : Int32) [(.int c0), (.int c1)] (.int (0 : Int32)) := Arv.set Ar16 q16 S16 Nn16 H16 G16 fz17 W17 1 rfl (Nat.le_of_ble_eq_true rfl)
        have N17 := Fr.snoc X17 N15 g_b13
        have O17 := O15.wr W17 g_b13
        have KK17 : Keep h0 h17 [] := KK15.wr W17 (Or.inr z_b13)
        refine goS (n := 55) (Ls' := #[.val (.int n), .val (.int c0), .val (.int c1), .val (.int c2)]) (st' := [(.ref b13), (.ref b12), (.ref b12)]) st17 ?_
        obtain ⟨vr18, _, ⟨T18, L18, k18, n18⟩, -, X18, ⟨Lc18, hQ18, l18, y18, z18⟩, st18⟩ := X17.specialBack hx (y := (⟨"java/lang/String", "<init>", "([C)V"⟩ : MethodName)) rfl hown (mvT hZ (hw _ (List.mem_of_getElem? (i := 8) rfl))) (mvT hZ (hw _ (List.mem_of_getElem? (i := 9) rfl))) (mvT hZ (hw _ (List.mem_of_getElem? (i := 10) rfl))) (by decide) (StrChars.Road.backV (W := 1) hZ (own_words hw) (kI := 4) (hw _ (List.mem_of_getElem? (i := 5) rfl)) (cs := [c0, c1]) (bs := [(c0).toInt8.toInt32, (c1).toInt8.toInt32]) (n := 2) g_b12 (O17.1 ▸ O17.2.1) E_b12 F_value_b12 F_coder_b12 V_b13 (S_CS.ext O17.2) hcs rfl rfl (by decide) (by decide) (by intro c hc; simp only [List.mem_cons, List.not_mem_nil, or_false] at hc; rcases hc with rfl | rfl <;> first | exact hr0 | exact hr1 | exact hr2) rfl (by decide) (by decide)) (g := (mkF m 55 #[.val (.int n), .val (.int c0), .val (.int c1), .val (.int c2)] [(.ref b13), (.ref b12), (.ref b12)])) rfl (by rw [hml]; rfl) (Steps.refl _) (a := b12) (argsL := [(.ref b13)]) (rest := [(.ref b12)]) (lenOf pd_1 rfl) rfl (by show 2 * 0 + _ ≤ _; exact Nat.le_of_eq rfl) (hb hby d1_55) (fun _ _ => ⟨rfl, e17, (Nat.le_of_ble_eq_true rfl), (Nat.le_of_ble_eq_true rfl)⟩)
        dsimp only [Pt.U, Pt.locs, Pt.cells, Pt.slots] at X18 l18 y18 z18 st18 hQ18
        subst l18 y18 z18
        obtain ⟨rfl, N18q, K18, -, F_coder_b12, t18, kt18, g_t18, zt18, -, F_value_b12, V_t18⟩ := hQ18
        have ne_b12_t18 : b12 ≠ t18 := Nat.ne_of_lt (Nat.lt_of_lt_of_le E_b12.lt zt18)
        have ne_b13_t18 : b13 ≠ t18 := Nat.ne_of_lt (Nat.lt_of_lt_of_le E_b13.lt zt18)
        have N18 := Fr.app N17 N18q
        have e18 : T18.heap = T18.heap := rfl
        have O18 := O17.keep K18 (allS g_b12 all0)
        have KK18 : Keep h0 T18.heap [] := KK17.trans K18 (allS (Or.inr z_b12) all0)
        have hk := Nat.le_trans hk K18.1
        have sfw : ∀ x ∈ [b12], Safe Z own_EL s.vm h17 x := (sfS SF_b12 sf0)
        have SF_b12 := Safe.keep K18 sfw hC.1 SF_b12
        have SF_b13 := Safe.keep K18 sfw hC.1 SF_b13
        have hC := hC.trans (CHr.keep K18 sfw hC.1)
        have E_b12 : Exa Z T18.heap b12 "java/lang/String" := E_b12.keep K18
        have E_b13 : Exa Z T18.heap b13 "[C" := E_b13.keep K18
        have V_b13 : Arv Z T18.heap b13 k13 .char (2 : Int32) [(.int c0), (.int c1)] (.int (0 : Int32)) := V_b13.keep K18 (ninS (Ne.symm ne_b12_b13) nin0)
        refine goT (n := 58) (Ls' := #[.val (.int n), .val (.int c0), .val (.int c1), .val (.int c2)]) (st' := [(.ref b12)]) st18 ?_
        exact goRetH X18 hx hlk hS (by rw [e18]; exact hk) hZ hEL (by rw [hh, e18]; exact hC) Bd.returns rfl (Or.inr (Or.inr (Or.inr (Or.inr ⟨rfl, rfl, rfl⟩)))) (hb hby d1_58) (by decide) (by decide) (by rw [e18]; exact ⟨b12, t18, _, rfl, N18, KK18, g_b12, z_b12, E_b12, F_value_b12, F_coder_b12, by rw [show (own_mk n c0 c1 c2) = _ from by unfold own_mk; rw [if_neg hc1, if_neg hc5, if_pos hc11]]; exact V_t18⟩)
      · refine goS (n := 59) (Ls' := #[.val (.int n), .val (.int c0), .val (.int c1), .val (.int c2)]) (st' := []) (fun _ kz => XS.icmpYes X0.here hx rfl (pc0 := 37) (pc' := 59) rfl (hb hby d1_37) rfl (feq hc11).2 (by decide) (by decide) kz) ?_
        obtain ⟨T19, h19, X19, e19, E19, A19, D19, -, st19⟩ := newO X0 hx hZ hown (hw _ (List.mem_of_getElem? (i := 4) rfl)) (hw _ (List.mem_of_getElem? (i := 5) rfl)) (hw _ (List.mem_of_getElem? (i := 6) rfl)) e0 (g := (mkF m 59 #[.val (.int n), .val (.int c0), .val (.int c1), .val (.int c2)] [])) rfl (hb hby d1_59) (by decide) (by decide)
        obtain ⟨b19, g19⟩ : ∃ z, z = h0.size := ⟨_, rfl⟩
        rw [← g19] at A19 D19 st19
        have g_b19 : n0 ≤ b19 := Nat.le_trans (O0.1 ▸ O0.2.1) (Nat.le_of_eq g19.symm)
        have z_b19 : h0.size ≤ b19 := Nat.le_trans (Keep.refl h0 []).1 (Nat.le_of_eq g19.symm)
        have SF_b19 : Safe Z own_EL s.vm h0 b19 := Safe.new (Nat.le_of_eq g19.symm)
        have hk := Nat.le_trans hk E19.1
        have SF_b19 := Safe.ext E19 hC.1 SF_b19
        have hC := hC.trans (CHr.ext E19 hC.1)
        have F_value_b19 : Fld Z h19 b19 "java/lang/String" "value" "[B" .null := D19 (Or.inr (hw _ (List.mem_of_getElem? (i := 20) rfl))) (ty := (.array .byte)) (by decide)
        have F_coder_b19 : Fld Z h19 b19 "java/lang/String" "coder" "B" (.int (0 : Int32)) := D19 (Or.inr (hw _ (List.mem_of_getElem? (i := 21) rfl))) (ty := .byte) (by decide)
        have E_b19 : Exa Z h19 b19 "java/lang/String" := A19
        have O19 := O0.ext E19
        have KK19 : Keep h0 h19 [] := (Keep.refl h0 []).ext E19
        refine goS (n := 62) (Ls' := #[.val (.int n), .val (.int c0), .val (.int c1), .val (.int c2)]) (st' := [(.ref b19)]) st19 ?_
        refine goS (n := 63) (Ls' := #[.val (.int n), .val (.int c0), .val (.int c1), .val (.int c2)]) (st' := [(.ref b19), (.ref b19)]) (fun _ kz => XS.dup X19.here hx rfl (hb hby d1_62) rfl rfl kz) ?_
        refine goS (n := 64) (Ls' := #[.val (.int n), .val (.int c0), .val (.int c1), .val (.int c2)]) (st' := [(.int (3 : Int32)), (.ref b19), (.ref b19)]) (fun _ kz => XS.iconst X19.here hx rfl (hb hby d1_63) kz) ?_
        obtain ⟨T20, h20, k20, X20, e20, E20, A20, Ex20, st20⟩ := newPE X19 hx hZ (hw _ (List.mem_of_getElem? (i := 7) rfl)) e19 (g := (mkF m 64 #[.val (.int n), .val (.int c0), .val (.int c1), .val (.int c2)] [(.int (3 : Int32)), (.ref b19), (.ref b19)])) rfl (hb hby d1_64) rfl (by decide) (cap := 3) (by decide) (by decide) (by decide) (by decide) (ad := "[C") (by decide +kernel)
        obtain ⟨b20, g20⟩ : ∃ z, z = h19.size := ⟨_, rfl⟩
        rw [← g20] at A20 st20 Ex20
        have g_b20 : n0 ≤ b20 := Nat.le_trans (O19.1 ▸ O19.2.1) (Nat.le_of_eq g20.symm)
        have z_b20 : h0.size ≤ b20 := Nat.le_trans KK19.1 (Nat.le_of_eq g20.symm)
        have SF_b20 : Safe Z own_EL s.vm h19 b20 := Safe.new (Nat.le_of_eq g20.symm)
        have ne_b19_b20 : b19 ≠ b20 := Nat.ne_of_lt (Nat.lt_of_lt_of_le E_b19.lt (Nat.le_of_eq g20.symm))
        have hk := Nat.le_trans hk E20.1
        have SF_b19 := Safe.ext E20 hC.1 SF_b19
        have SF_b20 := Safe.ext E20 hC.1 SF_b20
        have hC := hC.trans (CHr.ext E20 hC.1)
        have F_value_b19 : Fld Z h20 b19 "java/lang/String" "value" "[B" .null := F_value_b19.ext E20
        have F_coder_b19 : Fld Z h20 b19 "java/lang/String" "coder" "B" (.int (0 : Int32)) := F_coder_b19.ext E20
        have E_b19 : Exa Z h20 b19 "java/lang/String" := E_b19.ext E20
        have E_b20 : Exa Z h20 b20 "[C" := Ex20
        have V_b20 : Arv Z h20 b20 k20 .char (3 : Int32) [(.int (0 : Int32)), (.int (0 : Int32)), (.int (0 : Int32))] (.int (0 : Int32)) := (Arv.new A20 (by decide)).pad (pad_rep [] (.int (0 : Int32)) 3)
        have O20 := O19.ext E20
        have KK20 : Keep h0 h20 [] := KK19.ext E20
        refine goS (n := 66) (Ls' := #[.val (.int n), .val (.int c0), .val (.int c1), .val (.int c2)]) (st' := [(.ref b20), (.ref b19), (.ref b19)]) st20 ?_
        refine goS (n := 67) (Ls' := #[.val (.int n), .val (.int c0), .val (.int c1), .val (.int c2)]) (st' := [(.ref b20), (.ref b20), (.ref b19), (.ref b19)]) (fun _ kz => XS.dup X20.here hx rfl (hb hby d1_66) rfl rfl kz) ?_
        refine goS (n := 68) (Ls' := #[.val (.int n), .val (.int c0), .val (.int c1), .val (.int c2)]) (st' := [(.int (0 : Int32)), (.ref b20), (.ref b20), (.ref b19), (.ref b19)]) (fun _ kz => XS.iconst X20.here hx rfl (hb hby d1_67) kz) ?_
        refine goS (n := 69) (Ls' := #[.val (.int n), .val (.int c0), .val (.int c1), .val (.int c2)]) (st' := [(.int c0), (.int (0 : Int32)), (.ref b20), (.ref b20), (.ref b19), (.ref b19)]) (fun _ kz => XS.iloadN X20.here hx rfl (hb hby d1_68) rfl kz) ?_
        obtain ⟨cl21, Ar21, q21, S21, Nn21, H21, G21⟩ := V_b20
        have hin21 : ¬ ((0 : Int32) < 0 ∨ cl21.slots.size ≤ ((0 : Int32)).toNatClampNeg) := inb_of S21 ⟨by decide, by decide⟩
        obtain ⟨T22, h22, X22, e22, W22, st22⟩ := stC X20 hx hZ e20 Ar21 (j := (0 : Int32)) hin21 (g := (mkF m 69 #[.val (.int n), .val (.int c0), .val (.int c1), .val (.int c2)] [(.int c0), (.int (0 : Int32)), (.ref b20), (.ref b20), (.ref b19), (.ref b19)])) rfl rfl (hb hby d1_69)
        rw [(own_narC _ hr0)] at W22
        have fz22 : fits .char (.int c0) = true := by have q := fits_nar_char c0; rw [(own_narC _ hr0)] at q; exact q
        have hk := Nat.le_trans hk (Keep.of_wr W22).1
        have sfw := SF_b20
        have SF_b19 := Safe.wr W22 sfw hC.1 SF_b19
        have SF_b20 := Safe.wr W22 sfw hC.1 SF_b20
        have hC := hC.trans (CHr.wr W22 sfw hC.1)
        have F_value_b19 : Fld Z h22 b19 "java/lang/String" "value" "[B" .null := F_value_b19.other W22 (Or.inl ne_b19_b20)
        have F_coder_b19 : Fld Z h22 b19 "java/lang/String" "coder" "B" (.int (0 : Int32)) := F_coder_b19.other W22 (Or.inl ne_b19_b20)
        have E_b19 : Exa Z h22 b19 "java/lang/String" := E_b19.wr W22
        have E_b20 : Exa Z h22 b20 "[C" := E_b20.wr W22
        have V_b20 : Arv Z h22 b20 k20 .char (3 : Int32) [(.int c0), (.int (0 : Int32)), (.int (0 : Int32))] (.int (0 : Int32)) := Arv.set Ar21 q21 S21 Nn21 H21 G21 fz22 W22 0 rfl (Nat.le_of_ble_eq_true rfl)
        have N22 := Fr.snoc X22 N0 g_b20
        have O22 := O20.wr W22 g_b20
        have KK22 : Keep h0 h22 [] := KK20.wr W22 (Or.inr z_b20)
        refine goS (n := 70) (Ls' := #[.val (.int n), .val (.int c0), .val (.int c1), .val (.int c2)]) (st' := [(.ref b20), (.ref b19), (.ref b19)]) st22 ?_
        refine goS (n := 71) (Ls' := #[.val (.int n), .val (.int c0), .val (.int c1), .val (.int c2)]) (st' := [(.ref b20), (.ref b20), (.ref b19), (.ref b19)]) (fun _ kz => XS.dup X22.here hx rfl (hb hby d1_70) rfl rfl kz) ?_
        refine goS (n := 72) (Ls' := #[.val (.int n), .val (.int c0), .val (.int c1), .val (.int c2)]) (st' := [(.int (1 : Int32)), (.ref b20), (.ref b20), (.ref b19), (.ref b19)]) (fun _ kz => XS.iconst X22.here hx rfl (hb hby d1_71) kz) ?_
        refine goS (n := 73) (Ls' := #[.val (.int n), .val (.int c0), .val (.int c1), .val (.int c2)]) (st' := [(.int c1), (.int (1 : Int32)), (.ref b20), (.ref b20), (.ref b19), (.ref b19)]) (fun _ kz => XS.iloadN X22.here hx rfl (hb hby d1_72) rfl kz) ?_
        obtain ⟨cl23, Ar23, q23, S23, Nn23, H23, G23⟩ := V_b20
        have hin23 : ¬ ((1 : Int32) < 0 ∨ cl23.slots.size ≤ ((1 : Int32)).toNatClampNeg) := inb_of S23 ⟨by decide, by decide⟩
        obtain ⟨T24, h24, X24, e24, W24, st24⟩ := stC X22 hx hZ e22 Ar23 (j := (1 : Int32)) hin23 (g := (mkF m 73 #[.val (.int n), .val (.int c0), .val (.int c1), .val (.int c2)] [(.int c1), (.int (1 : Int32)), (.ref b20), (.ref b20), (.ref b19), (.ref b19)])) rfl rfl (hb hby d1_73)
        rw [(own_narC _ hr1)] at W24
        have fz24 : fits .char (.int c1) = true := by have q := fits_nar_char c1; rw [(own_narC _ hr1)] at q; exact q
        have hk := Nat.le_trans hk (Keep.of_wr W24).1
        have sfw := SF_b20
        have SF_b19 := Safe.wr W24 sfw hC.1 SF_b19
        have SF_b20 := Safe.wr W24 sfw hC.1 SF_b20
        have hC := hC.trans (CHr.wr W24 sfw hC.1)
        have F_value_b19 : Fld Z h24 b19 "java/lang/String" "value" "[B" .null := F_value_b19.other W24 (Or.inl ne_b19_b20)
        have F_coder_b19 : Fld Z h24 b19 "java/lang/String" "coder" "B" (.int (0 : Int32)) := F_coder_b19.other W24 (Or.inl ne_b19_b20)
        have E_b19 : Exa Z h24 b19 "java/lang/String" := E_b19.wr W24
        have E_b20 : Exa Z h24 b20 "[C" := E_b20.wr W24
        have V_b20 : Arv Z h24 b20 k20 .char (3 : Int32) [(.int c0), (.int c1), (.int (0 : Int32))] (.int (0 : Int32)) := Arv.set Ar23 q23 S23 Nn23 H23 G23 fz24 W24 1 rfl (Nat.le_of_ble_eq_true rfl)
        have N24 := Fr.snoc X24 N22 g_b20
        have O24 := O22.wr W24 g_b20
        have KK24 : Keep h0 h24 [] := KK22.wr W24 (Or.inr z_b20)
        refine goS (n := 74) (Ls' := #[.val (.int n), .val (.int c0), .val (.int c1), .val (.int c2)]) (st' := [(.ref b20), (.ref b19), (.ref b19)]) st24 ?_
        refine goS (n := 75) (Ls' := #[.val (.int n), .val (.int c0), .val (.int c1), .val (.int c2)]) (st' := [(.ref b20), (.ref b20), (.ref b19), (.ref b19)]) (fun _ kz => XS.dup X24.here hx rfl (hb hby d1_74) rfl rfl kz) ?_
        refine goS (n := 76) (Ls' := #[.val (.int n), .val (.int c0), .val (.int c1), .val (.int c2)]) (st' := [(.int (2 : Int32)), (.ref b20), (.ref b20), (.ref b19), (.ref b19)]) (fun _ kz => XS.iconst X24.here hx rfl (hb hby d1_75) kz) ?_
        refine goS (n := 77) (Ls' := #[.val (.int n), .val (.int c0), .val (.int c1), .val (.int c2)]) (st' := [(.int c2), (.int (2 : Int32)), (.ref b20), (.ref b20), (.ref b19), (.ref b19)]) (fun _ kz => XS.iloadN X24.here hx rfl (hb hby d1_76) rfl kz) ?_
        obtain ⟨cl25, Ar25, q25, S25, Nn25, H25, G25⟩ := V_b20
        have hin25 : ¬ ((2 : Int32) < 0 ∨ cl25.slots.size ≤ ((2 : Int32)).toNatClampNeg) := inb_of S25 ⟨by decide, by decide⟩
        obtain ⟨T26, h26, X26, e26, W26, st26⟩ := stC X24 hx hZ e24 Ar25 (j := (2 : Int32)) hin25 (g := (mkF m 77 #[.val (.int n), .val (.int c0), .val (.int c1), .val (.int c2)] [(.int c2), (.int (2 : Int32)), (.ref b20), (.ref b20), (.ref b19), (.ref b19)])) rfl rfl (hb hby d1_77)
        rw [(own_narC _ hr2)] at W26
        have fz26 : fits .char (.int c2) = true := by have q := fits_nar_char c2; rw [(own_narC _ hr2)] at q; exact q
        have hk := Nat.le_trans hk (Keep.of_wr W26).1
        have sfw := SF_b20
        have SF_b19 := Safe.wr W26 sfw hC.1 SF_b19
        have SF_b20 := Safe.wr W26 sfw hC.1 SF_b20
        have hC := hC.trans (CHr.wr W26 sfw hC.1)
        have F_value_b19 : Fld Z h26 b19 "java/lang/String" "value" "[B" .null := F_value_b19.other W26 (Or.inl ne_b19_b20)
        have F_coder_b19 : Fld Z h26 b19 "java/lang/String" "coder" "B" (.int (0 : Int32)) := F_coder_b19.other W26 (Or.inl ne_b19_b20)
        have E_b19 : Exa Z h26 b19 "java/lang/String" := E_b19.wr W26
        have E_b20 : Exa Z h26 b20 "[C" := E_b20.wr W26
        have V_b20 : Arv Z h26 b20 k20 .char (3 : Int32) [(.int c0), (.int c1), (.int c2)] (.int (0 : Int32)) := Arv.set Ar25 q25 S25 Nn25 H25 G25 fz26 W26 2 rfl (Nat.le_of_ble_eq_true rfl)
        have N26 := Fr.snoc X26 N24 g_b20
        have O26 := O24.wr W26 g_b20
        have KK26 : Keep h0 h26 [] := KK24.wr W26 (Or.inr z_b20)
        refine goS (n := 78) (Ls' := #[.val (.int n), .val (.int c0), .val (.int c1), .val (.int c2)]) (st' := [(.ref b20), (.ref b19), (.ref b19)]) st26 ?_
        obtain ⟨vr27, _, ⟨T27, L27, k27, n27⟩, -, X27, ⟨Lc27, hQ27, l27, y27, z27⟩, st27⟩ := X26.specialBack hx (y := (⟨"java/lang/String", "<init>", "([C)V"⟩ : MethodName)) rfl hown (mvT hZ (hw _ (List.mem_of_getElem? (i := 8) rfl))) (mvT hZ (hw _ (List.mem_of_getElem? (i := 9) rfl))) (mvT hZ (hw _ (List.mem_of_getElem? (i := 10) rfl))) (by decide) (StrChars.Road.backV (W := 1) hZ (own_words hw) (kI := 4) (hw _ (List.mem_of_getElem? (i := 5) rfl)) (cs := [c0, c1, c2]) (bs := [(c0).toInt8.toInt32, (c1).toInt8.toInt32, (c2).toInt8.toInt32]) (n := 3) g_b19 (O26.1 ▸ O26.2.1) E_b19 F_value_b19 F_coder_b19 V_b20 (S_CS.ext O26.2) hcs rfl rfl (by decide) (by decide) (by intro c hc; simp only [List.mem_cons, List.not_mem_nil, or_false] at hc; rcases hc with rfl | rfl | rfl <;> first | exact hr0 | exact hr1 | exact hr2) rfl (by decide) (by decide)) (g := (mkF m 78 #[.val (.int n), .val (.int c0), .val (.int c1), .val (.int c2)] [(.ref b20), (.ref b19), (.ref b19)])) rfl (by rw [hml]; rfl) (Steps.refl _) (a := b19) (argsL := [(.ref b20)]) (rest := [(.ref b19)]) (lenOf pd_1 rfl) rfl (by show 2 * 0 + _ ≤ _; exact Nat.le_of_eq rfl) (hb hby d1_78) (fun _ _ => ⟨rfl, e26, (Nat.le_of_ble_eq_true rfl), (Nat.le_of_ble_eq_true rfl)⟩)
        dsimp only [Pt.U, Pt.locs, Pt.cells, Pt.slots] at X27 l27 y27 z27 st27 hQ27
        subst l27 y27 z27
        obtain ⟨rfl, N27q, K27, -, F_coder_b19, t27, kt27, g_t27, zt27, -, F_value_b19, V_t27⟩ := hQ27
        have ne_b19_t27 : b19 ≠ t27 := Nat.ne_of_lt (Nat.lt_of_lt_of_le E_b19.lt zt27)
        have ne_b20_t27 : b20 ≠ t27 := Nat.ne_of_lt (Nat.lt_of_lt_of_le E_b20.lt zt27)
        have N27 := Fr.app N26 N27q
        have e27 : T27.heap = T27.heap := rfl
        have O27 := O26.keep K27 (allS g_b19 all0)
        have KK27 : Keep h0 T27.heap [] := KK26.trans K27 (allS (Or.inr z_b19) all0)
        have hk := Nat.le_trans hk K27.1
        have sfw : ∀ x ∈ [b19], Safe Z own_EL s.vm h26 x := (sfS SF_b19 sf0)
        have SF_b19 := Safe.keep K27 sfw hC.1 SF_b19
        have SF_b20 := Safe.keep K27 sfw hC.1 SF_b20
        have hC := hC.trans (CHr.keep K27 sfw hC.1)
        have E_b19 : Exa Z T27.heap b19 "java/lang/String" := E_b19.keep K27
        have E_b20 : Exa Z T27.heap b20 "[C" := E_b20.keep K27
        have V_b20 : Arv Z T27.heap b20 k20 .char (3 : Int32) [(.int c0), (.int c1), (.int c2)] (.int (0 : Int32)) := V_b20.keep K27 (ninS (Ne.symm ne_b19_b20) nin0)
        refine goT (n := 81) (Ls' := #[.val (.int n), .val (.int c0), .val (.int c1), .val (.int c2)]) (st' := [(.ref b19)]) st27 ?_
        exact goRetH X27 hx hlk hS (by rw [e27]; exact hk) hZ hEL (by rw [hh, e27]; exact hC) Bd.returns rfl (Or.inr (Or.inr (Or.inr (Or.inr ⟨rfl, rfl, rfl⟩)))) (hb hby d1_81) (by decide) (by decide) (by rw [e27]; exact ⟨b19, t27, _, rfl, N27, KK27, g_b19, z_b19, E_b19, F_value_b19, F_coder_b19, by rw [show (own_mk n c0 c1 c2) = _ from by unfold own_mk; rw [if_neg hc1, if_neg hc5, if_neg hc11]]; exact V_t27⟩)
theorem d7_0 : decode jdk_30_method_1_code 0 = .ok (.aload_n 0, 1) := by decide +kernel
theorem d7_1 : decode jdk_30_method_1_code 1 = .ok (.invokespecial 1, 3) := by decide +kernel
theorem d7_4 : decode jdk_30_method_1_code 4 = .ok (.return_, 1) := by decide +kernel
theorem pn_2 : plainName "java/lang/Record" = true := by first | (simp [plainName, overriddenIn]; done) | decide +kernel
theorem ef_rec (m : MethodId) (a : Addr) : entryFrame m #[(.ref a)] 1 = mkF m 0 #[.val (.ref a)] [] := by first | (simp [entryFrame, mkF, argsToLocals, Value.category]; done) | rfl
abbrev R_rec : Room := { frames := 1, cells := 0, slots := 0, locals := 12 }
def Q_rec (Z : State) (a : Addr) (h0 : Heap) (n0 : Nat) (v : Option Value) (h : Heap) (L : List Loc) : Prop := v = none ∧ Fr n0 L ∧ h = h0
set_option maxRecDepth 65536 in
set_option maxHeartbeats 40000000 in
theorem rm_rec (l : Launch) (Z : State) (a0 : Array Value) (hw : ∀ d ∈ tables_1, d.before a0 Z = true) (ws : List Jvm.Cond) (a : Addr) (h0 : Heap) (n0 : Nat) (O0 : Old Z n0 h0) :
    MetFree l (⟨"java/lang/Record", "<init>", "()V"⟩ : MethodName) (head1 (Jvm.Cond.code (⟨"java/lang/Record", "<init>", "()V"⟩ : MethodName) jdk_30_method_1_code 1 none :: ws) R_rec) (fun as_ U => as_ = #[(.ref a)] ∧ Z.Warmed39 U.vm ∧ U.heap = h0) (fun _ _ _ _ _ => True) (fun _ U o U' => ∃ v L, o = .returned v ∧ Q_rec Z a h0 n0 v U'.heap L ∧ FrameEnd U o U' L R_rec.cells R_rec.slots) := by
  refine MetFree.of_bodySF (plainFor_of_name pn_2) hisR ?_
  intro p e s m args below meth c s₁ Bd hml0 hP hK
  obtain ⟨rfl, hZ, hh⟩ := hP
  have hx := Bd.exec
  have hby := Bd.bytes
  have hml : c.maxLocals = 1 := hml0
  have hown : s.vm.findClass "java/lang/Record" = some m.cls := findClass_of_methodNamed Bd.named
  have hnm := (name_of_methodNamed Bd.named Bd.method).1
  have hlk : meth.locks = false := BodyLoose.notSynchronized Bd
  have X0 : Stand p l e R_rec s m #[(.ref a)] below meth c s₁ [] 0 0 := Stand.of_body Bd
  have e0 : s₁.heap = h0 := by rw [← hh, Bd.state]; rfl
  have N0 := Fr.nil n0
  refine enter (P := PQ s R_rec.cells R_rec.slots (Q_rec Z a h0 n0)) (ef_rec m a) ?_
  refine goS (n := 1) (Ls' := #[.val (.ref a)]) (st' := [(.ref a)]) (fun _ kz => XS.aloadN X0.here hx rfl (hb hby d7_0) rfl rfl kz) ?_
  obtain ⟨T1, X1, e1, st1⟩ := initO X0 hx hZ hown (hw _ (List.mem_of_getElem? (i := 43) rfl)) (hw _ (List.mem_of_getElem? (i := 16) rfl)) (hw _ (List.mem_of_getElem? (i := 17) rfl)) e0 (g := (mkF m 1 #[.val (.ref a)] [(.ref a)])) rfl (by rw [hml]; rfl) rfl (hb hby d7_1) (by decide) (W := 0) (by show 2 * 0 + _ ≤ _; exact Nat.le_of_eq rfl) (by decide)
  refine goS (n := 4) (Ls' := #[.val (.ref a)]) (st' := []) st1 ?_
  exact goRetV X1 hx hlk Bd.returns (hb hby d7_4) (by decide) (by decide) (by rw [e1]; exact ⟨rfl, N0, rfl⟩)
theorem d6_0 : decode prog_18_method_1_code 0 = .ok (.aload_n 0, 1) := by decide +kernel
theorem d6_1 : decode prog_18_method_1_code 1 = .ok (.invokespecial 1, 3) := by decide +kernel
theorem pd_2 : parseMethodDescriptor "()V" = some ⟨[], none⟩ := by decide +kernel
theorem d6_4 : decode prog_18_method_1_code 4 = .ok (.aload_n 0, 1) := by decide +kernel
theorem d6_5 : decode prog_18_method_1_code 5 = .ok (.aload_n 1, 1) := by decide +kernel
theorem d6_6 : decode prog_18_method_1_code 6 = .ok (.putfield 7, 3) := by decide +kernel
theorem d6_9 : decode prog_18_method_1_code 9 = .ok (.aload_n 0, 1) := by decide +kernel
theorem d6_10 : decode prog_18_method_1_code 10 = .ok (.aload_n 2, 1) := by decide +kernel
theorem d6_11 : decode prog_18_method_1_code 11 = .ok (.putfield 13, 3) := by decide +kernel
theorem d6_14 : decode prog_18_method_1_code 14 = .ok (.return_, 1) := by decide +kernel
theorem pn_3 : plainName "com/example/claimgate/claimgate/NamePattern" = true := by first | (simp [plainName, overriddenIn]; done) | decide +kernel
theorem ef_init (m : MethodId) (a : Addr) (w : Addr) (x : Addr) : entryFrame m #[(.ref a), (.ref w), (.ref x)] 3 = mkF m 0 #[.val (.ref a), .val (.ref w), .val (.ref x)] [] := by first | (simp [entryFrame, mkF, argsToLocals, Value.category]; done) | rfl
abbrev R_init : Room := { frames := 2, cells := 0, slots := 0, locals := 24 }
def Q_init (Z : State) (a : Addr) (w : Addr) (x : Addr) (h0 : Heap) (n0 : Nat) (v : Option Value) (h : Heap) (L : List Loc) : Prop := v = none ∧ Fr n0 L ∧ Keep h0 h [a] ∧ Fld Z h a "com/example/claimgate/claimgate/NamePattern" "kind" "Lcom/example/claimgate/claimgate/NamePattern$Kind;" (.ref w) ∧ Fld Z h a "com/example/claimgate/claimgate/NamePattern" "text" "Ljava/lang/String;" (.ref x)
set_option maxRecDepth 65536 in
set_option maxHeartbeats 40000000 in
theorem rm_init (l : Launch) (Z : State) (a0 : Array Value) (hw : ∀ d ∈ tables_1, d.before a0 Z = true) (ws : List Jvm.Cond) (a : Addr) (w : Addr) (x : Addr) (h0 : Heap) (n0 : Nat) (O0 : Old Z n0 h0) (E_a : Exa Z h0 a "com/example/claimgate/claimgate/NamePattern") (F_kind_a : Fld Z h0 a "com/example/claimgate/claimgate/NamePattern" "kind" "Lcom/example/claimgate/claimgate/NamePattern$Kind;" .null) (F_text_a : Fld Z h0 a "com/example/claimgate/claimgate/NamePattern" "text" "Ljava/lang/String;" .null) (g_a : n0 ≤ a) :
    MetFree l (⟨"com/example/claimgate/claimgate/NamePattern", "<init>", "(Lcom/example/claimgate/claimgate/NamePattern$Kind;Ljava/lang/String;)V"⟩ : MethodName) (head1 (Jvm.Cond.code (⟨"com/example/claimgate/claimgate/NamePattern", "<init>", "(Lcom/example/claimgate/claimgate/NamePattern$Kind;Ljava/lang/String;)V"⟩ : MethodName) prog_18_method_1_code 3 none :: ws) R_init) (fun as_ U => as_ = #[(.ref a), (.ref w), (.ref x)] ∧ Z.Warmed39 U.vm ∧ U.heap = h0) (fun _ _ _ _ _ => True) (fun _ U o U' => ∃ v L, o = .returned v ∧ Q_init Z a w x h0 n0 v U'.heap L ∧ FrameEnd U o U' L R_init.cells R_init.slots) := by
  refine MetFree.of_bodySF (plainFor_of_name pn_3) hisR ?_
  intro p e s m args below meth c s₁ Bd hml0 hP hK
  obtain ⟨rfl, hZ, hh⟩ := hP
  have hx := Bd.exec
  have hby := Bd.bytes
  have hml : c.maxLocals = 3 := hml0
  have hown : s.vm.findClass "com/example/claimgate/claimgate/NamePattern" = some m.cls := findClass_of_methodNamed Bd.named
  have hnm := (name_of_methodNamed Bd.named Bd.method).1
  have hlk : meth.locks = false := BodyLoose.notSynchronized Bd
  have X0 : Stand p l e R_init s m #[(.ref a), (.ref w), (.ref x)] below meth c s₁ [] 0 0 := Stand.of_body Bd
  have e0 : s₁.heap = h0 := by rw [← hh, Bd.state]; rfl
  have N0 := Fr.nil n0
  refine enter (P := PQ s R_init.cells R_init.slots (Q_init Z a w x h0 n0)) (ef_init m a w x) ?_
  refine goS (n := 1) (Ls' := #[.val (.ref a), .val (.ref w), .val (.ref x)]) (st' := [(.ref a)]) (fun _ kz => XS.aloadN X0.here hx rfl (hb hby d6_0) rfl rfl kz) ?_
  obtain ⟨vr1, _, ⟨T1, L1, k1, n1⟩, -, X1, ⟨Lc1, hQ1, l1, y1, z1⟩, st1⟩ := X0.specialBack hx (y := (⟨"java/lang/Record", "<init>", "()V"⟩ : MethodName)) rfl hown (mvT hZ (hw _ (List.mem_of_getElem? (i := 38) rfl))) (mvT hZ (hw _ (List.mem_of_getElem? (i := 39) rfl))) (mvT hZ (hw _ (List.mem_of_getElem? (i := 42) rfl))) (by decide) (backOf (W := 0) (rm_rec l Z a0 hw [] a h0 n0 O0) hZ (hw _ (List.mem_of_getElem? (i := 42) rfl)) (hw _ (List.mem_of_getElem? (i := 41) rfl)) (by decide) (by decide)) (g := (mkF m 1 #[.val (.ref a), .val (.ref w), .val (.ref x)] [(.ref a)])) rfl (by rw [hml]; rfl) (Steps.refl _) (a := a) (argsL := []) (rest := []) (lenOf pd_2 rfl) rfl (by show 2 * 0 + _ ≤ _; exact Nat.le_of_eq rfl) (hb hby d6_1) (fun _ _ => ⟨rfl, e0, (Nat.le_of_ble_eq_true rfl), (Nat.le_of_ble_eq_true rfl)⟩)
  dsimp only [Pt.U, Pt.locs, Pt.cells, Pt.slots] at X1 l1 y1 z1 st1 hQ1
  subst l1 y1 z1
  obtain ⟨rfl, N1q, e1⟩ := hQ1
  have N1 := Fr.app N0 N1q
  refine goT (n := 4) (Ls' := #[.val (.ref a), .val (.ref w), .val (.ref x)]) (st' := []) st1 ?_
  refine goS (n := 5) (Ls' := #[.val (.ref a), .val (.ref w), .val (.ref x)]) (st' := [(.ref a)]) (fun _ kz => XS.aloadN X1.here hx rfl (hb hby d6_4) rfl rfl kz) ?_
  refine goS (n := 6) (Ls' := #[.val (.ref a), .val (.ref w), .val (.ref x)]) (st' := [(.ref w), (.ref a)]) (fun _ kz => XS.aloadN X1.here hx rfl (hb hby d6_5) rfl rfl kz) ?_
  obtain ⟨T2, h2, X2, e2, W2, st2⟩ := putF X1 hx hZ hown (host := "") (Or.inl (hw _ (List.mem_of_getElem? (i := 44) rfl))) Via.refl e1 F_kind_a E_a (Or.inr ⟨(hw _ (List.mem_of_getElem? (i := 45) rfl)), rfl, hnm⟩) (hw _ (List.mem_of_getElem? (i := 31) rfl)) (ty := (.object "com/example/claimgate/claimgate/NamePattern$Kind")) (v := (.ref w)) (by decide) rfl rfl (g := (mkF m 6 #[.val (.ref a), .val (.ref w), .val (.ref x)] [(.ref w), (.ref a)])) rfl rfl (hb hby d6_6)
  have Fn2 : Fld Z h2 a "com/example/claimgate/claimgate/NamePattern" "kind" "Lcom/example/claimgate/claimgate/NamePattern$Kind;" (.ref w) := F_kind_a.same W2
  have E_a : Exa Z h2 a "com/example/claimgate/claimgate/NamePattern" := E_a.wr W2
  have F_text_a : Fld Z h2 a "com/example/claimgate/claimgate/NamePattern" "text" "Ljava/lang/String;" .null := F_text_a.other W2 (Or.inr (slot_ne (Or.inr (hw _ (List.mem_of_getElem? (i := 47) rfl))) (Or.inr (hw _ (List.mem_of_getElem? (i := 45) rfl))) (by decide) (t := (.object "java/lang/String")) (t' := (.object "com/example/claimgate/claimgate/NamePattern$Kind")) (by decide) (by decide)))
  have F_kind_a := Fn2
  have N2 := Fr.snoc X2 N1 g_a
  have O2 := O0.wr W2 g_a
  have KK2 : Keep h0 h2 [a] := (Keep.refl h0 [a]).wr W2 (Or.inl (List.mem_of_getElem? (i := 0) rfl))
  refine goS (n := 9) (Ls' := #[.val (.ref a), .val (.ref w), .val (.ref x)]) (st' := []) st2 ?_
  refine goS (n := 10) (Ls' := #[.val (.ref a), .val (.ref w), .val (.ref x)]) (st' := [(.ref a)]) (fun _ kz => XS.aloadN X2.here hx rfl (hb hby d6_9) rfl rfl kz) ?_
  refine goS (n := 11) (Ls' := #[.val (.ref a), .val (.ref w), .val (.ref x)]) (st' := [(.ref x), (.ref a)]) (fun _ kz => XS.aloadN X2.here hx rfl (hb hby d6_10) rfl rfl kz) ?_
  obtain ⟨T3, h3, X3, e3, W3, st3⟩ := putF X2 hx hZ hown (host := "") (Or.inl (hw _ (List.mem_of_getElem? (i := 46) rfl))) Via.refl e2 F_text_a E_a (Or.inr ⟨(hw _ (List.mem_of_getElem? (i := 47) rfl)), rfl, hnm⟩) (hw _ (List.mem_of_getElem? (i := 31) rfl)) (ty := (.object "java/lang/String")) (v := (.ref x)) (by decide) rfl rfl (g := (mkF m 11 #[.val (.ref a), .val (.ref w), .val (.ref x)] [(.ref x), (.ref a)])) rfl rfl (hb hby d6_11)
  have Fn3 : Fld Z h3 a "com/example/claimgate/claimgate/NamePattern" "text" "Ljava/lang/String;" (.ref x) := F_text_a.same W3
  have E_a : Exa Z h3 a "com/example/claimgate/claimgate/NamePattern" := E_a.wr W3
  have F_kind_a : Fld Z h3 a "com/example/claimgate/claimgate/NamePattern" "kind" "Lcom/example/claimgate/claimgate/NamePattern$Kind;" (.ref w) := F_kind_a.other W3 (Or.inr (slot_ne (Or.inr (hw _ (List.mem_of_getElem? (i := 45) rfl))) (Or.inr (hw _ (List.mem_of_getElem? (i := 47) rfl))) (by decide) (t := (.object "com/example/claimgate/claimgate/NamePattern$Kind")) (t' := (.object "java/lang/String")) (by decide) (by decide)))
  have F_text_a := Fn3
  have N3 := Fr.snoc X3 N2 g_a
  have O3 := O2.wr W3 g_a
  have KK3 : Keep h0 h3 [a] := KK2.wr W3 (Or.inl (List.mem_of_getElem? (i := 0) rfl))
  refine goS (n := 14) (Ls' := #[.val (.ref a), .val (.ref w), .val (.ref x)]) (st' := []) st3 ?_
  exact goRetV X3 hx hlk Bd.returns (hb hby d6_14) (by decide) (by decide) (by rw [e3]; exact ⟨rfl, N3, KK3, F_kind_a, F_text_a⟩)
theorem d5_0 : decode prog_18_method_3_code 0 = .ok (.new 8, 3) := by decide +kernel
theorem d5_3 : decode prog_18_method_3_code 3 = .ok (.dup, 1) := by decide +kernel
theorem d5_4 : decode prog_18_method_3_code 4 = .ok (.getstatic 65, 3) := by decide +kernel
theorem d5_7 : decode prog_18_method_3_code 7 = .ok (.aload_n 0, 1) := by decide +kernel
theorem d5_8 : decode prog_18_method_3_code 8 = .ok (.invokespecial 53, 3) := by decide +kernel
theorem pd_3 : parseMethodDescriptor "(Lcom/example/claimgate/claimgate/NamePattern$Kind;Ljava/lang/String;)V" = some ⟨[(.object "com/example/claimgate/claimgate/NamePattern$Kind"), (.object "java/lang/String")], none⟩ := by decide +kernel
theorem d5_11 : decode prog_18_method_3_code 11 = .ok (.areturn, 1) := by decide +kernel
theorem ef_exactly (m : MethodId) (x : Addr) : entryFrame m #[(.ref x)] 1 = mkF m 0 #[.val (.ref x)] [] := by first | (simp [entryFrame, mkF, argsToLocals, Value.category]; done) | rfl
abbrev R_exactly : Room := { frames := 3, cells := 1, slots := 2, locals := 39 }
def Q_exactly (Z : State) (x : Addr) (wE : Addr) (h0 : Heap) (n0 : Nat) (v : Option Value) (h : Heap) (L : List Loc) : Prop := ∃ a : Addr, v = some (.ref a) ∧ Fr n0 L ∧ Keep h0 h [] ∧ n0 ≤ a ∧ h0.size ≤ a ∧ Exa Z h a "com/example/claimgate/claimgate/NamePattern" ∧ Fld Z h a "com/example/claimgate/claimgate/NamePattern" "kind" "Lcom/example/claimgate/claimgate/NamePattern$Kind;" (.ref wE) ∧ Fld Z h a "com/example/claimgate/claimgate/NamePattern" "text" "Ljava/lang/String;" (.ref x)
set_option maxRecDepth 65536 in
set_option maxHeartbeats 40000000 in
theorem rm_exactly (l : Launch) (Z : State) (a0 : Array Value) (hw : ∀ d ∈ tables_1, d.before a0 Z = true) (ws : List Jvm.Cond) (x : Addr) (wE : Addr) (h0 : Heap) (n0 : Nat) (O0 : Old Z n0 h0) (S_EXACT : Sta Z Z.heap "com/example/claimgate/claimgate/NamePattern$Kind" "EXACT" "Lcom/example/claimgate/claimgate/NamePattern$Kind;" (.ref wE)) :
    MetFree l (⟨"com/example/claimgate/claimgate/NamePattern", "exactly", "(Ljava/lang/String;)Lcom/example/claimgate/claimgate/NamePattern;"⟩ : MethodName) (head1 (Jvm.Cond.code (⟨"com/example/claimgate/claimgate/NamePattern", "exactly", "(Ljava/lang/String;)Lcom/example/claimgate/claimgate/NamePattern;"⟩ : MethodName) prog_18_method_3_code 1 (some (.object "com/example/claimgate/claimgate/NamePattern")) :: ws) R_exactly) (fun as_ U => as_ = #[(.ref x)] ∧ Z.Warmed39 U.vm ∧ U.heap = h0) (fun _ _ _ _ _ => True) (fun _ U o U' => ∃ v L, o = .returned v ∧ Q_exactly Z x wE h0 n0 v U'.heap L ∧ FrameEnd U o U' L R_exactly.cells R_exactly.slots) := by
  refine MetFree.of_bodySF (plainFor_of_name pn_3) hisR ?_
  intro p e s m args below meth c s₁ Bd hml0 hP hK
  obtain ⟨rfl, hZ, hh⟩ := hP
  have hx := Bd.exec
  have hby := Bd.bytes
  have hml : c.maxLocals = 1 := hml0
  have hown : s.vm.findClass "com/example/claimgate/claimgate/NamePattern" = some m.cls := findClass_of_methodNamed Bd.named
  have hnm := (name_of_methodNamed Bd.named Bd.method).1
  have hlk : meth.locks = false := BodyLoose.notSynchronized Bd
  have X0 : Stand p l e R_exactly s m #[(.ref x)] below meth c s₁ [] 0 0 := Stand.of_body Bd
  have e0 : s₁.heap = h0 := by rw [← hh, Bd.state]; rfl
  have N0 := Fr.nil n0
  refine enter (P := PQ s R_exactly.cells R_exactly.slots (Q_exactly Z x wE h0 n0)) (ef_exactly m x) ?_
  obtain ⟨T1, h1, X1, e1, E1, A1, D1, -, st1⟩ := newO X0 hx hZ hown (hw _ (List.mem_of_getElem? (i := 30) rfl)) (hw _ (List.mem_of_getElem? (i := 31) rfl)) (hw _ (List.mem_of_getElem? (i := 28) rfl)) e0 (g := (mkF m 0 #[.val (.ref x)] [])) rfl (hb hby d5_0) (by decide) (by decide)
  obtain ⟨b1, g1⟩ : ∃ z, z = h0.size := ⟨_, rfl⟩
  rw [← g1] at A1 D1 st1
  have g_b1 : n0 ≤ b1 := Nat.le_trans (O0.1 ▸ O0.2.1) (Nat.le_of_eq g1.symm)
  have z_b1 : h0.size ≤ b1 := Nat.le_trans (Keep.refl h0 []).1 (Nat.le_of_eq g1.symm)
  have F_kind_b1 : Fld Z h1 b1 "com/example/claimgate/claimgate/NamePattern" "kind" "Lcom/example/claimgate/claimgate/NamePattern$Kind;" .null := D1 (Or.inr (hw _ (List.mem_of_getElem? (i := 45) rfl))) (ty := (.object "com/example/claimgate/claimgate/NamePattern$Kind")) (by decide)
  have F_text_b1 : Fld Z h1 b1 "com/example/claimgate/claimgate/NamePattern" "text" "Ljava/lang/String;" .null := D1 (Or.inr (hw _ (List.mem_of_getElem? (i := 47) rfl))) (ty := (.object "java/lang/String")) (by decide)
  have E_b1 : Exa Z h1 b1 "com/example/claimgate/claimgate/NamePattern" := A1
  have O1 := O0.ext E1
  have KK1 : Keep h0 h1 [] := (Keep.refl h0 []).ext E1
  refine goS (n := 3) (Ls' := #[.val (.ref x)]) (st' := [(.ref b1)]) st1 ?_
  refine goS (n := 4) (Ls' := #[.val (.ref x)]) (st' := [(.ref b1), (.ref b1)]) (fun _ kz => XS.dup X1.here hx rfl (hb hby d5_3) rfl rfl kz) ?_
  obtain ⟨T2, X2, e2, st2⟩ := getS2 X1 hx hZ hown (host := "") (Or.inl (hw _ (List.mem_of_getElem? (i := 32) rfl))) Via.refl e1 (S_EXACT.ext O1.2) (g := (mkF m 4 #[.val (.ref x)] [(.ref b1), (.ref b1)])) rfl (hb hby d5_4)
  refine goS (n := 7) (Ls' := #[.val (.ref x)]) (st' := [(.ref wE), (.ref b1), (.ref b1)]) st2 ?_
  refine goS (n := 8) (Ls' := #[.val (.ref x)]) (st' := [(.ref x), (.ref wE), (.ref b1), (.ref b1)]) (fun _ kz => XS.aloadN X2.here hx rfl (hb hby d5_7) rfl rfl kz) ?_
  obtain ⟨vr3, _, ⟨T3, L3, k3, n3⟩, -, X3, ⟨Lc3, hQ3, l3, y3, z3⟩, st3⟩ := X2.specialBack hx (y := (⟨"com/example/claimgate/claimgate/NamePattern", "<init>", "(Lcom/example/claimgate/claimgate/NamePattern$Kind;Ljava/lang/String;)V"⟩ : MethodName)) rfl hown (mvT hZ (hw _ (List.mem_of_getElem? (i := 35) rfl))) (mvT hZ (hw _ (List.mem_of_getElem? (i := 36) rfl))) (mvT hZ (hw _ (List.mem_of_getElem? (i := 37) rfl))) (by decide) (backOf (W := 1) (rm_init l Z a0 hw [] b1 wE x h1 n0 O1 E_b1 F_kind_b1 F_text_b1 g_b1) hZ (hw _ (List.mem_of_getElem? (i := 37) rfl)) (hw _ (List.mem_of_getElem? (i := 28) rfl)) (by decide) (by decide)) (g := (mkF m 8 #[.val (.ref x)] [(.ref x), (.ref wE), (.ref b1), (.ref b1)])) rfl (by rw [hml]; rfl) (Steps.refl _) (a := b1) (argsL := [(.ref wE), (.ref x)]) (rest := [(.ref b1)]) (lenOf pd_3 rfl) rfl (by show 2 * 0 + _ ≤ _; exact Nat.le_of_eq rfl) (hb hby d5_8) (fun _ _ => ⟨rfl, e2, (Nat.le_of_ble_eq_true rfl), (Nat.le_of_ble_eq_true rfl)⟩)
  dsimp only [Pt.U, Pt.locs, Pt.cells, Pt.slots] at X3 l3 y3 z3 st3 hQ3
  subst l3 y3 z3
  obtain ⟨rfl, N3q, K3, F_kind_b1, F_text_b1⟩ := hQ3
  have N3 := Fr.app N0 N3q
  have e3 : T3.heap = T3.heap := rfl
  have O3 := O1.keep K3 (allS g_b1 all0)
  have KK3 : Keep h0 T3.heap [] := KK1.trans K3 (allS (Or.inr z_b1) all0)
  have E_b1 : Exa Z T3.heap b1 "com/example/claimgate/claimgate/NamePattern" := E_b1.keep K3
  refine goT (n := 11) (Ls' := #[.val (.ref x)]) (st' := [(.ref b1)]) st3 ?_
  exact goRetA X3 hx hlk Bd.returns rfl rfl (hb hby d5_11) (by decide) (by decide) (by rw [e3]; exact ⟨b1, rfl, N3, KK3, g_b1, z_b1, E_b1, F_kind_b1, F_text_b1⟩)
theorem d8_0 : decode prog_18_method_8_code 0 = .ok (.aload_n 0, 1) := by decide +kernel
theorem d8_1 : decode prog_18_method_8_code 1 = .ok (.getfield 7, 3) := by decide +kernel
theorem d8_4 : decode prog_18_method_8_code 4 = .ok (.areturn, 1) := by decide +kernel
theorem ef_gkind (m : MethodId) (a : Addr) : entryFrame m #[(.ref a)] 1 = mkF m 0 #[.val (.ref a)] [] := by first | (simp [entryFrame, mkF, argsToLocals, Value.category]; done) | rfl
abbrev R_gkind : Room := { frames := 0, cells := 0, slots := 0, locals := 0 }
def Q_gkind (Z : State) (a : Addr) (r : Addr) (h0 : Heap) (n0 : Nat) (v : Option Value) (h : Heap) (L : List Loc) : Prop := v = some (.ref r) ∧ Fr n0 L ∧ h = h0
set_option maxRecDepth 65536 in
set_option maxHeartbeats 40000000 in
theorem rm_gkind (l : Launch) (Z : State) (a0 : Array Value) (hw : ∀ d ∈ tables_1, d.before a0 Z = true) (ws : List Jvm.Cond) (a : Addr) (r : Addr) (h0 : Heap) (n0 : Nat) (O0 : Old Z n0 h0) (F0 : Fld Z h0 a "com/example/claimgate/claimgate/NamePattern" "kind" "Lcom/example/claimgate/claimgate/NamePattern$Kind;" (.ref r)) :
    MetFree l (⟨"com/example/claimgate/claimgate/NamePattern", "kind", "()Lcom/example/claimgate/claimgate/NamePattern$Kind;"⟩ : MethodName) (head1 (Jvm.Cond.code (⟨"com/example/claimgate/claimgate/NamePattern", "kind", "()Lcom/example/claimgate/claimgate/NamePattern$Kind;"⟩ : MethodName) prog_18_method_8_code 1 (some (.object "com/example/claimgate/claimgate/NamePattern$Kind")) :: ws) R_gkind) (fun as_ U => as_ = #[(.ref a)] ∧ Z.Warmed39 U.vm ∧ U.heap = h0) (fun _ _ _ _ _ => True) (fun _ U o U' => ∃ v L, o = .returned v ∧ Q_gkind Z a r h0 n0 v U'.heap L ∧ FrameEnd U o U' L R_gkind.cells R_gkind.slots) := by
  refine MetFree.of_bodySF (plainFor_of_name pn_3) hisR ?_
  intro p e s m args below meth c s₁ Bd hml0 hP hK
  obtain ⟨rfl, hZ, hh⟩ := hP
  have hx := Bd.exec
  have hby := Bd.bytes
  have hml : c.maxLocals = 1 := hml0
  have hown : s.vm.findClass "com/example/claimgate/claimgate/NamePattern" = some m.cls := findClass_of_methodNamed Bd.named
  have hnm := (name_of_methodNamed Bd.named Bd.method).1
  have hlk : meth.locks = false := BodyLoose.notSynchronized Bd
  have X0 : Stand p l e R_gkind s m #[(.ref a)] below meth c s₁ [] 0 0 := Stand.of_body Bd
  have e0 : s₁.heap = h0 := by rw [← hh, Bd.state]; rfl
  have N0 := Fr.nil n0
  refine enter (P := PQ s R_gkind.cells R_gkind.slots (Q_gkind Z a r h0 n0)) (ef_gkind m a) ?_
  refine goS (n := 1) (Ls' := #[.val (.ref a)]) (st' := [(.ref a)]) (fun _ kz => XS.aloadN X0.here hx rfl (hb hby d8_0) rfl rfl kz) ?_
  obtain ⟨T1, X1, e1, st1⟩ := getF X0 hx hZ hown (host := "") (Or.inl (hw _ (List.mem_of_getElem? (i := 44) rfl))) Via.refl e0 F0 (g := (mkF m 1 #[.val (.ref a)] [(.ref a)])) rfl rfl (hb hby d8_1)
  refine goS (n := 4) (Ls' := #[.val (.ref a)]) (st' := [(.ref r)]) st1 ?_
  exact goRetA X1 hx hlk Bd.returns rfl rfl (hb hby d8_4) (by decide) (by decide) (by rw [e1]; exact ⟨rfl, N0, rfl⟩)
theorem d9_0 : decode prog_18_method_9_code 0 = .ok (.aload_n 0, 1) := by decide +kernel
theorem d9_1 : decode prog_18_method_9_code 1 = .ok (.getfield 13, 3) := by decide +kernel
theorem d9_4 : decode prog_18_method_9_code 4 = .ok (.areturn, 1) := by decide +kernel
theorem ef_gtext (m : MethodId) (a : Addr) : entryFrame m #[(.ref a)] 1 = mkF m 0 #[.val (.ref a)] [] := by first | (simp [entryFrame, mkF, argsToLocals, Value.category]; done) | rfl
abbrev R_gtext : Room := { frames := 0, cells := 0, slots := 0, locals := 0 }
def Q_gtext (Z : State) (a : Addr) (r : Addr) (h0 : Heap) (n0 : Nat) (v : Option Value) (h : Heap) (L : List Loc) : Prop := v = some (.ref r) ∧ Fr n0 L ∧ h = h0
set_option maxRecDepth 65536 in
set_option maxHeartbeats 40000000 in
theorem rm_gtext (l : Launch) (Z : State) (a0 : Array Value) (hw : ∀ d ∈ tables_1, d.before a0 Z = true) (ws : List Jvm.Cond) (a : Addr) (r : Addr) (h0 : Heap) (n0 : Nat) (O0 : Old Z n0 h0) (F0 : Fld Z h0 a "com/example/claimgate/claimgate/NamePattern" "text" "Ljava/lang/String;" (.ref r)) :
    MetFree l (⟨"com/example/claimgate/claimgate/NamePattern", "text", "()Ljava/lang/String;"⟩ : MethodName) (head1 (Jvm.Cond.code (⟨"com/example/claimgate/claimgate/NamePattern", "text", "()Ljava/lang/String;"⟩ : MethodName) prog_18_method_9_code 1 (some (.object "java/lang/String")) :: ws) R_gtext) (fun as_ U => as_ = #[(.ref a)] ∧ Z.Warmed39 U.vm ∧ U.heap = h0) (fun _ _ _ _ _ => True) (fun _ U o U' => ∃ v L, o = .returned v ∧ Q_gtext Z a r h0 n0 v U'.heap L ∧ FrameEnd U o U' L R_gtext.cells R_gtext.slots) := by
  refine MetFree.of_bodySF (plainFor_of_name pn_3) hisR ?_
  intro p e s m args below meth c s₁ Bd hml0 hP hK
  obtain ⟨rfl, hZ, hh⟩ := hP
  have hx := Bd.exec
  have hby := Bd.bytes
  have hml : c.maxLocals = 1 := hml0
  have hown : s.vm.findClass "com/example/claimgate/claimgate/NamePattern" = some m.cls := findClass_of_methodNamed Bd.named
  have hnm := (name_of_methodNamed Bd.named Bd.method).1
  have hlk : meth.locks = false := BodyLoose.notSynchronized Bd
  have X0 : Stand p l e R_gtext s m #[(.ref a)] below meth c s₁ [] 0 0 := Stand.of_body Bd
  have e0 : s₁.heap = h0 := by rw [← hh, Bd.state]; rfl
  have N0 := Fr.nil n0
  refine enter (P := PQ s R_gtext.cells R_gtext.slots (Q_gtext Z a r h0 n0)) (ef_gtext m a) ?_
  refine goS (n := 1) (Ls' := #[.val (.ref a)]) (st' := [(.ref a)]) (fun _ kz => XS.aloadN X0.here hx rfl (hb hby d9_0) rfl rfl kz) ?_
  obtain ⟨T1, X1, e1, st1⟩ := getF X0 hx hZ hown (host := "") (Or.inl (hw _ (List.mem_of_getElem? (i := 46) rfl))) Via.refl e0 F0 (g := (mkF m 1 #[.val (.ref a)] [(.ref a)])) rfl rfl (hb hby d9_1)
  refine goS (n := 4) (Ls' := #[.val (.ref a)]) (st' := [(.ref r)]) st1 ?_
  exact goRetA X1 hx hlk Bd.returns rfl rfl (hb hby d9_4) (by decide) (by decide) (by rw [e1]; exact ⟨rfl, N0, rfl⟩)
theorem d12_0 : decode jdk_37_method_2_code 0 = .ok (.aload_n 0, 1) := by decide +kernel
theorem d12_1 : decode jdk_37_method_2_code 1 = .ok (.getfield 7, 3) := by decide +kernel
theorem d12_4 : decode jdk_37_method_2_code 4 = .ok (.ireturn, 1) := by decide +kernel
theorem pn_4 : plainName "java/lang/Enum" = true := by first | (simp [plainName, overriddenIn]; done) | decide +kernel
theorem ef_ord (m : MethodId) (a : Addr) : entryFrame m #[(.ref a)] 1 = mkF m 0 #[.val (.ref a)] [] := by first | (simp [entryFrame, mkF, argsToLocals, Value.category]; done) | rfl
abbrev R_ord : Room := { frames := 0, cells := 0, slots := 0, locals := 0 }
def Q_ord (Z : State) (a : Addr) (r : Int32) (h0 : Heap) (n0 : Nat) (v : Option Value) (h : Heap) (L : List Loc) : Prop := v = some (.int r) ∧ Fr n0 L ∧ h = h0
set_option maxRecDepth 65536 in
set_option maxHeartbeats 40000000 in
theorem rm_ord (l : Launch) (Z : State) (a0 : Array Value) (hw : ∀ d ∈ tables_1, d.before a0 Z = true) (ws : List Jvm.Cond) (a : Addr) (r : Int32) (h0 : Heap) (n0 : Nat) (O0 : Old Z n0 h0) (F0 : Fld Z Z.heap a "java/lang/Enum" "ordinal" "I" (.int r)) :
    MetFree l (⟨"java/lang/Enum", "ordinal", "()I"⟩ : MethodName) (head1 (Jvm.Cond.code (⟨"java/lang/Enum", "ordinal", "()I"⟩ : MethodName) jdk_37_method_2_code 1 (some .int) :: ws) R_ord) (fun as_ U => as_ = #[(.ref a)] ∧ Z.Warmed39 U.vm ∧ U.heap = h0) (fun _ _ _ _ _ => True) (fun _ U o U' => ∃ v L, o = .returned v ∧ Q_ord Z a r h0 n0 v U'.heap L ∧ FrameEnd U o U' L R_ord.cells R_ord.slots) := by
  refine MetFree.of_bodySF (plainFor_of_name pn_4) hisR ?_
  intro p e s m args below meth c s₁ Bd hml0 hP hK
  obtain ⟨rfl, hZ, hh⟩ := hP
  have hx := Bd.exec
  have hby := Bd.bytes
  have hml : c.maxLocals = 1 := hml0
  have hown : s.vm.findClass "java/lang/Enum" = some m.cls := findClass_of_methodNamed Bd.named
  have hnm := (name_of_methodNamed Bd.named Bd.method).1
  have hlk : meth.locks = false := BodyLoose.notSynchronized Bd
  have X0 : Stand p l e R_ord s m #[(.ref a)] below meth c s₁ [] 0 0 := Stand.of_body Bd
  have e0 : s₁.heap = h0 := by rw [← hh, Bd.state]; rfl
  have N0 := Fr.nil n0
  refine enter (P := PQ s R_ord.cells R_ord.slots (Q_ord Z a r h0 n0)) (ef_ord m a) ?_
  refine goS (n := 1) (Ls' := #[.val (.ref a)]) (st' := [(.ref a)]) (fun _ kz => XS.aloadN X0.here hx rfl (hb hby d12_0) rfl rfl kz) ?_
  obtain ⟨T1, X1, e1, st1⟩ := getF X0 hx hZ hown (host := "") (Or.inl (hw _ (List.mem_of_getElem? (i := 76) rfl))) Via.refl e0 (F0.ext O0.2) (g := (mkF m 1 #[.val (.ref a)] [(.ref a)])) rfl rfl (hb hby d12_1)
  refine goS (n := 4) (Ls' := #[.val (.ref a)]) (st' := [(.int r)]) st1 ?_
  exact goRetI X1 hx hlk Bd.returns (hb hby d12_4) (by decide) (by decide) (by rw [e1]; exact ⟨rfl, N0, rfl⟩)
theorem d11_0 : decode prog_18_method_4_code 0 = .ok (.aload_n 0, 1) := by decide +kernel
theorem d11_1 : decode prog_18_method_4_code 1 = .ok (.getfield 7, 3) := by decide +kernel
theorem d11_4 : decode prog_18_method_4_code 4 = .ok (.invokevirtual 68, 3) := by decide +kernel
theorem pd_4 : parseMethodDescriptor "()I" = some ⟨[], some .int⟩ := by decide +kernel
theorem d11_7 : decode prog_18_method_4_code 7 = .ok (.tableswitch 33 0 4 #[43, 47, 58, 69, 80], 33) := by decide +kernel
theorem d11_54 : decode prog_18_method_4_code 54 = .ok (.aload_n 1, 1) := by decide +kernel
theorem d11_55 : decode prog_18_method_4_code 55 = .ok (.aload_n 0, 1) := by decide +kernel
theorem d11_56 : decode prog_18_method_4_code 56 = .ok (.getfield 13, 3) := by decide +kernel
theorem d11_59 : decode prog_18_method_4_code 59 = .ok (.invokevirtual 25, 3) := by decide +kernel
theorem pd_5 : parseMethodDescriptor "(Ljava/lang/Object;)Z" = some ⟨[(.object "java/lang/Object")], some .boolean⟩ := by decide +kernel
theorem d11_62 : decode prog_18_method_4_code 62 = .ok (.goto 33, 3) := by decide +kernel
theorem d11_95 : decode prog_18_method_4_code 95 = .ok (.ireturn, 1) := by decide +kernel
theorem ef_matches (m : MethodId) (a : Addr) (s2 : Addr) : entryFrame m #[(.ref a), (.ref s2)] 2 = mkF m 0 #[.val (.ref a), .val (.ref s2)] [] := by first | (simp [entryFrame, mkF, argsToLocals, Value.category]; done) | rfl
abbrev R_matches : Room := { frames := 2, cells := 0, slots := 0, locals := 28 }
def Q_matches (Z : State) (a : Addr) (wE : Addr) (cs : Int32) (s1 : Addr) (t1 : Addr) (k1 : ClassId) (cs1 : List Int32) (s2 : Addr) (t2 : Addr) (k2 : ClassId) (cs2 : List Int32) (h0 : Heap) (n0 : Nat) (v : Option Value) (h : Heap) (L : List Loc) : Prop := v = some (.int (bi (cs2 = cs1))) ∧ Fr n0 L ∧ h = h0
set_option maxRecDepth 65536 in
set_option maxHeartbeats 40000000 in
theorem rm_matches (l : Launch) (Z : State) (a0 : Array Value) (hw : ∀ d ∈ tables_1, d.before a0 Z = true) (ws : List Jvm.Cond) (a : Addr) (wE : Addr) (cs : Int32) (s1 : Addr) (t1 : Addr) (k1 : ClassId) (cs1 : List Int32) (s2 : Addr) (t2 : Addr) (k2 : ClassId) (cs2 : List Int32) (h0 : Heap) (n0 : Nat) (O0 : Old Z n0 h0) (S_CS : Sta Z Z.heap "java/lang/String" "COMPACT_STRINGS" "Z" (.int cs)) (hcs : ¬ cs = (0 : Int32)) (Es1 : Exa Z h0 s1 "java/lang/String") (Fv1 : Fld Z h0 s1 "java/lang/String" "value" "[B" (.ref t1)) (Fc1 : Fld Z h0 s1 "java/lang/String" "coder" "B" (.int (0 : Int32))) (Vt1 : Arv Z h0 t1 k1 .byte (Int32.ofNat (List.length cs1)) ((List.map (fun c : Int32 => c.toInt8.toInt32) cs1).map Value.int) (.int (0 : Int32))) (hb1 : ∀ c ∈ cs1, ¬ c < 0 ∧ ¬ (255 : Int32) < c) (hl1 : cs1.length ≤ 4000) (Es2 : Exa Z h0 s2 "java/lang/String") (Fv2 : Fld Z h0 s2 "java/lang/String" "value" "[B" (.ref t2)) (Fc2 : Fld Z h0 s2 "java/lang/String" "coder" "B" (.int (0 : Int32))) (Vt2 : Arv Z h0 t2 k2 .byte (Int32.ofNat (List.length cs2)) ((List.map (fun c : Int32 => c.toInt8.toInt32) cs2).map Value.int) (.int (0 : Int32))) (hb2 : ∀ c ∈ cs2, ¬ c < 0 ∧ ¬ (255 : Int32) < c) (hl2 : cs2.length ≤ 4000) (Fk : Fld Z h0 a "com/example/claimgate/claimgate/NamePattern" "kind" "Lcom/example/claimgate/claimgate/NamePattern$Kind;" (.ref wE)) (Ft : Fld Z h0 a "com/example/claimgate/claimgate/NamePattern" "text" "Ljava/lang/String;" (.ref s1)) (FO : Fld Z Z.heap wE "java/lang/Enum" "ordinal" "I" (.int (1 : Int32))) (EXE : Exa Z Z.heap wE "com/example/claimgate/claimgate/NamePattern$Kind") :
    MetFree l (⟨"com/example/claimgate/claimgate/NamePattern", "matches", "(Ljava/lang/String;)Z"⟩ : MethodName) (head1 (Jvm.Cond.code (⟨"com/example/claimgate/claimgate/NamePattern", "matches", "(Ljava/lang/String;)Z"⟩ : MethodName) prog_18_method_4_code 2 (some .boolean) :: ws) R_matches) (fun as_ U => as_ = #[(.ref a), (.ref s2)] ∧ Z.Warmed39 U.vm ∧ U.heap = h0) (fun _ _ _ _ _ => True) (fun _ U o U' => ∃ v L, o = .returned v ∧ Q_matches Z a wE cs s1 t1 k1 cs1 s2 t2 k2 cs2 h0 n0 v U'.heap L ∧ FrameEnd U o U' L R_matches.cells R_matches.slots) := by
  refine MetFree.of_bodySF (plainFor_of_name pn_3) hisR ?_
  intro p e s m args below meth c s₁ Bd hml0 hP hK
  obtain ⟨rfl, hZ, hh⟩ := hP
  have hx := Bd.exec
  have hby := Bd.bytes
  have hml : c.maxLocals = 2 := hml0
  have hown : s.vm.findClass "com/example/claimgate/claimgate/NamePattern" = some m.cls := findClass_of_methodNamed Bd.named
  have hnm := (name_of_methodNamed Bd.named Bd.method).1
  have hlk : meth.locks = false := BodyLoose.notSynchronized Bd
  have X0 : Stand p l e R_matches s m #[(.ref a), (.ref s2)] below meth c s₁ [] 0 0 := Stand.of_body Bd
  have e0 : s₁.heap = h0 := by rw [← hh, Bd.state]; rfl
  have N0 := Fr.nil n0
  refine enter (P := PQ s R_matches.cells R_matches.slots (Q_matches Z a wE cs s1 t1 k1 cs1 s2 t2 k2 cs2 h0 n0)) (ef_matches m a s2) ?_
  refine goS (n := 1) (Ls' := #[.val (.ref a), .val (.ref s2)]) (st' := [(.ref a)]) (fun _ kz => XS.aloadN X0.here hx rfl (hb hby d11_0) rfl rfl kz) ?_
  obtain ⟨T1, X1, e1, st1⟩ := getF X0 hx hZ hown (host := "") (Or.inl (hw _ (List.mem_of_getElem? (i := 44) rfl))) Via.refl e0 Fk (g := (mkF m 1 #[.val (.ref a), .val (.ref s2)] [(.ref a)])) rfl rfl (hb hby d11_1)
  refine goS (n := 4) (Ls' := #[.val (.ref a), .val (.ref s2)]) (st' := [(.ref wE)]) st1 ?_
  obtain ⟨cq2, kq2, q2a, q2b, q2c⟩ := isOf hZ e1 (EXE.ext O0.2)
  obtain ⟨vr2, _, ⟨T2, L2, k2, n2⟩, -, X2, ⟨Lc2, hQ2, l2, y2, z2⟩, st2⟩ := X1.virtualBackUp hx (x := (⟨"com/example/claimgate/claimgate/NamePattern$Kind", "ordinal", "()I"⟩ : MethodName)) (y := (⟨"java/lang/Enum", "ordinal", "()I"⟩ : MethodName)) (owner := "java/lang/Enum") hown (mvT hZ (hw _ (List.mem_of_getElem? (i := 69) rfl))) (mvT hZ (hw _ (List.mem_of_getElem? (i := 70) rfl))) (mvT hZ (hw _ (List.mem_of_getElem? (i := 71) rfl))) (by decide) (mvT hZ (hw _ (List.mem_of_getElem? (i := 73) rfl))) (mvT hZ (hw _ (List.mem_of_getElem? (i := 72) rfl))) (backOf (W := 0) (rm_ord l Z a0 hw [] wE (1 : Int32) h0 n0 O0 FO) hZ (hw _ (List.mem_of_getElem? (i := 75) rfl)) (hw _ (List.mem_of_getElem? (i := 74) rfl)) (by decide) (by decide)) q2a q2c (g := (mkF m 4 #[.val (.ref a), .val (.ref s2)] [(.ref wE)])) rfl (by rw [hml]; rfl) (Steps.refl _) (argsL := []) (rest := []) (lenOf pd_4 rfl) rfl (by show 2 * 0 + _ ≤ _; exact Nat.le_of_eq rfl) (hb hby d11_4) (fun _ _ => ⟨rfl, e1, (Nat.le_of_ble_eq_true rfl), (Nat.le_of_ble_eq_true rfl)⟩)
  dsimp only [Pt.U, Pt.locs, Pt.cells, Pt.slots] at X2 l2 y2 z2 st2 hQ2
  subst l2 y2 z2
  obtain ⟨rfl, N2q, e2⟩ := hQ2
  have N2 := Fr.app N0 N2q
  refine goT (n := 7) (Ls' := #[.val (.ref a), .val (.ref s2)]) (st' := [(.int (1 : Int32))]) st2 ?_
  refine goS (n := 54) (Ls' := #[.val (.ref a), .val (.ref s2)]) (st' := []) (fun _ kz => XS.tswIn X2.here hx rfl (pc0 := 7) (pc' := 54) rfl (hb hby d11_7) rfl (by decide) (o := 47) (by decide) (by decide) (by decide) kz) ?_
  refine goS (n := 55) (Ls' := #[.val (.ref a), .val (.ref s2)]) (st' := [(.ref s2)]) (fun _ kz => XS.aloadN X2.here hx rfl (hb hby d11_54) rfl rfl kz) ?_
  refine goS (n := 56) (Ls' := #[.val (.ref a), .val (.ref s2)]) (st' := [(.ref a), (.ref s2)]) (fun _ kz => XS.aloadN X2.here hx rfl (hb hby d11_55) rfl rfl kz) ?_
  obtain ⟨T3, X3, e3, st3⟩ := getF X2 hx hZ hown (host := "") (Or.inl (hw _ (List.mem_of_getElem? (i := 46) rfl))) Via.refl e2 Ft (g := (mkF m 56 #[.val (.ref a), .val (.ref s2)] [(.ref a), (.ref s2)])) rfl rfl (hb hby d11_56)
  refine goS (n := 59) (Ls' := #[.val (.ref a), .val (.ref s2)]) (st' := [(.ref s1), (.ref s2)]) st3 ?_
  obtain ⟨cq4, kq4, q4a, q4b, q4c⟩ := isOf hZ e3 Es2
  obtain ⟨vr4, _, ⟨T4, L4, k4, n4⟩, -, X4, ⟨Lc4, hQ4, l4, y4, z4⟩, st4⟩ := X3.virtualBack hx (y := (⟨"java/lang/String", "equals", "(Ljava/lang/Object;)Z"⟩ : MethodName)) (z := (⟨"java/lang/String", "equals", "(Ljava/lang/Object;)Z"⟩ : MethodName)) hown (mvT hZ (hw _ (List.mem_of_getElem? (i := 78) rfl))) (mvT hZ (hw _ (List.mem_of_getElem? (i := 60) rfl))) (notFace_of_selects (args := #[]) (mvT hZ (hw _ (List.mem_of_getElem? (i := 62) rfl)))) (mvT hZ (hw _ (List.mem_of_getElem? (i := 62) rfl))) (mvT hZ (hw _ (List.mem_of_getElem? (i := 61) rfl))) (by decide) (StrChars.Road.eqW (W := 0) hZ (own_wordsEq hw) (kI := 4) (hw _ (List.mem_of_getElem? (i := 5) rfl)) Es2 Fv2 Fc2 Vt2 (own_cod hb2) (own_up hb2) hl2 Es1 Fv1 Fc1 Vt1 (own_cod hb1) (own_up hb1) hl1 (S_CS.ext O0.2) hcs (by decide) (by decide)) q4a q4c (g := (mkF m 59 #[.val (.ref a), .val (.ref s2)] [(.ref s1), (.ref s2)])) rfl (by rw [hml]; rfl) (Steps.refl _) (argsL := [(.ref s1)]) (rest := []) (lenOf pd_5 rfl) rfl (by show 2 * 0 + _ ≤ _; exact Nat.le_of_eq rfl) (hb hby d11_59) (fun _ _ => ⟨rfl, e3, (Nat.le_of_ble_eq_true rfl), (Nat.le_of_ble_eq_true rfl)⟩)
  dsimp only [Pt.U, Pt.locs, Pt.cells, Pt.slots] at X4 l4 y4 z4 st4 hQ4
  subst l4 y4 z4
  obtain ⟨hv4, hL4, e4⟩ := hQ4
  obtain ⟨q4, hvr4, h_q4⟩ : ∃ r : Int32, vr4 = some (.int r) ∧ r = bi (cs2 = cs1) := by rcases hv4 with ⟨q1, q2⟩ | ⟨q1, q2⟩; exact ⟨1, q1, (bi_t q2).symm⟩; exact ⟨0, q1, (bi_f q2).symm⟩
  subst hvr4
  subst hL4
  have N4q := Fr.nil n0
  have N4 := Fr.app N2 N4q
  refine goT (n := 62) (Ls' := #[.val (.ref a), .val (.ref s2)]) (st' := [(.int q4)]) st4 ?_
  refine goS (n := 95) (Ls' := #[.val (.ref a), .val (.ref s2)]) (st' := [(.int q4)]) (fun _ kz => XS.goto X4.here hx rfl (pc0 := 62) (pc' := 95) rfl (hb hby d11_62) (by decide) (by decide) kz) ?_
  exact goRetZ X4 hx hlk Bd.returns (by rw [h_q4]; exact bi01 _) (hb hby d11_95) (by decide) (by decide) (by rw [e4]; exact ⟨by rw [h_q4], N4, rfl⟩)
theorem own_cr (x : Int32) : ¬ ((x &&& (255 : Int32)).toUInt32.toUInt16.toUInt32.toInt32) < 0 ∧ ¬ (255 : Int32) < ((x &&& (255 : Int32)).toUInt32.toUInt16.toUInt32.toInt32) := by
  rw [i2c_mask, Int32.lt_iff_toInt_lt, Int32.lt_iff_toInt_lt]
  have := c_and x 255 (by decide)
  have z : (255 : Int32).toInt = 255 := rfl
  have z0 : (0 : Int32).toInt = 0 := rfl
  omega
theorem own_m3 (x : Int32) : x &&& (3 : Int32) = 0 ∨ x &&& (3 : Int32) = 1 ∨ x &&& (3 : Int32) = 2 ∨ x &&& (3 : Int32) = 3 := by
  have h := c_mask x 3 2 (by decide) (by decide)
  have h4 : (x &&& (3 : Int32)).toInt = 0 ∨ (x &&& (3 : Int32)).toInt = 1 ∨ (x &&& (3 : Int32)).toInt = 2 ∨ (x &&& (3 : Int32)).toInt = 3 := by omega
  rcases h4 with q | q | q | q
  · exact Or.inl (Int32.toInt_inj.mp q)
  · exact Or.inr (Or.inl (Int32.toInt_inj.mp q))
  · exact Or.inr (Or.inr (Or.inl (Int32.toInt_inj.mp q)))
  · exact Or.inr (Or.inr (Or.inr (Int32.toInt_inj.mp q)))
theorem own_eqC (l2 l1 b0 b1 b2 a0 a1 a2 : Int32) (h2 : l2 = 0 ∨ l2 = 1 ∨ l2 = 2 ∨ l2 = 3) (h1 : l1 = 0 ∨ l1 = 1 ∨ l1 = 2 ∨ l1 = 3) : own_mk l2 b0 b1 b2 = own_mk l1 a0 a1 a2 ↔ (l2 = l1 ∧ (l1 < (1 : Int32) ∨ b0 = a0) ∧ (l1 < (2 : Int32) ∨ b1 = a1) ∧ (l1 < (3 : Int32) ∨ b2 = a2)) := by
  rcases h1 with rfl | rfl | rfl | rfl <;> rcases h2 with rfl | rfl | rfl | rfl <;> simp +decide [own_mk]
theorem pd_6 : parseMethodDescriptor "(ICCC)Ljava/lang/String;" = some ⟨[.int, .char, .char, .char], some (.object "java/lang/String")⟩ := by decide +kernel
theorem pd_7 : parseMethodDescriptor "(Ljava/lang/String;)Lcom/example/claimgate/claimgate/NamePattern;" = some ⟨[(.object "java/lang/String")], some (.object "com/example/claimgate/claimgate/NamePattern")⟩ := by decide +kernel
theorem pd_8 : parseMethodDescriptor "()Lcom/example/claimgate/claimgate/NamePattern$Kind;" = some ⟨[], some (.object "com/example/claimgate/claimgate/NamePattern$Kind")⟩ := by decide +kernel
theorem pd_9 : parseMethodDescriptor "()Ljava/lang/String;" = some ⟨[], some (.object "java/lang/String")⟩ := by decide +kernel
theorem pd_10 : parseMethodDescriptor "(Ljava/lang/String;)Z" = some ⟨[(.object "java/lang/String")], some .boolean⟩ := by decide +kernel
theorem ef_law (m : MethodId) (p1 : Int32) (p2 : Int32) (p3 : Int32) (p4 : Int32) : entryFrame m #[(.int p1), (.int p2), (.int p3), (.int p4)] maxLocals = mkF m 0 #[.val (.int p1), .val (.int p2), .val (.int p3), .val (.int p4), .unset, .unset, .unset, .unset, .unset, .unset, .unset, .unset, .unset, .unset, .unset, .unset] [] := by first | (simp [entryFrame, mkF, argsToLocals, Value.category, maxLocals]; done) | rfl
def Q_law (Z : State) (p1 : Int32) (p2 : Int32) (p3 : Int32) (p4 : Int32) (wE : Addr) (cs : Int32) (h0 : Heap) (n0 : Nat) (v : Option Value) (h : Heap) (L : List Loc) : Prop := v = some (.int 1) ∧ Fr n0 L
set_option maxRecDepth 65536 in
set_option maxHeartbeats 40000000 in
theorem rm_law (l : Launch) (Z : State) (a0 : Array Value) (hw : ∀ d ∈ tables_1, d.before a0 Z = true) (ws : List Jvm.Cond) (p1 : Int32) (p2 : Int32) (p3 : Int32) (p4 : Int32) (wE : Addr) (cs : Int32) (h0 : Heap) (n0 : Nat) (O0 : Old Z n0 h0) (S_CS : Sta Z Z.heap "java/lang/String" "COMPACT_STRINGS" "Z" (.int cs)) (hcs : ¬ cs = (0 : Int32)) (S_EXACT : Sta Z Z.heap "com/example/claimgate/claimgate/NamePattern$Kind" "EXACT" "Lcom/example/claimgate/claimgate/NamePattern$Kind;" (.ref wE)) (FO : Fld Z Z.heap wE "java/lang/Enum" "ordinal" "I" (.int (1 : Int32))) (EXE : Exa Z Z.heap wE "com/example/claimgate/claimgate/NamePattern$Kind") :
    MetFree l x (head1 (Jvm.Cond.code x code maxLocals ret :: ws) room_1) (fun as_ U => as_ = #[(.int p1), (.int p2), (.int p3), (.int p4)] ∧ Z.Warmed39 U.vm ∧ U.heap = h0 ∧ CHv Z own_EL U.vm h0) (fun _ _ _ _ _ => True) (fun _ U o U' => ∃ v L, o = .returned v ∧ Q_law Z p1 p2 p3 p4 wE cs h0 n0 v U'.heap L ∧ CHr Z own_EL U.vm U.heap U'.vm U'.heap ∧ ReturnedEndW U o U' L room_1.cells room_1.slots) := by
  refine MetFree.of_bodySF (plainFor_of_name pn_1) hisR ?_
  intro p e s m args below meth c s₁ Bd hml0 hP hK
  obtain ⟨rfl, hZ, hh, hC0⟩ := hP
  have hx := Bd.exec
  have hby := Bd.bytes
  have hml : c.maxLocals = 16 := hml0
  have hown : s.vm.findClass "com/example/claimgate/claimgate/NamePatternExactlyPinLaw" = some m.cls := findClass_of_methodNamed Bd.named
  have hnm := (name_of_methodNamed Bd.named Bd.method).1
  have hlk : meth.locks = false := BodyLoose.notSynchronized Bd
  have X0 : Stand p l e room_1 (s.setVm s.vm) m #[(.int p1), (.int p2), (.int p3), (.int p4)] below meth c s₁ [] 0 0 := Stand.of_body Bd
  have e0 : s₁.heap = h0 := by rw [← hh, Bd.state]; rfl
  have N0 := Fr.nil n0
  have hS : s.Since s.vm s.heap.size := (State.WarmedH.refl s).since _
  have hk : s.heap.size ≤ h0.size := by rw [← hh]; exact Nat.le_refl _
  have hZ : Z.Warmed39 (s.setVm s.vm).vm := hZ
  have hown : (s.setVm s.vm).vm.findClass "com/example/claimgate/claimgate/NamePatternExactlyPinLaw" = some m.cls := hown
  have wS := own_wS hw
  have hC : CHr Z own_EL s.vm h0 s.vm h0 := CHr.refl hC0
  have hEL := own_EW hw
  refine enter (P := PQH Z own_EL s room_1.cells room_1.slots (Q_law Z p1 p2 p3 p4 wE cs h0 n0)) (ef_law m p1 p2 p3 p4) ?_
  refine goS (n := 1) (Ls' := #[.val (.int p1), .val (.int p2), .val (.int p3), .val (.int p4), .unset, .unset, .unset, .unset, .unset, .unset, .unset, .unset, .unset, .unset, .unset, .unset]) (st' := [(.int p1)]) (fun _ kz => XS.iloadN X0.here hx rfl (hb hby at_0) rfl kz) ?_
  refine goS (n := 2) (Ls' := #[.val (.int p1), .val (.int p2), .val (.int p3), .val (.int p4), .unset, .unset, .unset, .unset, .unset, .unset, .unset, .unset, .unset, .unset, .unset, .unset]) (st' := [(.int (3 : Int32)), (.int p1)]) (fun _ kz => XS.iconst X0.here hx rfl (hb hby at_1) kz) ?_
  refine goS (n := 3) (Ls' := #[.val (.int p1), .val (.int p2), .val (.int p3), .val (.int p4), .unset, .unset, .unset, .unset, .unset, .unset, .unset, .unset, .unset, .unset, .unset, .unset]) (st' := [(.int (p1 &&& (3 : Int32)))]) (fun _ kz => XS.iand X0.here hx rfl (hb hby at_2) rfl kz) ?_
  refine goS (n := 5) (Ls' := #[.val (.int p1), .val (.int p2), .val (.int p3), .val (.int p4), .val (.int (p1 &&& (3 : Int32))), .unset, .unset, .unset, .unset, .unset, .unset, .unset, .unset, .unset, .unset, .unset]) (st' := []) (fun _ kz => XS.istore X0.here hx rfl (hb hby at_3) rfl (l' := #[.val (.int p1), .val (.int p2), .val (.int p3), .val (.int p4), .val (.int (p1 &&& (3 : Int32))), .unset, .unset, .unset, .unset, .unset, .unset, .unset, .unset, .unset, .unset, .unset]) rfl kz) ?_
  refine goS (n := 6) (Ls' := #[.val (.int p1), .val (.int p2), .val (.int p3), .val (.int p4), .val (.int (p1 &&& (3 : Int32))), .unset, .unset, .unset, .unset, .unset, .unset, .unset, .unset, .unset, .unset, .unset]) (st' := [(.int p2)]) (fun _ kz => XS.iloadN X0.here hx rfl (hb hby at_5) rfl kz) ?_
  refine goS (n := 9) (Ls' := #[.val (.int p1), .val (.int p2), .val (.int p3), .val (.int p4), .val (.int (p1 &&& (3 : Int32))), .unset, .unset, .unset, .unset, .unset, .unset, .unset, .unset, .unset, .unset, .unset]) (st' := [(.int (255 : Int32)), (.int p2)]) (fun _ kz => XS.sipush X0.here hx rfl (hb hby at_6) kz) ?_
  refine goS (n := 10) (Ls' := #[.val (.int p1), .val (.int p2), .val (.int p3), .val (.int p4), .val (.int (p1 &&& (3 : Int32))), .unset, .unset, .unset, .unset, .unset, .unset, .unset, .unset, .unset, .unset, .unset]) (st' := [(.int (p2 &&& (255 : Int32)))]) (fun _ kz => XS.iand X0.here hx rfl (hb hby at_9) rfl kz) ?_
  refine goS (n := 11) (Ls' := #[.val (.int p1), .val (.int p2), .val (.int p3), .val (.int p4), .val (.int (p1 &&& (3 : Int32))), .unset, .unset, .unset, .unset, .unset, .unset, .unset, .unset, .unset, .unset, .unset]) (st' := [(.int ((p2 &&& (255 : Int32)).toUInt32.toUInt16.toUInt32.toInt32))]) (fun _ kz => XS.i2c X0.here hx rfl (hb hby at_10) rfl kz) ?_
  refine goS (n := 13) (Ls' := #[.val (.int p1), .val (.int p2), .val (.int p3), .val (.int p4), .val (.int (p1 &&& (3 : Int32))), .val (.int ((p2 &&& (255 : Int32)).toUInt32.toUInt16.toUInt32.toInt32)), .unset, .unset, .unset, .unset, .unset, .unset, .unset, .unset, .unset, .unset]) (st' := []) (fun _ kz => XS.istore X0.here hx rfl (hb hby at_11) rfl (l' := #[.val (.int p1), .val (.int p2), .val (.int p3), .val (.int p4), .val (.int (p1 &&& (3 : Int32))), .val (.int ((p2 &&& (255 : Int32)).toUInt32.toUInt16.toUInt32.toInt32)), .unset, .unset, .unset, .unset, .unset, .unset, .unset, .unset, .unset, .unset]) rfl kz) ?_
  refine goS (n := 14) (Ls' := #[.val (.int p1), .val (.int p2), .val (.int p3), .val (.int p4), .val (.int (p1 &&& (3 : Int32))), .val (.int ((p2 &&& (255 : Int32)).toUInt32.toUInt16.toUInt32.toInt32)), .unset, .unset, .unset, .unset, .unset, .unset, .unset, .unset, .unset, .unset]) (st' := [(.int p2)]) (fun _ kz => XS.iloadN X0.here hx rfl (hb hby at_13) rfl kz) ?_
  refine goS (n := 16) (Ls' := #[.val (.int p1), .val (.int p2), .val (.int p3), .val (.int p4), .val (.int (p1 &&& (3 : Int32))), .val (.int ((p2 &&& (255 : Int32)).toUInt32.toUInt16.toUInt32.toInt32)), .unset, .unset, .unset, .unset, .unset, .unset, .unset, .unset, .unset, .unset]) (st' := [(.int (8 : Int32)), (.int p2)]) (fun _ kz => XS.bipush X0.here hx rfl (hb hby at_14) kz) ?_
  refine goS (n := 17) (Ls' := #[.val (.int p1), .val (.int p2), .val (.int p3), .val (.int p4), .val (.int (p1 &&& (3 : Int32))), .val (.int ((p2 &&& (255 : Int32)).toUInt32.toUInt16.toUInt32.toInt32)), .unset, .unset, .unset, .unset, .unset, .unset, .unset, .unset, .unset, .unset]) (st' := [(.int ((p2.toUInt32 >>> ((8 : Int32) &&& 31).toUInt32).toInt32))]) (fun _ kz => XS.iushr X0.here hx rfl (hb hby at_16) rfl kz) ?_
  refine goS (n := 20) (Ls' := #[.val (.int p1), .val (.int p2), .val (.int p3), .val (.int p4), .val (.int (p1 &&& (3 : Int32))), .val (.int ((p2 &&& (255 : Int32)).toUInt32.toUInt16.toUInt32.toInt32)), .unset, .unset, .unset, .unset, .unset, .unset, .unset, .unset, .unset, .unset]) (st' := [(.int (255 : Int32)), (.int ((p2.toUInt32 >>> ((8 : Int32) &&& 31).toUInt32).toInt32))]) (fun _ kz => XS.sipush X0.here hx rfl (hb hby at_17) kz) ?_
  refine goS (n := 21) (Ls' := #[.val (.int p1), .val (.int p2), .val (.int p3), .val (.int p4), .val (.int (p1 &&& (3 : Int32))), .val (.int ((p2 &&& (255 : Int32)).toUInt32.toUInt16.toUInt32.toInt32)), .unset, .unset, .unset, .unset, .unset, .unset, .unset, .unset, .unset, .unset]) (st' := [(.int (((p2.toUInt32 >>> ((8 : Int32) &&& 31).toUInt32).toInt32) &&& (255 : Int32)))]) (fun _ kz => XS.iand X0.here hx rfl (hb hby at_20) rfl kz) ?_
  refine goS (n := 22) (Ls' := #[.val (.int p1), .val (.int p2), .val (.int p3), .val (.int p4), .val (.int (p1 &&& (3 : Int32))), .val (.int ((p2 &&& (255 : Int32)).toUInt32.toUInt16.toUInt32.toInt32)), .unset, .unset, .unset, .unset, .unset, .unset, .unset, .unset, .unset, .unset]) (st' := [(.int ((((p2.toUInt32 >>> ((8 : Int32) &&& 31).toUInt32).toInt32) &&& (255 : Int32)).toUInt32.toUInt16.toUInt32.toInt32))]) (fun _ kz => XS.i2c X0.here hx rfl (hb hby at_21) rfl kz) ?_
  refine goS (n := 24) (Ls' := #[.val (.int p1), .val (.int p2), .val (.int p3), .val (.int p4), .val (.int (p1 &&& (3 : Int32))), .val (.int ((p2 &&& (255 : Int32)).toUInt32.toUInt16.toUInt32.toInt32)), .val (.int ((((p2.toUInt32 >>> ((8 : Int32) &&& 31).toUInt32).toInt32) &&& (255 : Int32)).toUInt32.toUInt16.toUInt32.toInt32)), .unset, .unset, .unset, .unset, .unset, .unset, .unset, .unset, .unset]) (st' := []) (fun _ kz => XS.istore X0.here hx rfl (hb hby at_22) rfl (l' := #[.val (.int p1), .val (.int p2), .val (.int p3), .val (.int p4), .val (.int (p1 &&& (3 : Int32))), .val (.int ((p2 &&& (255 : Int32)).toUInt32.toUInt16.toUInt32.toInt32)), .val (.int ((((p2.toUInt32 >>> ((8 : Int32) &&& 31).toUInt32).toInt32) &&& (255 : Int32)).toUInt32.toUInt16.toUInt32.toInt32)), .unset, .unset, .unset, .unset, .unset, .unset, .unset, .unset, .unset]) rfl kz) ?_
  refine goS (n := 25) (Ls' := #[.val (.int p1), .val (.int p2), .val (.int p3), .val (.int p4), .val (.int (p1 &&& (3 : Int32))), .val (.int ((p2 &&& (255 : Int32)).toUInt32.toUInt16.toUInt32.toInt32)), .val (.int ((((p2.toUInt32 >>> ((8 : Int32) &&& 31).toUInt32).toInt32) &&& (255 : Int32)).toUInt32.toUInt16.toUInt32.toInt32)), .unset, .unset, .unset, .unset, .unset, .unset, .unset, .unset, .unset]) (st' := [(.int p2)]) (fun _ kz => XS.iloadN X0.here hx rfl (hb hby at_24) rfl kz) ?_
  refine goS (n := 27) (Ls' := #[.val (.int p1), .val (.int p2), .val (.int p3), .val (.int p4), .val (.int (p1 &&& (3 : Int32))), .val (.int ((p2 &&& (255 : Int32)).toUInt32.toUInt16.toUInt32.toInt32)), .val (.int ((((p2.toUInt32 >>> ((8 : Int32) &&& 31).toUInt32).toInt32) &&& (255 : Int32)).toUInt32.toUInt16.toUInt32.toInt32)), .unset, .unset, .unset, .unset, .unset, .unset, .unset, .unset, .unset]) (st' := [(.int (16 : Int32)), (.int p2)]) (fun _ kz => XS.bipush X0.here hx rfl (hb hby at_25) kz) ?_
  refine goS (n := 28) (Ls' := #[.val (.int p1), .val (.int p2), .val (.int p3), .val (.int p4), .val (.int (p1 &&& (3 : Int32))), .val (.int ((p2 &&& (255 : Int32)).toUInt32.toUInt16.toUInt32.toInt32)), .val (.int ((((p2.toUInt32 >>> ((8 : Int32) &&& 31).toUInt32).toInt32) &&& (255 : Int32)).toUInt32.toUInt16.toUInt32.toInt32)), .unset, .unset, .unset, .unset, .unset, .unset, .unset, .unset, .unset]) (st' := [(.int ((p2.toUInt32 >>> ((16 : Int32) &&& 31).toUInt32).toInt32))]) (fun _ kz => XS.iushr X0.here hx rfl (hb hby at_27) rfl kz) ?_
  refine goS (n := 31) (Ls' := #[.val (.int p1), .val (.int p2), .val (.int p3), .val (.int p4), .val (.int (p1 &&& (3 : Int32))), .val (.int ((p2 &&& (255 : Int32)).toUInt32.toUInt16.toUInt32.toInt32)), .val (.int ((((p2.toUInt32 >>> ((8 : Int32) &&& 31).toUInt32).toInt32) &&& (255 : Int32)).toUInt32.toUInt16.toUInt32.toInt32)), .unset, .unset, .unset, .unset, .unset, .unset, .unset, .unset, .unset]) (st' := [(.int (255 : Int32)), (.int ((p2.toUInt32 >>> ((16 : Int32) &&& 31).toUInt32).toInt32))]) (fun _ kz => XS.sipush X0.here hx rfl (hb hby at_28) kz) ?_
  refine goS (n := 32) (Ls' := #[.val (.int p1), .val (.int p2), .val (.int p3), .val (.int p4), .val (.int (p1 &&& (3 : Int32))), .val (.int ((p2 &&& (255 : Int32)).toUInt32.toUInt16.toUInt32.toInt32)), .val (.int ((((p2.toUInt32 >>> ((8 : Int32) &&& 31).toUInt32).toInt32) &&& (255 : Int32)).toUInt32.toUInt16.toUInt32.toInt32)), .unset, .unset, .unset, .unset, .unset, .unset, .unset, .unset, .unset]) (st' := [(.int (((p2.toUInt32 >>> ((16 : Int32) &&& 31).toUInt32).toInt32) &&& (255 : Int32)))]) (fun _ kz => XS.iand X0.here hx rfl (hb hby at_31) rfl kz) ?_
  refine goS (n := 33) (Ls' := #[.val (.int p1), .val (.int p2), .val (.int p3), .val (.int p4), .val (.int (p1 &&& (3 : Int32))), .val (.int ((p2 &&& (255 : Int32)).toUInt32.toUInt16.toUInt32.toInt32)), .val (.int ((((p2.toUInt32 >>> ((8 : Int32) &&& 31).toUInt32).toInt32) &&& (255 : Int32)).toUInt32.toUInt16.toUInt32.toInt32)), .unset, .unset, .unset, .unset, .unset, .unset, .unset, .unset, .unset]) (st' := [(.int ((((p2.toUInt32 >>> ((16 : Int32) &&& 31).toUInt32).toInt32) &&& (255 : Int32)).toUInt32.toUInt16.toUInt32.toInt32))]) (fun _ kz => XS.i2c X0.here hx rfl (hb hby at_32) rfl kz) ?_
  refine goS (n := 35) (Ls' := #[.val (.int p1), .val (.int p2), .val (.int p3), .val (.int p4), .val (.int (p1 &&& (3 : Int32))), .val (.int ((p2 &&& (255 : Int32)).toUInt32.toUInt16.toUInt32.toInt32)), .val (.int ((((p2.toUInt32 >>> ((8 : Int32) &&& 31).toUInt32).toInt32) &&& (255 : Int32)).toUInt32.toUInt16.toUInt32.toInt32)), .val (.int ((((p2.toUInt32 >>> ((16 : Int32) &&& 31).toUInt32).toInt32) &&& (255 : Int32)).toUInt32.toUInt16.toUInt32.toInt32)), .unset, .unset, .unset, .unset, .unset, .unset, .unset, .unset]) (st' := []) (fun _ kz => XS.istore X0.here hx rfl (hb hby at_33) rfl (l' := #[.val (.int p1), .val (.int p2), .val (.int p3), .val (.int p4), .val (.int (p1 &&& (3 : Int32))), .val (.int ((p2 &&& (255 : Int32)).toUInt32.toUInt16.toUInt32.toInt32)), .val (.int ((((p2.toUInt32 >>> ((8 : Int32) &&& 31).toUInt32).toInt32) &&& (255 : Int32)).toUInt32.toUInt16.toUInt32.toInt32)), .val (.int ((((p2.toUInt32 >>> ((16 : Int32) &&& 31).toUInt32).toInt32) &&& (255 : Int32)).toUInt32.toUInt16.toUInt32.toInt32)), .unset, .unset, .unset, .unset, .unset, .unset, .unset, .unset]) rfl kz) ?_
  obtain ⟨l1, d_l1⟩ : ∃ i : Int32, i = (p1 &&& (3 : Int32)) := ⟨_, rfl⟩
  rw [← d_l1]
  have hl1 : l1 = 0 ∨ l1 = 1 ∨ l1 = 2 ∨ l1 = 3 := by rw [d_l1]; exact own_m3 _
  obtain ⟨a0c, d_a0c⟩ : ∃ i : Int32, i = ((p2 &&& (255 : Int32)).toUInt32.toUInt16.toUInt32.toInt32) := ⟨_, rfl⟩
  rw [← d_a0c]
  have ra0c : (¬ a0c < 0 ∧ ¬ (255 : Int32) < a0c) := by rw [d_a0c]; exact own_cr _
  obtain ⟨a1c, d_a1c⟩ : ∃ i : Int32, i = ((((p2.toUInt32 >>> ((8 : Int32) &&& 31).toUInt32).toInt32) &&& (255 : Int32)).toUInt32.toUInt16.toUInt32.toInt32) := ⟨_, rfl⟩
  rw [← d_a1c]
  have ra1c : (¬ a1c < 0 ∧ ¬ (255 : Int32) < a1c) := by rw [d_a1c]; exact own_cr _
  obtain ⟨a2c, d_a2c⟩ : ∃ i : Int32, i = ((((p2.toUInt32 >>> ((16 : Int32) &&& 31).toUInt32).toInt32) &&& (255 : Int32)).toUInt32.toUInt16.toUInt32.toInt32) := ⟨_, rfl⟩
  rw [← d_a2c]
  have ra2c : (¬ a2c < 0 ∧ ¬ (255 : Int32) < a2c) := by rw [d_a2c]; exact own_cr _
  refine goS (n := 36) (Ls' := #[.val (.int p1), .val (.int p2), .val (.int p3), .val (.int p4), .val (.int l1), .val (.int a0c), .val (.int a1c), .val (.int a2c), .unset, .unset, .unset, .unset, .unset, .unset, .unset, .unset]) (st' := [(.int p4)]) (fun _ kz => XS.iloadN X0.here hx rfl (hb hby at_35) rfl kz) ?_
  refine goS (n := 37) (Ls' := #[.val (.int p1), .val (.int p2), .val (.int p3), .val (.int p4), .val (.int l1), .val (.int a0c), .val (.int a1c), .val (.int a2c), .unset, .unset, .unset, .unset, .unset, .unset, .unset, .unset]) (st' := [(.int (1 : Int32)), (.int p4)]) (fun _ kz => XS.iconst X0.here hx rfl (hb hby at_36) kz) ?_
  refine goS (n := 38) (Ls' := #[.val (.int p1), .val (.int p2), .val (.int p3), .val (.int p4), .val (.int l1), .val (.int a0c), .val (.int a1c), .val (.int a2c), .unset, .unset, .unset, .unset, .unset, .unset, .unset, .unset]) (st' := [(.int (p4 &&& (1 : Int32)))]) (fun _ kz => XS.iand X0.here hx rfl (hb hby at_37) rfl kz) ?_
  have jn1 : ∀ l2 : Int32, (l2 = 0 ∨ l2 = 1 ∨ l2 = 2 ∨ l2 = 3) → Go p e below (PQH Z own_EL s room_1.cells room_1.slots (Q_law Z p1 p2 p3 p4 wE cs h0 n0)) s₁ (mkF m 51 #[.val (.int p1), .val (.int p2), .val (.int p3), .val (.int p4), .val (.int l1), .val (.int a0c), .val (.int a1c), .val (.int a2c), .unset, .unset, .unset, .unset, .unset, .unset, .unset, .unset] [(.int l2)]) := by
    intro l2 h_l2
    refine goS (n := 53) (Ls' := #[.val (.int p1), .val (.int p2), .val (.int p3), .val (.int p4), .val (.int l1), .val (.int a0c), .val (.int a1c), .val (.int a2c), .val (.int l2), .unset, .unset, .unset, .unset, .unset, .unset, .unset]) (st' := []) (fun _ kz => XS.istore X0.here hx rfl (hb hby at_51) rfl (l' := #[.val (.int p1), .val (.int p2), .val (.int p3), .val (.int p4), .val (.int l1), .val (.int a0c), .val (.int a1c), .val (.int a2c), .val (.int l2), .unset, .unset, .unset, .unset, .unset, .unset, .unset]) rfl kz) ?_
    refine goS (n := 54) (Ls' := #[.val (.int p1), .val (.int p2), .val (.int p3), .val (.int p4), .val (.int l1), .val (.int a0c), .val (.int a1c), .val (.int a2c), .val (.int l2), .unset, .unset, .unset, .unset, .unset, .unset, .unset]) (st' := [(.int p4)]) (fun _ kz => XS.iloadN X0.here hx rfl (hb hby at_53) rfl kz) ?_
    refine goS (n := 55) (Ls' := #[.val (.int p1), .val (.int p2), .val (.int p3), .val (.int p4), .val (.int l1), .val (.int a0c), .val (.int a1c), .val (.int a2c), .val (.int l2), .unset, .unset, .unset, .unset, .unset, .unset, .unset]) (st' := [(.int (1 : Int32)), (.int p4)]) (fun _ kz => XS.iconst X0.here hx rfl (hb hby at_54) kz) ?_
    refine goS (n := 56) (Ls' := #[.val (.int p1), .val (.int p2), .val (.int p3), .val (.int p4), .val (.int l1), .val (.int a0c), .val (.int a1c), .val (.int a2c), .val (.int l2), .unset, .unset, .unset, .unset, .unset, .unset, .unset]) (st' := [(.int ((p4.toUInt32 >>> ((1 : Int32) &&& 31).toUInt32).toInt32))]) (fun _ kz => XS.iushr X0.here hx rfl (hb hby at_55) rfl kz) ?_
    refine goS (n := 57) (Ls' := #[.val (.int p1), .val (.int p2), .val (.int p3), .val (.int p4), .val (.int l1), .val (.int a0c), .val (.int a1c), .val (.int a2c), .val (.int l2), .unset, .unset, .unset, .unset, .unset, .unset, .unset]) (st' := [(.int (1 : Int32)), (.int ((p4.toUInt32 >>> ((1 : Int32) &&& 31).toUInt32).toInt32))]) (fun _ kz => XS.iconst X0.here hx rfl (hb hby at_56) kz) ?_
    refine goS (n := 58) (Ls' := #[.val (.int p1), .val (.int p2), .val (.int p3), .val (.int p4), .val (.int l1), .val (.int a0c), .val (.int a1c), .val (.int a2c), .val (.int l2), .unset, .unset, .unset, .unset, .unset, .unset, .unset]) (st' := [(.int (((p4.toUInt32 >>> ((1 : Int32) &&& 31).toUInt32).toInt32) &&& (1 : Int32)))]) (fun _ kz => XS.iand X0.here hx rfl (hb hby at_57) rfl kz) ?_
    have jn2 : ∀ b0c : Int32, ((¬ b0c < 0 ∧ ¬ (255 : Int32) < b0c)) → Go p e below (PQH Z own_EL s room_1.cells room_1.slots (Q_law Z p1 p2 p3 p4 wE cs h0 n0)) s₁ (mkF m 72 #[.val (.int p1), .val (.int p2), .val (.int p3), .val (.int p4), .val (.int l1), .val (.int a0c), .val (.int a1c), .val (.int a2c), .val (.int l2), .unset, .unset, .unset, .unset, .unset, .unset, .unset] [(.int b0c)]) := by
      intro b0c h_b0c
      refine goS (n := 74) (Ls' := #[.val (.int p1), .val (.int p2), .val (.int p3), .val (.int p4), .val (.int l1), .val (.int a0c), .val (.int a1c), .val (.int a2c), .val (.int l2), .val (.int b0c), .unset, .unset, .unset, .unset, .unset, .unset]) (st' := []) (fun _ kz => XS.istore X0.here hx rfl (hb hby at_72) rfl (l' := #[.val (.int p1), .val (.int p2), .val (.int p3), .val (.int p4), .val (.int l1), .val (.int a0c), .val (.int a1c), .val (.int a2c), .val (.int l2), .val (.int b0c), .unset, .unset, .unset, .unset, .unset, .unset]) rfl kz) ?_
      refine goS (n := 75) (Ls' := #[.val (.int p1), .val (.int p2), .val (.int p3), .val (.int p4), .val (.int l1), .val (.int a0c), .val (.int a1c), .val (.int a2c), .val (.int l2), .val (.int b0c), .unset, .unset, .unset, .unset, .unset, .unset]) (st' := [(.int p4)]) (fun _ kz => XS.iloadN X0.here hx rfl (hb hby at_74) rfl kz) ?_
      refine goS (n := 76) (Ls' := #[.val (.int p1), .val (.int p2), .val (.int p3), .val (.int p4), .val (.int l1), .val (.int a0c), .val (.int a1c), .val (.int a2c), .val (.int l2), .val (.int b0c), .unset, .unset, .unset, .unset, .unset, .unset]) (st' := [(.int (2 : Int32)), (.int p4)]) (fun _ kz => XS.iconst X0.here hx rfl (hb hby at_75) kz) ?_
      refine goS (n := 77) (Ls' := #[.val (.int p1), .val (.int p2), .val (.int p3), .val (.int p4), .val (.int l1), .val (.int a0c), .val (.int a1c), .val (.int a2c), .val (.int l2), .val (.int b0c), .unset, .unset, .unset, .unset, .unset, .unset]) (st' := [(.int ((p4.toUInt32 >>> ((2 : Int32) &&& 31).toUInt32).toInt32))]) (fun _ kz => XS.iushr X0.here hx rfl (hb hby at_76) rfl kz) ?_
      refine goS (n := 78) (Ls' := #[.val (.int p1), .val (.int p2), .val (.int p3), .val (.int p4), .val (.int l1), .val (.int a0c), .val (.int a1c), .val (.int a2c), .val (.int l2), .val (.int b0c), .unset, .unset, .unset, .unset, .unset, .unset]) (st' := [(.int (1 : Int32)), (.int ((p4.toUInt32 >>> ((2 : Int32) &&& 31).toUInt32).toInt32))]) (fun _ kz => XS.iconst X0.here hx rfl (hb hby at_77) kz) ?_
      refine goS (n := 79) (Ls' := #[.val (.int p1), .val (.int p2), .val (.int p3), .val (.int p4), .val (.int l1), .val (.int a0c), .val (.int a1c), .val (.int a2c), .val (.int l2), .val (.int b0c), .unset, .unset, .unset, .unset, .unset, .unset]) (st' := [(.int (((p4.toUInt32 >>> ((2 : Int32) &&& 31).toUInt32).toInt32) &&& (1 : Int32)))]) (fun _ kz => XS.iand X0.here hx rfl (hb hby at_78) rfl kz) ?_
      have jn3 : ∀ b1c : Int32, ((¬ b1c < 0 ∧ ¬ (255 : Int32) < b1c)) → Go p e below (PQH Z own_EL s room_1.cells room_1.slots (Q_law Z p1 p2 p3 p4 wE cs h0 n0)) s₁ (mkF m 96 #[.val (.int p1), .val (.int p2), .val (.int p3), .val (.int p4), .val (.int l1), .val (.int a0c), .val (.int a1c), .val (.int a2c), .val (.int l2), .val (.int b0c), .unset, .unset, .unset, .unset, .unset, .unset] [(.int b1c)]) := by
        intro b1c h_b1c
        refine goS (n := 98) (Ls' := #[.val (.int p1), .val (.int p2), .val (.int p3), .val (.int p4), .val (.int l1), .val (.int a0c), .val (.int a1c), .val (.int a2c), .val (.int l2), .val (.int b0c), .val (.int b1c), .unset, .unset, .unset, .unset, .unset]) (st' := []) (fun _ kz => XS.istore X0.here hx rfl (hb hby at_96) rfl (l' := #[.val (.int p1), .val (.int p2), .val (.int p3), .val (.int p4), .val (.int l1), .val (.int a0c), .val (.int a1c), .val (.int a2c), .val (.int l2), .val (.int b0c), .val (.int b1c), .unset, .unset, .unset, .unset, .unset]) rfl kz) ?_
        refine goS (n := 99) (Ls' := #[.val (.int p1), .val (.int p2), .val (.int p3), .val (.int p4), .val (.int l1), .val (.int a0c), .val (.int a1c), .val (.int a2c), .val (.int l2), .val (.int b0c), .val (.int b1c), .unset, .unset, .unset, .unset, .unset]) (st' := [(.int p4)]) (fun _ kz => XS.iloadN X0.here hx rfl (hb hby at_98) rfl kz) ?_
        refine goS (n := 100) (Ls' := #[.val (.int p1), .val (.int p2), .val (.int p3), .val (.int p4), .val (.int l1), .val (.int a0c), .val (.int a1c), .val (.int a2c), .val (.int l2), .val (.int b0c), .val (.int b1c), .unset, .unset, .unset, .unset, .unset]) (st' := [(.int (3 : Int32)), (.int p4)]) (fun _ kz => XS.iconst X0.here hx rfl (hb hby at_99) kz) ?_
        refine goS (n := 101) (Ls' := #[.val (.int p1), .val (.int p2), .val (.int p3), .val (.int p4), .val (.int l1), .val (.int a0c), .val (.int a1c), .val (.int a2c), .val (.int l2), .val (.int b0c), .val (.int b1c), .unset, .unset, .unset, .unset, .unset]) (st' := [(.int ((p4.toUInt32 >>> ((3 : Int32) &&& 31).toUInt32).toInt32))]) (fun _ kz => XS.iushr X0.here hx rfl (hb hby at_100) rfl kz) ?_
        refine goS (n := 102) (Ls' := #[.val (.int p1), .val (.int p2), .val (.int p3), .val (.int p4), .val (.int l1), .val (.int a0c), .val (.int a1c), .val (.int a2c), .val (.int l2), .val (.int b0c), .val (.int b1c), .unset, .unset, .unset, .unset, .unset]) (st' := [(.int (1 : Int32)), (.int ((p4.toUInt32 >>> ((3 : Int32) &&& 31).toUInt32).toInt32))]) (fun _ kz => XS.iconst X0.here hx rfl (hb hby at_101) kz) ?_
        refine goS (n := 103) (Ls' := #[.val (.int p1), .val (.int p2), .val (.int p3), .val (.int p4), .val (.int l1), .val (.int a0c), .val (.int a1c), .val (.int a2c), .val (.int l2), .val (.int b0c), .val (.int b1c), .unset, .unset, .unset, .unset, .unset]) (st' := [(.int (((p4.toUInt32 >>> ((3 : Int32) &&& 31).toUInt32).toInt32) &&& (1 : Int32)))]) (fun _ kz => XS.iand X0.here hx rfl (hb hby at_102) rfl kz) ?_
        have jn4 : ∀ b2c : Int32, ((¬ b2c < 0 ∧ ¬ (255 : Int32) < b2c)) → Go p e below (PQH Z own_EL s room_1.cells room_1.slots (Q_law Z p1 p2 p3 p4 wE cs h0 n0)) s₁ (mkF m 120 #[.val (.int p1), .val (.int p2), .val (.int p3), .val (.int p4), .val (.int l1), .val (.int a0c), .val (.int a1c), .val (.int a2c), .val (.int l2), .val (.int b0c), .val (.int b1c), .unset, .unset, .unset, .unset, .unset] [(.int b2c)]) := by
          intro b2c h_b2c
          refine goS (n := 122) (Ls' := #[.val (.int p1), .val (.int p2), .val (.int p3), .val (.int p4), .val (.int l1), .val (.int a0c), .val (.int a1c), .val (.int a2c), .val (.int l2), .val (.int b0c), .val (.int b1c), .val (.int b2c), .unset, .unset, .unset, .unset]) (st' := []) (fun _ kz => XS.istore X0.here hx rfl (hb hby at_120) rfl (l' := #[.val (.int p1), .val (.int p2), .val (.int p3), .val (.int p4), .val (.int l1), .val (.int a0c), .val (.int a1c), .val (.int a2c), .val (.int l2), .val (.int b0c), .val (.int b1c), .val (.int b2c), .unset, .unset, .unset, .unset]) rfl kz) ?_
          refine goS (n := 124) (Ls' := #[.val (.int p1), .val (.int p2), .val (.int p3), .val (.int p4), .val (.int l1), .val (.int a0c), .val (.int a1c), .val (.int a2c), .val (.int l2), .val (.int b0c), .val (.int b1c), .val (.int b2c), .unset, .unset, .unset, .unset]) (st' := [(.int l1)]) (fun _ kz => XS.iload X0.here hx rfl (hb hby at_122) rfl kz) ?_
          refine goS (n := 126) (Ls' := #[.val (.int p1), .val (.int p2), .val (.int p3), .val (.int p4), .val (.int l1), .val (.int a0c), .val (.int a1c), .val (.int a2c), .val (.int l2), .val (.int b0c), .val (.int b1c), .val (.int b2c), .unset, .unset, .unset, .unset]) (st' := [(.int a0c), (.int l1)]) (fun _ kz => XS.iload X0.here hx rfl (hb hby at_124) rfl kz) ?_
          refine goS (n := 128) (Ls' := #[.val (.int p1), .val (.int p2), .val (.int p3), .val (.int p4), .val (.int l1), .val (.int a0c), .val (.int a1c), .val (.int a2c), .val (.int l2), .val (.int b0c), .val (.int b1c), .val (.int b2c), .unset, .unset, .unset, .unset]) (st' := [(.int a1c), (.int a0c), (.int l1)]) (fun _ kz => XS.iload X0.here hx rfl (hb hby at_126) rfl kz) ?_
          refine goS (n := 130) (Ls' := #[.val (.int p1), .val (.int p2), .val (.int p3), .val (.int p4), .val (.int l1), .val (.int a0c), .val (.int a1c), .val (.int a2c), .val (.int l2), .val (.int b0c), .val (.int b1c), .val (.int b2c), .unset, .unset, .unset, .unset]) (st' := [(.int a2c), (.int a1c), (.int a0c), (.int l1)]) (fun _ kz => XS.iload X0.here hx rfl (hb hby at_128) rfl kz) ?_
          obtain ⟨vr5, _, ⟨T5, L5, k5, n5⟩, -, X5, hS5, hgr5, ⟨Lc5, hQ5, l5, y5, z5, hCr5⟩, st5⟩ := callSS X0 hx (y := (⟨"com/example/claimgate/claimgate/NamePatternExactlyPinLaw", "mk", "(ICCC)Ljava/lang/String;"⟩ : MethodName)) hown (mvT hZ (hw _ (List.mem_of_getElem? (i := 0) rfl))) (mvT hZ (hw _ (List.mem_of_getElem? (i := 1) rfl))) (mvT hZ (hw _ (List.mem_of_getElem? (i := 2) rfl))) (mvT hZ (hw _ (List.mem_of_getElem? (i := 3) rfl))) (by decide) (backOfSH (W := 0) (rm_mk l Z a0 hw [] l1 a0c a1c a2c cs h0 n0 O0 S_CS hcs ra0c ra1c ra2c) hZ (hw _ (List.mem_of_getElem? (i := 3) rfl)) (hw _ (List.mem_of_getElem? (i := 2) rfl)) (by decide) (by decide) hEL hC.1) (g := (mkF m 130 #[.val (.int p1), .val (.int p2), .val (.int p3), .val (.int p4), .val (.int l1), .val (.int a0c), .val (.int a1c), .val (.int a2c), .val (.int l2), .val (.int b0c), .val (.int b1c), .val (.int b2c), .unset, .unset, .unset, .unset] [(.int a2c), (.int a1c), (.int a0c), (.int l1)])) rfl (by rw [hml]; rfl) (argsL := [(.int l1), (.int a0c), (.int a1c), (.int a2c)]) (rest := []) (lenOf pd_6 rfl) rfl (by show 2 * 0 + _ ≤ _; exact Nat.le_of_eq rfl) (hb hby at_130) (fun _ _ => ⟨rfl, e0, (Nat.le_of_ble_eq_true rfl), (Nat.le_of_ble_eq_true rfl)⟩)
          dsimp only [Pt.U, Pt.locs, Pt.cells, Pt.slots] at X5 l5 y5 z5 st5 hQ5 hS5 hgr5 hCr5
          subst l5 y5 z5
          obtain ⟨X5, hS, hZ, hown⟩ := rebS hS (n1 := s₁.heap.size) (by rw [e0]; exact hk) X5 hS5 hgr5 hZ hown
          have hk : T5.heap.size ≤ T5.heap.size := Nat.le_refl _
          obtain ⟨a5, t5, kt5, rfl, N5q, K5, g_a5, za5, E_a5, F_value_a5, F_coder_a5, V_t5⟩ := hQ5
          have N5 := Fr.app N0 N5q
          have e5 : T5.heap = T5.heap := rfl
          have O5 := O0.keep K5 all0
          have hC := hC.trans hCr5
          refine goT (n := 133) (Ls' := #[.val (.int p1), .val (.int p2), .val (.int p3), .val (.int p4), .val (.int l1), .val (.int a0c), .val (.int a1c), .val (.int a2c), .val (.int l2), .val (.int b0c), .val (.int b1c), .val (.int b2c), .unset, .unset, .unset, .unset]) (st' := [(.ref a5)]) st5 ?_
          refine goS (n := 135) (Ls' := #[.val (.int p1), .val (.int p2), .val (.int p3), .val (.int p4), .val (.int l1), .val (.int a0c), .val (.int a1c), .val (.int a2c), .val (.int l2), .val (.int b0c), .val (.int b1c), .val (.int b2c), .val (.ref a5), .unset, .unset, .unset]) (st' := []) (fun _ kz => XS.astore X5.here hx rfl (hb hby at_133) rfl rfl (l' := #[.val (.int p1), .val (.int p2), .val (.int p3), .val (.int p4), .val (.int l1), .val (.int a0c), .val (.int a1c), .val (.int a2c), .val (.int l2), .val (.int b0c), .val (.int b1c), .val (.int b2c), .val (.ref a5), .unset, .unset, .unset]) rfl kz) ?_
          refine goS (n := 137) (Ls' := #[.val (.int p1), .val (.int p2), .val (.int p3), .val (.int p4), .val (.int l1), .val (.int a0c), .val (.int a1c), .val (.int a2c), .val (.int l2), .val (.int b0c), .val (.int b1c), .val (.int b2c), .val (.ref a5), .unset, .unset, .unset]) (st' := [(.int l2)]) (fun _ kz => XS.iload X5.here hx rfl (hb hby at_135) rfl kz) ?_
          refine goS (n := 139) (Ls' := #[.val (.int p1), .val (.int p2), .val (.int p3), .val (.int p4), .val (.int l1), .val (.int a0c), .val (.int a1c), .val (.int a2c), .val (.int l2), .val (.int b0c), .val (.int b1c), .val (.int b2c), .val (.ref a5), .unset, .unset, .unset]) (st' := [(.int b0c), (.int l2)]) (fun _ kz => XS.iload X5.here hx rfl (hb hby at_137) rfl kz) ?_
          refine goS (n := 141) (Ls' := #[.val (.int p1), .val (.int p2), .val (.int p3), .val (.int p4), .val (.int l1), .val (.int a0c), .val (.int a1c), .val (.int a2c), .val (.int l2), .val (.int b0c), .val (.int b1c), .val (.int b2c), .val (.ref a5), .unset, .unset, .unset]) (st' := [(.int b1c), (.int b0c), (.int l2)]) (fun _ kz => XS.iload X5.here hx rfl (hb hby at_139) rfl kz) ?_
          refine goS (n := 143) (Ls' := #[.val (.int p1), .val (.int p2), .val (.int p3), .val (.int p4), .val (.int l1), .val (.int a0c), .val (.int a1c), .val (.int a2c), .val (.int l2), .val (.int b0c), .val (.int b1c), .val (.int b2c), .val (.ref a5), .unset, .unset, .unset]) (st' := [(.int b2c), (.int b1c), (.int b0c), (.int l2)]) (fun _ kz => XS.iload X5.here hx rfl (hb hby at_141) rfl kz) ?_
          obtain ⟨vr6, _, ⟨T6, L6, k6, n6⟩, -, X6, hS6, hgr6, ⟨Lc6, hQ6, l6, y6, z6, hCr6⟩, st6⟩ := callSS X5 hx (y := (⟨"com/example/claimgate/claimgate/NamePatternExactlyPinLaw", "mk", "(ICCC)Ljava/lang/String;"⟩ : MethodName)) hown (mvT hZ (hw _ (List.mem_of_getElem? (i := 0) rfl))) (mvT hZ (hw _ (List.mem_of_getElem? (i := 1) rfl))) (mvT hZ (hw _ (List.mem_of_getElem? (i := 2) rfl))) (mvT hZ (hw _ (List.mem_of_getElem? (i := 3) rfl))) (by decide) (backOfSH (W := 0) (rm_mk l Z a0 hw [] l2 b0c b1c b2c cs T5.heap n0 O5 S_CS hcs h_b0c h_b1c h_b2c) hZ (hw _ (List.mem_of_getElem? (i := 3) rfl)) (hw _ (List.mem_of_getElem? (i := 2) rfl)) (by decide) (by decide) hEL hC.1) (g := (mkF m 143 #[.val (.int p1), .val (.int p2), .val (.int p3), .val (.int p4), .val (.int l1), .val (.int a0c), .val (.int a1c), .val (.int a2c), .val (.int l2), .val (.int b0c), .val (.int b1c), .val (.int b2c), .val (.ref a5), .unset, .unset, .unset] [(.int b2c), (.int b1c), (.int b0c), (.int l2)])) rfl (by rw [hml]; rfl) (argsL := [(.int l2), (.int b0c), (.int b1c), (.int b2c)]) (rest := []) (lenOf pd_6 rfl) rfl (by show 2 * 0 + _ ≤ _; exact Nat.le_of_eq rfl) (hb hby at_143) (fun _ _ => ⟨rfl, e5, (Nat.le_of_ble_eq_true rfl), (Nat.le_of_ble_eq_true rfl)⟩)
          dsimp only [Pt.U, Pt.locs, Pt.cells, Pt.slots] at X6 l6 y6 z6 st6 hQ6 hS6 hgr6 hCr6
          subst l6 y6 z6
          obtain ⟨X6, hS, hZ, hown⟩ := rebS hS (n1 := T5.heap.size) (by rw [e5]; exact hk) X6 hS6 hgr6 hZ hown
          have hk : T6.heap.size ≤ T6.heap.size := Nat.le_refl _
          obtain ⟨a6, t6, kt6, rfl, N6q, K6, g_a6, za6, E_a6, F_value_a6, F_coder_a6, V_t6⟩ := hQ6
          have ne_a5_a6 : a5 ≠ a6 := Nat.ne_of_lt (Nat.lt_of_lt_of_le E_a5.lt za6)
          have ne_t5_a6 : t5 ≠ a6 := Nat.ne_of_lt (Nat.lt_of_lt_of_le V_t5.lt za6)
          have N6 := Fr.app N5 N6q
          have e6 : T6.heap = T6.heap := rfl
          have O6 := O5.keep K6 all0
          have hC := hC.trans hCr6
          have E_a5 : Exa Z T6.heap a5 "java/lang/String" := E_a5.keep K6
          have F_value_a5 : Fld Z T6.heap a5 "java/lang/String" "value" "[B" (.ref t5) := F_value_a5.keep K6 nin0
          have F_coder_a5 : Fld Z T6.heap a5 "java/lang/String" "coder" "B" (.int (0 : Int32)) := F_coder_a5.keep K6 nin0
          have V_t5 : Arv Z T6.heap t5 kt5 .byte (Int32.ofNat (List.length (own_mk l1 a0c a1c a2c))) ((List.map (fun c : Int32 => c.toInt8.toInt32) (own_mk l1 a0c a1c a2c)).map Value.int) (.int (0 : Int32)) := V_t5.keep K6 nin0
          refine goT (n := 146) (Ls' := #[.val (.int p1), .val (.int p2), .val (.int p3), .val (.int p4), .val (.int l1), .val (.int a0c), .val (.int a1c), .val (.int a2c), .val (.int l2), .val (.int b0c), .val (.int b1c), .val (.int b2c), .val (.ref a5), .unset, .unset, .unset]) (st' := [(.ref a6)]) st6 ?_
          refine goS (n := 148) (Ls' := #[.val (.int p1), .val (.int p2), .val (.int p3), .val (.int p4), .val (.int l1), .val (.int a0c), .val (.int a1c), .val (.int a2c), .val (.int l2), .val (.int b0c), .val (.int b1c), .val (.int b2c), .val (.ref a5), .val (.ref a6), .unset, .unset]) (st' := []) (fun _ kz => XS.astore X6.here hx rfl (hb hby at_146) rfl rfl (l' := #[.val (.int p1), .val (.int p2), .val (.int p3), .val (.int p4), .val (.int l1), .val (.int a0c), .val (.int a1c), .val (.int a2c), .val (.int l2), .val (.int b0c), .val (.int b1c), .val (.int b2c), .val (.ref a5), .val (.ref a6), .unset, .unset]) rfl kz) ?_
          refine goS (n := 150) (Ls' := #[.val (.int p1), .val (.int p2), .val (.int p3), .val (.int p4), .val (.int l1), .val (.int a0c), .val (.int a1c), .val (.int a2c), .val (.int l2), .val (.int b0c), .val (.int b1c), .val (.int b2c), .val (.ref a5), .val (.ref a6), .unset, .unset]) (st' := [(.int l2)]) (fun _ kz => XS.iload X6.here hx rfl (hb hby at_148) rfl kz) ?_
          refine goS (n := 152) (Ls' := #[.val (.int p1), .val (.int p2), .val (.int p3), .val (.int p4), .val (.int l1), .val (.int a0c), .val (.int a1c), .val (.int a2c), .val (.int l2), .val (.int b0c), .val (.int b1c), .val (.int b2c), .val (.ref a5), .val (.ref a6), .unset, .unset]) (st' := [(.int l1), (.int l2)]) (fun _ kz => XS.iload X6.here hx rfl (hb hby at_150) rfl kz) ?_
          have jn7 : ∀ re : Int32, re = bi (l2 = l1 ∧ (l1 < (1 : Int32) ∨ b0c = a0c) ∧ (l1 < (2 : Int32) ∨ b1c = a1c) ∧ (l1 < (3 : Int32) ∨ b2c = a2c)) → Go p e below (PQH Z own_EL s room_1.cells room_1.slots (Q_law Z p1 p2 p3 p4 wE cs h0 n0)) T6 (mkF m 199 #[.val (.int p1), .val (.int p2), .val (.int p3), .val (.int p4), .val (.int l1), .val (.int a0c), .val (.int a1c), .val (.int a2c), .val (.int l2), .val (.int b0c), .val (.int b1c), .val (.int b2c), .val (.ref a5), .val (.ref a6), .unset, .unset] [(.int re)]) := by
            intro re h_re
            refine goS (n := 201) (Ls' := #[.val (.int p1), .val (.int p2), .val (.int p3), .val (.int p4), .val (.int l1), .val (.int a0c), .val (.int a1c), .val (.int a2c), .val (.int l2), .val (.int b0c), .val (.int b1c), .val (.int b2c), .val (.ref a5), .val (.ref a6), .val (.int re), .unset]) (st' := []) (fun _ kz => XS.istore X6.here hx rfl (hb hby at_199) rfl (l' := #[.val (.int p1), .val (.int p2), .val (.int p3), .val (.int p4), .val (.int l1), .val (.int a0c), .val (.int a1c), .val (.int a2c), .val (.int l2), .val (.int b0c), .val (.int b1c), .val (.int b2c), .val (.ref a5), .val (.ref a6), .val (.int re), .unset]) rfl kz) ?_
            refine goS (n := 203) (Ls' := #[.val (.int p1), .val (.int p2), .val (.int p3), .val (.int p4), .val (.int l1), .val (.int a0c), .val (.int a1c), .val (.int a2c), .val (.int l2), .val (.int b0c), .val (.int b1c), .val (.int b2c), .val (.ref a5), .val (.ref a6), .val (.int re), .unset]) (st' := [(.ref a5)]) (fun _ kz => XS.aload X6.here hx rfl (hb hby at_201) rfl rfl kz) ?_
            obtain ⟨vr8, _, ⟨T8, L8, k8, n8⟩, -, X8, ⟨Lc8, hQ8, l8, y8, z8⟩, st8⟩ := Jvm.LawKit.callS X6 hx (y := (⟨"com/example/claimgate/claimgate/NamePattern", "exactly", "(Ljava/lang/String;)Lcom/example/claimgate/claimgate/NamePattern;"⟩ : MethodName)) hown (mvT hZ (hw _ (List.mem_of_getElem? (i := 26) rfl))) (mvT hZ (hw _ (List.mem_of_getElem? (i := 27) rfl))) (mvT hZ (hw _ (List.mem_of_getElem? (i := 28) rfl))) (mvT hZ (hw _ (List.mem_of_getElem? (i := 29) rfl))) (by decide) (backOf (W := 0) (rm_exactly l Z a0 hw [] a5 wE T6.heap n0 O6 S_EXACT) hZ (hw _ (List.mem_of_getElem? (i := 29) rfl)) (hw _ (List.mem_of_getElem? (i := 28) rfl)) (by decide) (by decide)) (g := (mkF m 203 #[.val (.int p1), .val (.int p2), .val (.int p3), .val (.int p4), .val (.int l1), .val (.int a0c), .val (.int a1c), .val (.int a2c), .val (.int l2), .val (.int b0c), .val (.int b1c), .val (.int b2c), .val (.ref a5), .val (.ref a6), .val (.int re), .unset] [(.ref a5)])) rfl (by rw [hml]; rfl) (argsL := [(.ref a5)]) (rest := []) (lenOf pd_7 rfl) rfl (by show 2 * 0 + _ ≤ _; exact Nat.le_of_eq rfl) (hb hby at_203) (fun _ _ => ⟨rfl, e6, (Nat.le_of_ble_eq_true rfl), (Nat.le_of_ble_eq_true rfl)⟩)
            dsimp only [Pt.U, Pt.locs, Pt.cells, Pt.slots] at X8 l8 y8 z8 st8 hQ8
            subst l8 y8 z8
            obtain ⟨np, rfl, N8q, K8, g_np, z_np, E_np, F_kind_np, F_text_np⟩ := hQ8
            have ne_a5_np : a5 ≠ np := Nat.ne_of_lt (Nat.lt_of_lt_of_le E_a5.lt z_np)
            have ne_t5_np : t5 ≠ np := Nat.ne_of_lt (Nat.lt_of_lt_of_le V_t5.lt z_np)
            have ne_a6_np : a6 ≠ np := Nat.ne_of_lt (Nat.lt_of_lt_of_le E_a6.lt z_np)
            have ne_t6_np : t6 ≠ np := Nat.ne_of_lt (Nat.lt_of_lt_of_le V_t6.lt z_np)
            have N8 := Fr.app N6 N8q
            have e8 : T8.heap = T8.heap := rfl
            have O8 := O6.keep K8 all0
            have hk := Nat.le_trans hk K8.1
            have sfw : ∀ x ∈ [], Safe Z own_EL T6.vm T6.heap x := sf0
            have hC := hC.trans (CHr.keep K8 sfw hC.1)
            have E_a5 : Exa Z T8.heap a5 "java/lang/String" := E_a5.keep K8
            have F_value_a5 : Fld Z T8.heap a5 "java/lang/String" "value" "[B" (.ref t5) := F_value_a5.keep K8 nin0
            have F_coder_a5 : Fld Z T8.heap a5 "java/lang/String" "coder" "B" (.int (0 : Int32)) := F_coder_a5.keep K8 nin0
            have V_t5 : Arv Z T8.heap t5 kt5 .byte (Int32.ofNat (List.length (own_mk l1 a0c a1c a2c))) ((List.map (fun c : Int32 => c.toInt8.toInt32) (own_mk l1 a0c a1c a2c)).map Value.int) (.int (0 : Int32)) := V_t5.keep K8 nin0
            have E_a6 : Exa Z T8.heap a6 "java/lang/String" := E_a6.keep K8
            have F_value_a6 : Fld Z T8.heap a6 "java/lang/String" "value" "[B" (.ref t6) := F_value_a6.keep K8 nin0
            have F_coder_a6 : Fld Z T8.heap a6 "java/lang/String" "coder" "B" (.int (0 : Int32)) := F_coder_a6.keep K8 nin0
            have V_t6 : Arv Z T8.heap t6 kt6 .byte (Int32.ofNat (List.length (own_mk l2 b0c b1c b2c))) ((List.map (fun c : Int32 => c.toInt8.toInt32) (own_mk l2 b0c b1c b2c)).map Value.int) (.int (0 : Int32)) := V_t6.keep K8 nin0
            refine goS (n := 206) (Ls' := #[.val (.int p1), .val (.int p2), .val (.int p3), .val (.int p4), .val (.int l1), .val (.int a0c), .val (.int a1c), .val (.int a2c), .val (.int l2), .val (.int b0c), .val (.int b1c), .val (.int b2c), .val (.ref a5), .val (.ref a6), .val (.int re), .unset]) (st' := [(.ref np)]) st8 ?_
            refine goS (n := 208) (Ls' := #[.val (.int p1), .val (.int p2), .val (.int p3), .val (.int p4), .val (.int l1), .val (.int a0c), .val (.int a1c), .val (.int a2c), .val (.int l2), .val (.int b0c), .val (.int b1c), .val (.int b2c), .val (.ref a5), .val (.ref a6), .val (.int re), .val (.ref np)]) (st' := []) (fun _ kz => XS.astore X8.here hx rfl (hb hby at_206) rfl rfl (l' := #[.val (.int p1), .val (.int p2), .val (.int p3), .val (.int p4), .val (.int l1), .val (.int a0c), .val (.int a1c), .val (.int a2c), .val (.int l2), .val (.int b0c), .val (.int b1c), .val (.int b2c), .val (.ref a5), .val (.ref a6), .val (.int re), .val (.ref np)]) rfl kz) ?_
            refine goS (n := 210) (Ls' := #[.val (.int p1), .val (.int p2), .val (.int p3), .val (.int p4), .val (.int l1), .val (.int a0c), .val (.int a1c), .val (.int a2c), .val (.int l2), .val (.int b0c), .val (.int b1c), .val (.int b2c), .val (.ref a5), .val (.ref a6), .val (.int re), .val (.ref np)]) (st' := [(.ref np)]) (fun _ kz => XS.aload X8.here hx rfl (hb hby at_208) rfl rfl kz) ?_
            obtain ⟨cq9, kq9, q9a, q9b, q9c⟩ := isOf hZ e8 E_np
            obtain ⟨vr9, _, ⟨T9, L9, k9, n9⟩, -, X9, ⟨Lc9, hQ9, l9, y9, z9⟩, st9⟩ := X8.virtualBack hx (y := (⟨"com/example/claimgate/claimgate/NamePattern", "kind", "()Lcom/example/claimgate/claimgate/NamePattern$Kind;"⟩ : MethodName)) (z := (⟨"com/example/claimgate/claimgate/NamePattern", "kind", "()Lcom/example/claimgate/claimgate/NamePattern$Kind;"⟩ : MethodName)) hown (mvT hZ (hw _ (List.mem_of_getElem? (i := 48) rfl))) (mvT hZ (hw _ (List.mem_of_getElem? (i := 49) rfl))) (notFace_of_selects (args := #[]) (mvT hZ (hw _ (List.mem_of_getElem? (i := 51) rfl)))) (mvT hZ (hw _ (List.mem_of_getElem? (i := 51) rfl))) (mvT hZ (hw _ (List.mem_of_getElem? (i := 50) rfl))) (by decide) (backOf (W := 0) (rm_gkind l Z a0 hw [] np wE T8.heap n0 O8 F_kind_np) hZ (hw _ (List.mem_of_getElem? (i := 52) rfl)) (hw _ (List.mem_of_getElem? (i := 28) rfl)) (by decide) (by decide)) q9a q9c (g := (mkF m 210 #[.val (.int p1), .val (.int p2), .val (.int p3), .val (.int p4), .val (.int l1), .val (.int a0c), .val (.int a1c), .val (.int a2c), .val (.int l2), .val (.int b0c), .val (.int b1c), .val (.int b2c), .val (.ref a5), .val (.ref a6), .val (.int re), .val (.ref np)] [(.ref np)])) rfl (by rw [hml]; rfl) (Steps.refl _) (argsL := []) (rest := []) (lenOf pd_8 rfl) rfl (by show 2 * 0 + _ ≤ _; exact Nat.le_of_eq rfl) (hb hby at_210) (fun _ _ => ⟨rfl, e8, (Nat.le_of_ble_eq_true rfl), (Nat.le_of_ble_eq_true rfl)⟩)
            dsimp only [Pt.U, Pt.locs, Pt.cells, Pt.slots] at X9 l9 y9 z9 st9 hQ9
            subst l9 y9 z9
            obtain ⟨rfl, N9q, e9⟩ := hQ9
            have N9 := Fr.app N8 N9q
            refine goT (n := 213) (Ls' := #[.val (.int p1), .val (.int p2), .val (.int p3), .val (.int p4), .val (.int l1), .val (.int a0c), .val (.int a1c), .val (.int a2c), .val (.int l2), .val (.int b0c), .val (.int b1c), .val (.int b2c), .val (.ref a5), .val (.ref a6), .val (.int re), .val (.ref np)]) (st' := [(.ref wE)]) st9 ?_
            obtain ⟨T10, X10, e10, st10⟩ := getS2 X9 hx hZ hown (host := "") (Or.inl (hw _ (List.mem_of_getElem? (i := 53) rfl))) Via.refl e9 (S_EXACT.ext O8.2) (g := (mkF m 213 #[.val (.int p1), .val (.int p2), .val (.int p3), .val (.int p4), .val (.int l1), .val (.int a0c), .val (.int a1c), .val (.int a2c), .val (.int l2), .val (.int b0c), .val (.int b1c), .val (.int b2c), .val (.ref a5), .val (.ref a6), .val (.int re), .val (.ref np)] [(.ref wE)])) rfl (hb hby at_213)
            refine goS (n := 216) (Ls' := #[.val (.int p1), .val (.int p2), .val (.int p3), .val (.int p4), .val (.int l1), .val (.int a0c), .val (.int a1c), .val (.int a2c), .val (.int l2), .val (.int b0c), .val (.int b1c), .val (.int b2c), .val (.ref a5), .val (.ref a6), .val (.int re), .val (.ref np)]) (st' := [(.ref wE), (.ref wE)]) st10 ?_
            refine goS (n := 219) (Ls' := #[.val (.int p1), .val (.int p2), .val (.int p3), .val (.int p4), .val (.int l1), .val (.int a0c), .val (.int a1c), .val (.int a2c), .val (.int l2), .val (.int b0c), .val (.int b1c), .val (.int b2c), .val (.ref a5), .val (.ref a6), .val (.int re), .val (.ref np)]) (st' := []) (fun _ kz => Jvm.RoadKit.acmp (g := (mkF m 216 #[.val (.int p1), .val (.int p2), .val (.int p3), .val (.int p4), .val (.int l1), .val (.int a0c), .val (.int a1c), .val (.int a2c), .val (.int l2), .val (.int b0c), .val (.int b1c), .val (.int b2c), .val (.ref a5), .val (.ref a6), .val (.int re), .val (.ref np)] [(.ref wE), (.ref wE)])) X10 hx rfl rfl rfl (pc0 := 216) (pc' := 219) (same := true) rfl (hb hby at_216) rfl (decide_eq_true (congrArg Value.ref rfl)) (by decide) (by decide) kz) ?_
            refine goS (n := 221) (Ls' := #[.val (.int p1), .val (.int p2), .val (.int p3), .val (.int p4), .val (.int l1), .val (.int a0c), .val (.int a1c), .val (.int a2c), .val (.int l2), .val (.int b0c), .val (.int b1c), .val (.int b2c), .val (.ref a5), .val (.ref a6), .val (.int re), .val (.ref np)]) (st' := [(.ref np)]) (fun _ kz => XS.aload X10.here hx rfl (hb hby at_219) rfl rfl kz) ?_
            obtain ⟨cq11, kq11, q11a, q11b, q11c⟩ := isOf hZ e10 E_np
            obtain ⟨vr11, _, ⟨T11, L11, k11, n11⟩, -, X11, ⟨Lc11, hQ11, l11, y11, z11⟩, st11⟩ := X10.virtualBack hx (y := (⟨"com/example/claimgate/claimgate/NamePattern", "text", "()Ljava/lang/String;"⟩ : MethodName)) (z := (⟨"com/example/claimgate/claimgate/NamePattern", "text", "()Ljava/lang/String;"⟩ : MethodName)) hown (mvT hZ (hw _ (List.mem_of_getElem? (i := 54) rfl))) (mvT hZ (hw _ (List.mem_of_getElem? (i := 55) rfl))) (notFace_of_selects (args := #[]) (mvT hZ (hw _ (List.mem_of_getElem? (i := 57) rfl)))) (mvT hZ (hw _ (List.mem_of_getElem? (i := 57) rfl))) (mvT hZ (hw _ (List.mem_of_getElem? (i := 56) rfl))) (by decide) (backOf (W := 0) (rm_gtext l Z a0 hw [] np a5 T8.heap n0 O8 F_text_np) hZ (hw _ (List.mem_of_getElem? (i := 58) rfl)) (hw _ (List.mem_of_getElem? (i := 28) rfl)) (by decide) (by decide)) q11a q11c (g := (mkF m 221 #[.val (.int p1), .val (.int p2), .val (.int p3), .val (.int p4), .val (.int l1), .val (.int a0c), .val (.int a1c), .val (.int a2c), .val (.int l2), .val (.int b0c), .val (.int b1c), .val (.int b2c), .val (.ref a5), .val (.ref a6), .val (.int re), .val (.ref np)] [(.ref np)])) rfl (by rw [hml]; rfl) (Steps.refl _) (argsL := []) (rest := []) (lenOf pd_9 rfl) rfl (by show 2 * 0 + _ ≤ _; exact Nat.le_of_eq rfl) (hb hby at_221) (fun _ _ => ⟨rfl, e10, (Nat.le_of_ble_eq_true rfl), (Nat.le_of_ble_eq_true rfl)⟩)
            dsimp only [Pt.U, Pt.locs, Pt.cells, Pt.slots] at X11 l11 y11 z11 st11 hQ11
            subst l11 y11 z11
            obtain ⟨rfl, N11q, e11⟩ := hQ11
            have N11 := Fr.app N9 N11q
            refine goT (n := 224) (Ls' := #[.val (.int p1), .val (.int p2), .val (.int p3), .val (.int p4), .val (.int l1), .val (.int a0c), .val (.int a1c), .val (.int a2c), .val (.int l2), .val (.int b0c), .val (.int b1c), .val (.int b2c), .val (.ref a5), .val (.ref a6), .val (.int re), .val (.ref np)]) (st' := [(.ref a5)]) st11 ?_
            refine goS (n := 226) (Ls' := #[.val (.int p1), .val (.int p2), .val (.int p3), .val (.int p4), .val (.int l1), .val (.int a0c), .val (.int a1c), .val (.int a2c), .val (.int l2), .val (.int b0c), .val (.int b1c), .val (.int b2c), .val (.ref a5), .val (.ref a6), .val (.int re), .val (.ref np)]) (st' := [(.ref a5), (.ref a5)]) (fun _ kz => XS.aload X11.here hx rfl (hb hby at_224) rfl rfl kz) ?_
            obtain ⟨cq12, kq12, q12a, q12b, q12c⟩ := isOf hZ e11 E_a5
            obtain ⟨vr12, _, ⟨T12, L12, k12, n12⟩, -, X12, ⟨Lc12, hQ12, l12, y12, z12⟩, st12⟩ := X11.virtualBack hx (y := (⟨"java/lang/String", "equals", "(Ljava/lang/Object;)Z"⟩ : MethodName)) (z := (⟨"java/lang/String", "equals", "(Ljava/lang/Object;)Z"⟩ : MethodName)) hown (mvT hZ (hw _ (List.mem_of_getElem? (i := 59) rfl))) (mvT hZ (hw _ (List.mem_of_getElem? (i := 60) rfl))) (notFace_of_selects (args := #[]) (mvT hZ (hw _ (List.mem_of_getElem? (i := 62) rfl)))) (mvT hZ (hw _ (List.mem_of_getElem? (i := 62) rfl))) (mvT hZ (hw _ (List.mem_of_getElem? (i := 61) rfl))) (by decide) (StrChars.Road.eqW (W := 0) hZ (own_wordsEq hw) (kI := 4) (hw _ (List.mem_of_getElem? (i := 5) rfl)) E_a5 F_value_a5 F_coder_a5 V_t5 (own_cod (own_mkR l1 a0c a1c a2c ra0c ra1c ra2c)) (own_up (own_mkR l1 a0c a1c a2c ra0c ra1c ra2c)) (own_mkL l1 a0c a1c a2c) E_a5 F_value_a5 F_coder_a5 V_t5 (own_cod (own_mkR l1 a0c a1c a2c ra0c ra1c ra2c)) (own_up (own_mkR l1 a0c a1c a2c ra0c ra1c ra2c)) (own_mkL l1 a0c a1c a2c) (S_CS.ext O8.2) hcs (by decide) (by decide)) q12a q12c (g := (mkF m 226 #[.val (.int p1), .val (.int p2), .val (.int p3), .val (.int p4), .val (.int l1), .val (.int a0c), .val (.int a1c), .val (.int a2c), .val (.int l2), .val (.int b0c), .val (.int b1c), .val (.int b2c), .val (.ref a5), .val (.ref a6), .val (.int re), .val (.ref np)] [(.ref a5), (.ref a5)])) rfl (by rw [hml]; rfl) (Steps.refl _) (argsL := [(.ref a5)]) (rest := []) (lenOf pd_5 rfl) rfl (by show 2 * 0 + _ ≤ _; exact Nat.le_of_eq rfl) (hb hby at_226) (fun _ _ => ⟨rfl, e11, (Nat.le_of_ble_eq_true rfl), (Nat.le_of_ble_eq_true rfl)⟩)
            dsimp only [Pt.U, Pt.locs, Pt.cells, Pt.slots] at X12 l12 y12 z12 st12 hQ12
            subst l12 y12 z12
            obtain ⟨hv12, hL12, e12⟩ := hQ12
            have hvr12 : vr12 = some (.int (1 : Int32)) := hv12.elim (fun q => q.1) (fun q => absurd rfl q.2)
            subst hvr12
            subst hL12
            have N12q := Fr.nil n0
            have N12 := Fr.app N11 N12q
            refine goT (n := 229) (Ls' := #[.val (.int p1), .val (.int p2), .val (.int p3), .val (.int p4), .val (.int l1), .val (.int a0c), .val (.int a1c), .val (.int a2c), .val (.int l2), .val (.int b0c), .val (.int b1c), .val (.int b2c), .val (.ref a5), .val (.ref a6), .val (.int re), .val (.ref np)]) (st' := [(.int (1 : Int32))]) st12 ?_
            refine goS (n := 232) (Ls' := #[.val (.int p1), .val (.int p2), .val (.int p3), .val (.int p4), .val (.int l1), .val (.int a0c), .val (.int a1c), .val (.int a2c), .val (.int l2), .val (.int b0c), .val (.int b1c), .val (.int b2c), .val (.ref a5), .val (.ref a6), .val (.int re), .val (.ref np)]) (st' := []) (fun _ kz => XS.ifNo X12.here hx rfl (hb hby at_229) rfl (by decide) kz) ?_
            refine goS (n := 234) (Ls' := #[.val (.int p1), .val (.int p2), .val (.int p3), .val (.int p4), .val (.int l1), .val (.int a0c), .val (.int a1c), .val (.int a2c), .val (.int l2), .val (.int b0c), .val (.int b1c), .val (.int b2c), .val (.ref a5), .val (.ref a6), .val (.int re), .val (.ref np)]) (st' := [(.ref np)]) (fun _ kz => XS.aload X12.here hx rfl (hb hby at_232) rfl rfl kz) ?_
            refine goS (n := 236) (Ls' := #[.val (.int p1), .val (.int p2), .val (.int p3), .val (.int p4), .val (.int l1), .val (.int a0c), .val (.int a1c), .val (.int a2c), .val (.int l2), .val (.int b0c), .val (.int b1c), .val (.int b2c), .val (.ref a5), .val (.ref a6), .val (.int re), .val (.ref np)]) (st' := [(.ref a5), (.ref np)]) (fun _ kz => XS.aload X12.here hx rfl (hb hby at_234) rfl rfl kz) ?_
            obtain ⟨cq13, kq13, q13a, q13b, q13c⟩ := isOf hZ e12 E_np
            obtain ⟨vr13, _, ⟨T13, L13, k13, n13⟩, -, X13, ⟨Lc13, hQ13, l13, y13, z13⟩, st13⟩ := X12.virtualBack hx (y := (⟨"com/example/claimgate/claimgate/NamePattern", "matches", "(Ljava/lang/String;)Z"⟩ : MethodName)) (z := (⟨"com/example/claimgate/claimgate/NamePattern", "matches", "(Ljava/lang/String;)Z"⟩ : MethodName)) hown (mvT hZ (hw _ (List.mem_of_getElem? (i := 64) rfl))) (mvT hZ (hw _ (List.mem_of_getElem? (i := 65) rfl))) (notFace_of_selects (args := #[]) (mvT hZ (hw _ (List.mem_of_getElem? (i := 67) rfl)))) (mvT hZ (hw _ (List.mem_of_getElem? (i := 67) rfl))) (mvT hZ (hw _ (List.mem_of_getElem? (i := 66) rfl))) (by decide) (backOf (W := 0) (rm_matches l Z a0 hw [] np wE cs a5 t5 kt5 (own_mk l1 a0c a1c a2c) a5 t5 kt5 (own_mk l1 a0c a1c a2c) T8.heap n0 O8 S_CS hcs E_a5 F_value_a5 F_coder_a5 V_t5 (own_mkR l1 a0c a1c a2c ra0c ra1c ra2c) (own_mkL l1 a0c a1c a2c) E_a5 F_value_a5 F_coder_a5 V_t5 (own_mkR l1 a0c a1c a2c ra0c ra1c ra2c) (own_mkL l1 a0c a1c a2c) F_kind_np F_text_np FO EXE) hZ (hw _ (List.mem_of_getElem? (i := 68) rfl)) (hw _ (List.mem_of_getElem? (i := 28) rfl)) (by decide) (by decide)) q13a q13c (g := (mkF m 236 #[.val (.int p1), .val (.int p2), .val (.int p3), .val (.int p4), .val (.int l1), .val (.int a0c), .val (.int a1c), .val (.int a2c), .val (.int l2), .val (.int b0c), .val (.int b1c), .val (.int b2c), .val (.ref a5), .val (.ref a6), .val (.int re), .val (.ref np)] [(.ref a5), (.ref np)])) rfl (by rw [hml]; rfl) (Steps.refl _) (argsL := [(.ref a5)]) (rest := []) (lenOf pd_10 rfl) rfl (by show 2 * 0 + _ ≤ _; exact Nat.le_of_eq rfl) (hb hby at_236) (fun _ _ => ⟨rfl, e12, (Nat.le_of_ble_eq_true rfl), (Nat.le_of_ble_eq_true rfl)⟩)
            dsimp only [Pt.U, Pt.locs, Pt.cells, Pt.slots] at X13 l13 y13 z13 st13 hQ13
            subst l13 y13 z13
            obtain ⟨v13, N13q, e13⟩ := hQ13
            rw [bi_t rfl] at v13
            subst v13
            have N13 := Fr.app N12 N13q
            refine goT (n := 239) (Ls' := #[.val (.int p1), .val (.int p2), .val (.int p3), .val (.int p4), .val (.int l1), .val (.int a0c), .val (.int a1c), .val (.int a2c), .val (.int l2), .val (.int b0c), .val (.int b1c), .val (.int b2c), .val (.ref a5), .val (.ref a6), .val (.int re), .val (.ref np)]) (st' := [(.int (1 : Int32))]) st13 ?_
            refine goS (n := 242) (Ls' := #[.val (.int p1), .val (.int p2), .val (.int p3), .val (.int p4), .val (.int l1), .val (.int a0c), .val (.int a1c), .val (.int a2c), .val (.int l2), .val (.int b0c), .val (.int b1c), .val (.int b2c), .val (.ref a5), .val (.ref a6), .val (.int re), .val (.ref np)]) (st' := []) (fun _ kz => XS.ifNo X13.here hx rfl (hb hby at_239) rfl (by decide) kz) ?_
            refine goS (n := 244) (Ls' := #[.val (.int p1), .val (.int p2), .val (.int p3), .val (.int p4), .val (.int l1), .val (.int a0c), .val (.int a1c), .val (.int a2c), .val (.int l2), .val (.int b0c), .val (.int b1c), .val (.int b2c), .val (.ref a5), .val (.ref a6), .val (.int re), .val (.ref np)]) (st' := [(.ref np)]) (fun _ kz => XS.aload X13.here hx rfl (hb hby at_242) rfl rfl kz) ?_
            refine goS (n := 246) (Ls' := #[.val (.int p1), .val (.int p2), .val (.int p3), .val (.int p4), .val (.int l1), .val (.int a0c), .val (.int a1c), .val (.int a2c), .val (.int l2), .val (.int b0c), .val (.int b1c), .val (.int b2c), .val (.ref a5), .val (.ref a6), .val (.int re), .val (.ref np)]) (st' := [(.ref a6), (.ref np)]) (fun _ kz => XS.aload X13.here hx rfl (hb hby at_244) rfl rfl kz) ?_
            obtain ⟨cq14, kq14, q14a, q14b, q14c⟩ := isOf hZ e13 E_np
            obtain ⟨vr14, _, ⟨T14, L14, k14, n14⟩, -, X14, ⟨Lc14, hQ14, l14, y14, z14⟩, st14⟩ := X13.virtualBack hx (y := (⟨"com/example/claimgate/claimgate/NamePattern", "matches", "(Ljava/lang/String;)Z"⟩ : MethodName)) (z := (⟨"com/example/claimgate/claimgate/NamePattern", "matches", "(Ljava/lang/String;)Z"⟩ : MethodName)) hown (mvT hZ (hw _ (List.mem_of_getElem? (i := 64) rfl))) (mvT hZ (hw _ (List.mem_of_getElem? (i := 65) rfl))) (notFace_of_selects (args := #[]) (mvT hZ (hw _ (List.mem_of_getElem? (i := 67) rfl)))) (mvT hZ (hw _ (List.mem_of_getElem? (i := 67) rfl))) (mvT hZ (hw _ (List.mem_of_getElem? (i := 66) rfl))) (by decide) (backOf (W := 0) (rm_matches l Z a0 hw [] np wE cs a5 t5 kt5 (own_mk l1 a0c a1c a2c) a6 t6 kt6 (own_mk l2 b0c b1c b2c) T8.heap n0 O8 S_CS hcs E_a5 F_value_a5 F_coder_a5 V_t5 (own_mkR l1 a0c a1c a2c ra0c ra1c ra2c) (own_mkL l1 a0c a1c a2c) E_a6 F_value_a6 F_coder_a6 V_t6 (own_mkR l2 b0c b1c b2c h_b0c h_b1c h_b2c) (own_mkL l2 b0c b1c b2c) F_kind_np F_text_np FO EXE) hZ (hw _ (List.mem_of_getElem? (i := 68) rfl)) (hw _ (List.mem_of_getElem? (i := 28) rfl)) (by decide) (by decide)) q14a q14c (g := (mkF m 246 #[.val (.int p1), .val (.int p2), .val (.int p3), .val (.int p4), .val (.int l1), .val (.int a0c), .val (.int a1c), .val (.int a2c), .val (.int l2), .val (.int b0c), .val (.int b1c), .val (.int b2c), .val (.ref a5), .val (.ref a6), .val (.int re), .val (.ref np)] [(.ref a6), (.ref np)])) rfl (by rw [hml]; rfl) (Steps.refl _) (argsL := [(.ref a6)]) (rest := []) (lenOf pd_10 rfl) rfl (by show 2 * 0 + _ ≤ _; exact Nat.le_of_eq rfl) (hb hby at_246) (fun _ _ => ⟨rfl, e13, (Nat.le_of_ble_eq_true rfl), (Nat.le_of_ble_eq_true rfl)⟩)
            dsimp only [Pt.U, Pt.locs, Pt.cells, Pt.slots] at X14 l14 y14 z14 st14 hQ14
            subst l14 y14 z14
            obtain ⟨v14, N14q, e14⟩ := hQ14
            obtain ⟨rm, qrm⟩ : ∃ r, r = bi ((own_mk l2 b0c b1c b2c) = (own_mk l1 a0c a1c a2c)) := ⟨_, rfl⟩
            rw [← qrm] at v14
            subst v14
            have hrm : rm = re := by rw [qrm, h_re]; exact bi_iff (own_eqC l2 l1 b0c b1c b2c a0c a1c a2c h_l2 hl1)
            have N14 := Fr.app N13 N14q
            refine goT (n := 249) (Ls' := #[.val (.int p1), .val (.int p2), .val (.int p3), .val (.int p4), .val (.int l1), .val (.int a0c), .val (.int a1c), .val (.int a2c), .val (.int l2), .val (.int b0c), .val (.int b1c), .val (.int b2c), .val (.ref a5), .val (.ref a6), .val (.int re), .val (.ref np)]) (st' := [(.int rm)]) st14 ?_
            refine goS (n := 251) (Ls' := #[.val (.int p1), .val (.int p2), .val (.int p3), .val (.int p4), .val (.int l1), .val (.int a0c), .val (.int a1c), .val (.int a2c), .val (.int l2), .val (.int b0c), .val (.int b1c), .val (.int b2c), .val (.ref a5), .val (.ref a6), .val (.int re), .val (.ref np)]) (st' := [(.int re), (.int rm)]) (fun _ kz => XS.iload X14.here hx rfl (hb hby at_249) rfl kz) ?_
            refine goS (n := 254) (Ls' := #[.val (.int p1), .val (.int p2), .val (.int p3), .val (.int p4), .val (.int l1), .val (.int a0c), .val (.int a1c), .val (.int a2c), .val (.int l2), .val (.int b0c), .val (.int b1c), .val (.int b2c), .val (.ref a5), .val (.ref a6), .val (.int re), .val (.ref np)]) (st' := []) (fun _ kz => XS.icmpNo X14.here hx rfl (hb hby at_251) rfl (teq hrm).2 kz) ?_
            refine goS (n := 255) (Ls' := #[.val (.int p1), .val (.int p2), .val (.int p3), .val (.int p4), .val (.int l1), .val (.int a0c), .val (.int a1c), .val (.int a2c), .val (.int l2), .val (.int b0c), .val (.int b1c), .val (.int b2c), .val (.ref a5), .val (.ref a6), .val (.int re), .val (.ref np)]) (st' := [(.int (1 : Int32))]) (fun _ kz => XS.iconst X14.here hx rfl (hb hby at_254) kz) ?_
            refine goS (n := 259) (Ls' := #[.val (.int p1), .val (.int p2), .val (.int p3), .val (.int p4), .val (.int l1), .val (.int a0c), .val (.int a1c), .val (.int a2c), .val (.int l2), .val (.int b0c), .val (.int b1c), .val (.int b2c), .val (.ref a5), .val (.ref a6), .val (.int re), .val (.ref np)]) (st' := [(.int (1 : Int32))]) (fun _ kz => XS.goto X14.here hx rfl (pc0 := 255) (pc' := 259) rfl (hb hby at_255) (by decide) (by decide) kz) ?_
            exact goRetH X14 hx hlk hS (by rw [e14]; exact hk) hZ hEL (by rw [hh, e14]; exact hC) Bd.returns (narZ (Or.inr rfl)) (Or.inl ⟨rfl, Or.inr (Or.inl rfl), _, rfl⟩) (hb hby at_259) (by decide) (by decide) (by rw [e14]; exact ⟨rfl, N14⟩)
          by_cases hc15 : l2 = l1
          · refine goS (n := 155) (Ls' := #[.val (.int p1), .val (.int p2), .val (.int p3), .val (.int p4), .val (.int l1), .val (.int a0c), .val (.int a1c), .val (.int a2c), .val (.int l2), .val (.int b0c), .val (.int b1c), .val (.int b2c), .val (.ref a5), .val (.ref a6), .unset, .unset]) (st' := []) (fun _ kz => XS.icmpNo X6.here hx rfl (hb hby at_152) rfl (teq hc15).2 kz) ?_
            refine goS (n := 157) (Ls' := #[.val (.int p1), .val (.int p2), .val (.int p3), .val (.int p4), .val (.int l1), .val (.int a0c), .val (.int a1c), .val (.int a2c), .val (.int l2), .val (.int b0c), .val (.int b1c), .val (.int b2c), .val (.ref a5), .val (.ref a6), .unset, .unset]) (st' := [(.int l1)]) (fun _ kz => XS.iload X6.here hx rfl (hb hby at_155) rfl kz) ?_
            refine goS (n := 158) (Ls' := #[.val (.int p1), .val (.int p2), .val (.int p3), .val (.int p4), .val (.int l1), .val (.int a0c), .val (.int a1c), .val (.int a2c), .val (.int l2), .val (.int b0c), .val (.int b1c), .val (.int b2c), .val (.ref a5), .val (.ref a6), .unset, .unset]) (st' := [(.int (1 : Int32)), (.int l1)]) (fun _ kz => XS.iconst X6.here hx rfl (hb hby at_157) kz) ?_
            by_cases hc16 : l1 < (1 : Int32)
            · refine goS (n := 168) (Ls' := #[.val (.int p1), .val (.int p2), .val (.int p3), .val (.int p4), .val (.int l1), .val (.int a0c), .val (.int a1c), .val (.int a2c), .val (.int l2), .val (.int b0c), .val (.int b1c), .val (.int b2c), .val (.ref a5), .val (.ref a6), .unset, .unset]) (st' := []) (fun _ kz => XS.icmpYes X6.here hx rfl (pc0 := 158) (pc' := 168) rfl (hb hby at_158) rfl (tlt hc16).1 (by decide) (by decide) kz) ?_
              refine goS (n := 170) (Ls' := #[.val (.int p1), .val (.int p2), .val (.int p3), .val (.int p4), .val (.int l1), .val (.int a0c), .val (.int a1c), .val (.int a2c), .val (.int l2), .val (.int b0c), .val (.int b1c), .val (.int b2c), .val (.ref a5), .val (.ref a6), .unset, .unset]) (st' := [(.int l1)]) (fun _ kz => XS.iload X6.here hx rfl (hb hby at_168) rfl kz) ?_
              refine goS (n := 171) (Ls' := #[.val (.int p1), .val (.int p2), .val (.int p3), .val (.int p4), .val (.int l1), .val (.int a0c), .val (.int a1c), .val (.int a2c), .val (.int l2), .val (.int b0c), .val (.int b1c), .val (.int b2c), .val (.ref a5), .val (.ref a6), .unset, .unset]) (st' := [(.int (2 : Int32)), (.int l1)]) (fun _ kz => XS.iconst X6.here hx rfl (hb hby at_170) kz) ?_
              by_cases hc17 : l1 < (2 : Int32)
              · refine goS (n := 181) (Ls' := #[.val (.int p1), .val (.int p2), .val (.int p3), .val (.int p4), .val (.int l1), .val (.int a0c), .val (.int a1c), .val (.int a2c), .val (.int l2), .val (.int b0c), .val (.int b1c), .val (.int b2c), .val (.ref a5), .val (.ref a6), .unset, .unset]) (st' := []) (fun _ kz => XS.icmpYes X6.here hx rfl (pc0 := 171) (pc' := 181) rfl (hb hby at_171) rfl (tlt hc17).1 (by decide) (by decide) kz) ?_
                refine goS (n := 183) (Ls' := #[.val (.int p1), .val (.int p2), .val (.int p3), .val (.int p4), .val (.int l1), .val (.int a0c), .val (.int a1c), .val (.int a2c), .val (.int l2), .val (.int b0c), .val (.int b1c), .val (.int b2c), .val (.ref a5), .val (.ref a6), .unset, .unset]) (st' := [(.int l1)]) (fun _ kz => XS.iload X6.here hx rfl (hb hby at_181) rfl kz) ?_
                refine goS (n := 184) (Ls' := #[.val (.int p1), .val (.int p2), .val (.int p3), .val (.int p4), .val (.int l1), .val (.int a0c), .val (.int a1c), .val (.int a2c), .val (.int l2), .val (.int b0c), .val (.int b1c), .val (.int b2c), .val (.ref a5), .val (.ref a6), .unset, .unset]) (st' := [(.int (3 : Int32)), (.int l1)]) (fun _ kz => XS.iconst X6.here hx rfl (hb hby at_183) kz) ?_
                by_cases hc18 : l1 < (3 : Int32)
                · refine goS (n := 194) (Ls' := #[.val (.int p1), .val (.int p2), .val (.int p3), .val (.int p4), .val (.int l1), .val (.int a0c), .val (.int a1c), .val (.int a2c), .val (.int l2), .val (.int b0c), .val (.int b1c), .val (.int b2c), .val (.ref a5), .val (.ref a6), .unset, .unset]) (st' := []) (fun _ kz => XS.icmpYes X6.here hx rfl (pc0 := 184) (pc' := 194) rfl (hb hby at_184) rfl (tlt hc18).1 (by decide) (by decide) kz) ?_
                  refine goS (n := 195) (Ls' := #[.val (.int p1), .val (.int p2), .val (.int p3), .val (.int p4), .val (.int l1), .val (.int a0c), .val (.int a1c), .val (.int a2c), .val (.int l2), .val (.int b0c), .val (.int b1c), .val (.int b2c), .val (.ref a5), .val (.ref a6), .unset, .unset]) (st' := [(.int (1 : Int32))]) (fun _ kz => XS.iconst X6.here hx rfl (hb hby at_194) kz) ?_
                  refine goS (n := 199) (Ls' := #[.val (.int p1), .val (.int p2), .val (.int p3), .val (.int p4), .val (.int l1), .val (.int a0c), .val (.int a1c), .val (.int a2c), .val (.int l2), .val (.int b0c), .val (.int b1c), .val (.int b2c), .val (.ref a5), .val (.ref a6), .unset, .unset]) (st' := [(.int (1 : Int32))]) (fun _ kz => XS.goto X6.here hx rfl (pc0 := 195) (pc' := 199) rfl (hb hby at_195) (by decide) (by decide) kz) ?_
                  exact jn7 _ (((by intros; simp_all [bi]) : ∀ (P0 : Prop) (P1 : Prop) (P2 : Prop) (P3 : Prop) (P4 : Prop) (P5 : Prop) (P6 : Prop) [Decidable P0] [Decidable P1] [Decidable P2] [Decidable P3] [Decidable P4] [Decidable P5] [Decidable P6], ((P0)) → ((P1)) → ((P2)) → ((P3)) → (1 : Int32) = bi (P0 ∧ (P1 ∨ P4) ∧ (P2 ∨ P5) ∧ (P3 ∨ P6))) (l2 = l1) (l1 < (1 : Int32)) (l1 < (2 : Int32)) (l1 < (3 : Int32)) (b0c = a0c) (b1c = a1c) (b2c = a2c) hc15 hc16 hc17 hc18)
                · refine goS (n := 187) (Ls' := #[.val (.int p1), .val (.int p2), .val (.int p3), .val (.int p4), .val (.int l1), .val (.int a0c), .val (.int a1c), .val (.int a2c), .val (.int l2), .val (.int b0c), .val (.int b1c), .val (.int b2c), .val (.ref a5), .val (.ref a6), .unset, .unset]) (st' := []) (fun _ kz => XS.icmpNo X6.here hx rfl (hb hby at_184) rfl (flt hc18).1 kz) ?_
                  refine goS (n := 189) (Ls' := #[.val (.int p1), .val (.int p2), .val (.int p3), .val (.int p4), .val (.int l1), .val (.int a0c), .val (.int a1c), .val (.int a2c), .val (.int l2), .val (.int b0c), .val (.int b1c), .val (.int b2c), .val (.ref a5), .val (.ref a6), .unset, .unset]) (st' := [(.int b2c)]) (fun _ kz => XS.iload X6.here hx rfl (hb hby at_187) rfl kz) ?_
                  refine goS (n := 191) (Ls' := #[.val (.int p1), .val (.int p2), .val (.int p3), .val (.int p4), .val (.int l1), .val (.int a0c), .val (.int a1c), .val (.int a2c), .val (.int l2), .val (.int b0c), .val (.int b1c), .val (.int b2c), .val (.ref a5), .val (.ref a6), .unset, .unset]) (st' := [(.int a2c), (.int b2c)]) (fun _ kz => XS.iload X6.here hx rfl (hb hby at_189) rfl kz) ?_
                  by_cases hc19 : b2c = a2c
                  · refine goS (n := 194) (Ls' := #[.val (.int p1), .val (.int p2), .val (.int p3), .val (.int p4), .val (.int l1), .val (.int a0c), .val (.int a1c), .val (.int a2c), .val (.int l2), .val (.int b0c), .val (.int b1c), .val (.int b2c), .val (.ref a5), .val (.ref a6), .unset, .unset]) (st' := []) (fun _ kz => XS.icmpNo X6.here hx rfl (hb hby at_191) rfl (teq hc19).2 kz) ?_
                    refine goS (n := 195) (Ls' := #[.val (.int p1), .val (.int p2), .val (.int p3), .val (.int p4), .val (.int l1), .val (.int a0c), .val (.int a1c), .val (.int a2c), .val (.int l2), .val (.int b0c), .val (.int b1c), .val (.int b2c), .val (.ref a5), .val (.ref a6), .unset, .unset]) (st' := [(.int (1 : Int32))]) (fun _ kz => XS.iconst X6.here hx rfl (hb hby at_194) kz) ?_
                    refine goS (n := 199) (Ls' := #[.val (.int p1), .val (.int p2), .val (.int p3), .val (.int p4), .val (.int l1), .val (.int a0c), .val (.int a1c), .val (.int a2c), .val (.int l2), .val (.int b0c), .val (.int b1c), .val (.int b2c), .val (.ref a5), .val (.ref a6), .unset, .unset]) (st' := [(.int (1 : Int32))]) (fun _ kz => XS.goto X6.here hx rfl (pc0 := 195) (pc' := 199) rfl (hb hby at_195) (by decide) (by decide) kz) ?_
                    exact jn7 _ (((by intros; simp_all [bi]) : ∀ (P0 : Prop) (P1 : Prop) (P2 : Prop) (P3 : Prop) (P4 : Prop) (P5 : Prop) (P6 : Prop) [Decidable P0] [Decidable P1] [Decidable P2] [Decidable P3] [Decidable P4] [Decidable P5] [Decidable P6], ((P0)) → ((P1)) → ((P2)) → (¬ (P3)) → ((P6)) → (1 : Int32) = bi (P0 ∧ (P1 ∨ P4) ∧ (P2 ∨ P5) ∧ (P3 ∨ P6))) (l2 = l1) (l1 < (1 : Int32)) (l1 < (2 : Int32)) (l1 < (3 : Int32)) (b0c = a0c) (b1c = a1c) (b2c = a2c) hc15 hc16 hc17 hc18 hc19)
                  · refine goS (n := 198) (Ls' := #[.val (.int p1), .val (.int p2), .val (.int p3), .val (.int p4), .val (.int l1), .val (.int a0c), .val (.int a1c), .val (.int a2c), .val (.int l2), .val (.int b0c), .val (.int b1c), .val (.int b2c), .val (.ref a5), .val (.ref a6), .unset, .unset]) (st' := []) (fun _ kz => XS.icmpYes X6.here hx rfl (pc0 := 191) (pc' := 198) rfl (hb hby at_191) rfl (feq hc19).2 (by decide) (by decide) kz) ?_
                    refine goS (n := 199) (Ls' := #[.val (.int p1), .val (.int p2), .val (.int p3), .val (.int p4), .val (.int l1), .val (.int a0c), .val (.int a1c), .val (.int a2c), .val (.int l2), .val (.int b0c), .val (.int b1c), .val (.int b2c), .val (.ref a5), .val (.ref a6), .unset, .unset]) (st' := [(.int (0 : Int32))]) (fun _ kz => XS.iconst X6.here hx rfl (hb hby at_198) kz) ?_
                    exact jn7 _ (((by intros; simp_all [bi]) : ∀ (P0 : Prop) (P1 : Prop) (P2 : Prop) (P3 : Prop) (P4 : Prop) (P5 : Prop) (P6 : Prop) [Decidable P0] [Decidable P1] [Decidable P2] [Decidable P3] [Decidable P4] [Decidable P5] [Decidable P6], ((P0)) → ((P1)) → ((P2)) → (¬ (P3)) → (¬ (P6)) → (0 : Int32) = bi (P0 ∧ (P1 ∨ P4) ∧ (P2 ∨ P5) ∧ (P3 ∨ P6))) (l2 = l1) (l1 < (1 : Int32)) (l1 < (2 : Int32)) (l1 < (3 : Int32)) (b0c = a0c) (b1c = a1c) (b2c = a2c) hc15 hc16 hc17 hc18 hc19)
              · refine goS (n := 174) (Ls' := #[.val (.int p1), .val (.int p2), .val (.int p3), .val (.int p4), .val (.int l1), .val (.int a0c), .val (.int a1c), .val (.int a2c), .val (.int l2), .val (.int b0c), .val (.int b1c), .val (.int b2c), .val (.ref a5), .val (.ref a6), .unset, .unset]) (st' := []) (fun _ kz => XS.icmpNo X6.here hx rfl (hb hby at_171) rfl (flt hc17).1 kz) ?_
                refine goS (n := 176) (Ls' := #[.val (.int p1), .val (.int p2), .val (.int p3), .val (.int p4), .val (.int l1), .val (.int a0c), .val (.int a1c), .val (.int a2c), .val (.int l2), .val (.int b0c), .val (.int b1c), .val (.int b2c), .val (.ref a5), .val (.ref a6), .unset, .unset]) (st' := [(.int b1c)]) (fun _ kz => XS.iload X6.here hx rfl (hb hby at_174) rfl kz) ?_
                refine goS (n := 178) (Ls' := #[.val (.int p1), .val (.int p2), .val (.int p3), .val (.int p4), .val (.int l1), .val (.int a0c), .val (.int a1c), .val (.int a2c), .val (.int l2), .val (.int b0c), .val (.int b1c), .val (.int b2c), .val (.ref a5), .val (.ref a6), .unset, .unset]) (st' := [(.int a1c), (.int b1c)]) (fun _ kz => XS.iload X6.here hx rfl (hb hby at_176) rfl kz) ?_
                by_cases hc20 : b1c = a1c
                · refine goS (n := 181) (Ls' := #[.val (.int p1), .val (.int p2), .val (.int p3), .val (.int p4), .val (.int l1), .val (.int a0c), .val (.int a1c), .val (.int a2c), .val (.int l2), .val (.int b0c), .val (.int b1c), .val (.int b2c), .val (.ref a5), .val (.ref a6), .unset, .unset]) (st' := []) (fun _ kz => XS.icmpNo X6.here hx rfl (hb hby at_178) rfl (teq hc20).2 kz) ?_
                  refine goS (n := 183) (Ls' := #[.val (.int p1), .val (.int p2), .val (.int p3), .val (.int p4), .val (.int l1), .val (.int a0c), .val (.int a1c), .val (.int a2c), .val (.int l2), .val (.int b0c), .val (.int b1c), .val (.int b2c), .val (.ref a5), .val (.ref a6), .unset, .unset]) (st' := [(.int l1)]) (fun _ kz => XS.iload X6.here hx rfl (hb hby at_181) rfl kz) ?_
                  refine goS (n := 184) (Ls' := #[.val (.int p1), .val (.int p2), .val (.int p3), .val (.int p4), .val (.int l1), .val (.int a0c), .val (.int a1c), .val (.int a2c), .val (.int l2), .val (.int b0c), .val (.int b1c), .val (.int b2c), .val (.ref a5), .val (.ref a6), .unset, .unset]) (st' := [(.int (3 : Int32)), (.int l1)]) (fun _ kz => XS.iconst X6.here hx rfl (hb hby at_183) kz) ?_
                  by_cases hc21 : l1 < (3 : Int32)
                  · refine goS (n := 194) (Ls' := #[.val (.int p1), .val (.int p2), .val (.int p3), .val (.int p4), .val (.int l1), .val (.int a0c), .val (.int a1c), .val (.int a2c), .val (.int l2), .val (.int b0c), .val (.int b1c), .val (.int b2c), .val (.ref a5), .val (.ref a6), .unset, .unset]) (st' := []) (fun _ kz => XS.icmpYes X6.here hx rfl (pc0 := 184) (pc' := 194) rfl (hb hby at_184) rfl (tlt hc21).1 (by decide) (by decide) kz) ?_
                    refine goS (n := 195) (Ls' := #[.val (.int p1), .val (.int p2), .val (.int p3), .val (.int p4), .val (.int l1), .val (.int a0c), .val (.int a1c), .val (.int a2c), .val (.int l2), .val (.int b0c), .val (.int b1c), .val (.int b2c), .val (.ref a5), .val (.ref a6), .unset, .unset]) (st' := [(.int (1 : Int32))]) (fun _ kz => XS.iconst X6.here hx rfl (hb hby at_194) kz) ?_
                    refine goS (n := 199) (Ls' := #[.val (.int p1), .val (.int p2), .val (.int p3), .val (.int p4), .val (.int l1), .val (.int a0c), .val (.int a1c), .val (.int a2c), .val (.int l2), .val (.int b0c), .val (.int b1c), .val (.int b2c), .val (.ref a5), .val (.ref a6), .unset, .unset]) (st' := [(.int (1 : Int32))]) (fun _ kz => XS.goto X6.here hx rfl (pc0 := 195) (pc' := 199) rfl (hb hby at_195) (by decide) (by decide) kz) ?_
                    exact jn7 _ (((by intros; simp_all [bi]) : ∀ (P0 : Prop) (P1 : Prop) (P2 : Prop) (P3 : Prop) (P4 : Prop) (P5 : Prop) (P6 : Prop) [Decidable P0] [Decidable P1] [Decidable P2] [Decidable P3] [Decidable P4] [Decidable P5] [Decidable P6], ((P0)) → ((P1)) → (¬ (P2)) → ((P5)) → ((P3)) → (1 : Int32) = bi (P0 ∧ (P1 ∨ P4) ∧ (P2 ∨ P5) ∧ (P3 ∨ P6))) (l2 = l1) (l1 < (1 : Int32)) (l1 < (2 : Int32)) (l1 < (3 : Int32)) (b0c = a0c) (b1c = a1c) (b2c = a2c) hc15 hc16 hc17 hc20 hc21)
                  · refine goS (n := 187) (Ls' := #[.val (.int p1), .val (.int p2), .val (.int p3), .val (.int p4), .val (.int l1), .val (.int a0c), .val (.int a1c), .val (.int a2c), .val (.int l2), .val (.int b0c), .val (.int b1c), .val (.int b2c), .val (.ref a5), .val (.ref a6), .unset, .unset]) (st' := []) (fun _ kz => XS.icmpNo X6.here hx rfl (hb hby at_184) rfl (flt hc21).1 kz) ?_
                    refine goS (n := 189) (Ls' := #[.val (.int p1), .val (.int p2), .val (.int p3), .val (.int p4), .val (.int l1), .val (.int a0c), .val (.int a1c), .val (.int a2c), .val (.int l2), .val (.int b0c), .val (.int b1c), .val (.int b2c), .val (.ref a5), .val (.ref a6), .unset, .unset]) (st' := [(.int b2c)]) (fun _ kz => XS.iload X6.here hx rfl (hb hby at_187) rfl kz) ?_
                    refine goS (n := 191) (Ls' := #[.val (.int p1), .val (.int p2), .val (.int p3), .val (.int p4), .val (.int l1), .val (.int a0c), .val (.int a1c), .val (.int a2c), .val (.int l2), .val (.int b0c), .val (.int b1c), .val (.int b2c), .val (.ref a5), .val (.ref a6), .unset, .unset]) (st' := [(.int a2c), (.int b2c)]) (fun _ kz => XS.iload X6.here hx rfl (hb hby at_189) rfl kz) ?_
                    by_cases hc22 : b2c = a2c
                    · refine goS (n := 194) (Ls' := #[.val (.int p1), .val (.int p2), .val (.int p3), .val (.int p4), .val (.int l1), .val (.int a0c), .val (.int a1c), .val (.int a2c), .val (.int l2), .val (.int b0c), .val (.int b1c), .val (.int b2c), .val (.ref a5), .val (.ref a6), .unset, .unset]) (st' := []) (fun _ kz => XS.icmpNo X6.here hx rfl (hb hby at_191) rfl (teq hc22).2 kz) ?_
                      refine goS (n := 195) (Ls' := #[.val (.int p1), .val (.int p2), .val (.int p3), .val (.int p4), .val (.int l1), .val (.int a0c), .val (.int a1c), .val (.int a2c), .val (.int l2), .val (.int b0c), .val (.int b1c), .val (.int b2c), .val (.ref a5), .val (.ref a6), .unset, .unset]) (st' := [(.int (1 : Int32))]) (fun _ kz => XS.iconst X6.here hx rfl (hb hby at_194) kz) ?_
                      refine goS (n := 199) (Ls' := #[.val (.int p1), .val (.int p2), .val (.int p3), .val (.int p4), .val (.int l1), .val (.int a0c), .val (.int a1c), .val (.int a2c), .val (.int l2), .val (.int b0c), .val (.int b1c), .val (.int b2c), .val (.ref a5), .val (.ref a6), .unset, .unset]) (st' := [(.int (1 : Int32))]) (fun _ kz => XS.goto X6.here hx rfl (pc0 := 195) (pc' := 199) rfl (hb hby at_195) (by decide) (by decide) kz) ?_
                      exact jn7 _ (((by intros; simp_all [bi]) : ∀ (P0 : Prop) (P1 : Prop) (P2 : Prop) (P3 : Prop) (P4 : Prop) (P5 : Prop) (P6 : Prop) [Decidable P0] [Decidable P1] [Decidable P2] [Decidable P3] [Decidable P4] [Decidable P5] [Decidable P6], ((P0)) → ((P1)) → (¬ (P2)) → ((P5)) → (¬ (P3)) → ((P6)) → (1 : Int32) = bi (P0 ∧ (P1 ∨ P4) ∧ (P2 ∨ P5) ∧ (P3 ∨ P6))) (l2 = l1) (l1 < (1 : Int32)) (l1 < (2 : Int32)) (l1 < (3 : Int32)) (b0c = a0c) (b1c = a1c) (b2c = a2c) hc15 hc16 hc17 hc20 hc21 hc22)
                    · refine goS (n := 198) (Ls' := #[.val (.int p1), .val (.int p2), .val (.int p3), .val (.int p4), .val (.int l1), .val (.int a0c), .val (.int a1c), .val (.int a2c), .val (.int l2), .val (.int b0c), .val (.int b1c), .val (.int b2c), .val (.ref a5), .val (.ref a6), .unset, .unset]) (st' := []) (fun _ kz => XS.icmpYes X6.here hx rfl (pc0 := 191) (pc' := 198) rfl (hb hby at_191) rfl (feq hc22).2 (by decide) (by decide) kz) ?_
                      refine goS (n := 199) (Ls' := #[.val (.int p1), .val (.int p2), .val (.int p3), .val (.int p4), .val (.int l1), .val (.int a0c), .val (.int a1c), .val (.int a2c), .val (.int l2), .val (.int b0c), .val (.int b1c), .val (.int b2c), .val (.ref a5), .val (.ref a6), .unset, .unset]) (st' := [(.int (0 : Int32))]) (fun _ kz => XS.iconst X6.here hx rfl (hb hby at_198) kz) ?_
                      exact jn7 _ (((by intros; simp_all [bi]) : ∀ (P0 : Prop) (P1 : Prop) (P2 : Prop) (P3 : Prop) (P4 : Prop) (P5 : Prop) (P6 : Prop) [Decidable P0] [Decidable P1] [Decidable P2] [Decidable P3] [Decidable P4] [Decidable P5] [Decidable P6], ((P0)) → ((P1)) → (¬ (P2)) → ((P5)) → (¬ (P3)) → (¬ (P6)) → (0 : Int32) = bi (P0 ∧ (P1 ∨ P4) ∧ (P2 ∨ P5) ∧ (P3 ∨ P6))) (l2 = l1) (l1 < (1 : Int32)) (l1 < (2 : Int32)) (l1 < (3 : Int32)) (b0c = a0c) (b1c = a1c) (b2c = a2c) hc15 hc16 hc17 hc20 hc21 hc22)
                · refine goS (n := 198) (Ls' := #[.val (.int p1), .val (.int p2), .val (.int p3), .val (.int p4), .val (.int l1), .val (.int a0c), .val (.int a1c), .val (.int a2c), .val (.int l2), .val (.int b0c), .val (.int b1c), .val (.int b2c), .val (.ref a5), .val (.ref a6), .unset, .unset]) (st' := []) (fun _ kz => XS.icmpYes X6.here hx rfl (pc0 := 178) (pc' := 198) rfl (hb hby at_178) rfl (feq hc20).2 (by decide) (by decide) kz) ?_
                  refine goS (n := 199) (Ls' := #[.val (.int p1), .val (.int p2), .val (.int p3), .val (.int p4), .val (.int l1), .val (.int a0c), .val (.int a1c), .val (.int a2c), .val (.int l2), .val (.int b0c), .val (.int b1c), .val (.int b2c), .val (.ref a5), .val (.ref a6), .unset, .unset]) (st' := [(.int (0 : Int32))]) (fun _ kz => XS.iconst X6.here hx rfl (hb hby at_198) kz) ?_
                  exact jn7 _ (((by intros; simp_all [bi]) : ∀ (P0 : Prop) (P1 : Prop) (P2 : Prop) (P3 : Prop) (P4 : Prop) (P5 : Prop) (P6 : Prop) [Decidable P0] [Decidable P1] [Decidable P2] [Decidable P3] [Decidable P4] [Decidable P5] [Decidable P6], ((P0)) → ((P1)) → (¬ (P2)) → (¬ (P5)) → (0 : Int32) = bi (P0 ∧ (P1 ∨ P4) ∧ (P2 ∨ P5) ∧ (P3 ∨ P6))) (l2 = l1) (l1 < (1 : Int32)) (l1 < (2 : Int32)) (l1 < (3 : Int32)) (b0c = a0c) (b1c = a1c) (b2c = a2c) hc15 hc16 hc17 hc20)
            · refine goS (n := 161) (Ls' := #[.val (.int p1), .val (.int p2), .val (.int p3), .val (.int p4), .val (.int l1), .val (.int a0c), .val (.int a1c), .val (.int a2c), .val (.int l2), .val (.int b0c), .val (.int b1c), .val (.int b2c), .val (.ref a5), .val (.ref a6), .unset, .unset]) (st' := []) (fun _ kz => XS.icmpNo X6.here hx rfl (hb hby at_158) rfl (flt hc16).1 kz) ?_
              refine goS (n := 163) (Ls' := #[.val (.int p1), .val (.int p2), .val (.int p3), .val (.int p4), .val (.int l1), .val (.int a0c), .val (.int a1c), .val (.int a2c), .val (.int l2), .val (.int b0c), .val (.int b1c), .val (.int b2c), .val (.ref a5), .val (.ref a6), .unset, .unset]) (st' := [(.int b0c)]) (fun _ kz => XS.iload X6.here hx rfl (hb hby at_161) rfl kz) ?_
              refine goS (n := 165) (Ls' := #[.val (.int p1), .val (.int p2), .val (.int p3), .val (.int p4), .val (.int l1), .val (.int a0c), .val (.int a1c), .val (.int a2c), .val (.int l2), .val (.int b0c), .val (.int b1c), .val (.int b2c), .val (.ref a5), .val (.ref a6), .unset, .unset]) (st' := [(.int a0c), (.int b0c)]) (fun _ kz => XS.iload X6.here hx rfl (hb hby at_163) rfl kz) ?_
              by_cases hc23 : b0c = a0c
              · refine goS (n := 168) (Ls' := #[.val (.int p1), .val (.int p2), .val (.int p3), .val (.int p4), .val (.int l1), .val (.int a0c), .val (.int a1c), .val (.int a2c), .val (.int l2), .val (.int b0c), .val (.int b1c), .val (.int b2c), .val (.ref a5), .val (.ref a6), .unset, .unset]) (st' := []) (fun _ kz => XS.icmpNo X6.here hx rfl (hb hby at_165) rfl (teq hc23).2 kz) ?_
                refine goS (n := 170) (Ls' := #[.val (.int p1), .val (.int p2), .val (.int p3), .val (.int p4), .val (.int l1), .val (.int a0c), .val (.int a1c), .val (.int a2c), .val (.int l2), .val (.int b0c), .val (.int b1c), .val (.int b2c), .val (.ref a5), .val (.ref a6), .unset, .unset]) (st' := [(.int l1)]) (fun _ kz => XS.iload X6.here hx rfl (hb hby at_168) rfl kz) ?_
                refine goS (n := 171) (Ls' := #[.val (.int p1), .val (.int p2), .val (.int p3), .val (.int p4), .val (.int l1), .val (.int a0c), .val (.int a1c), .val (.int a2c), .val (.int l2), .val (.int b0c), .val (.int b1c), .val (.int b2c), .val (.ref a5), .val (.ref a6), .unset, .unset]) (st' := [(.int (2 : Int32)), (.int l1)]) (fun _ kz => XS.iconst X6.here hx rfl (hb hby at_170) kz) ?_
                by_cases hc24 : l1 < (2 : Int32)
                · refine goS (n := 181) (Ls' := #[.val (.int p1), .val (.int p2), .val (.int p3), .val (.int p4), .val (.int l1), .val (.int a0c), .val (.int a1c), .val (.int a2c), .val (.int l2), .val (.int b0c), .val (.int b1c), .val (.int b2c), .val (.ref a5), .val (.ref a6), .unset, .unset]) (st' := []) (fun _ kz => XS.icmpYes X6.here hx rfl (pc0 := 171) (pc' := 181) rfl (hb hby at_171) rfl (tlt hc24).1 (by decide) (by decide) kz) ?_
                  refine goS (n := 183) (Ls' := #[.val (.int p1), .val (.int p2), .val (.int p3), .val (.int p4), .val (.int l1), .val (.int a0c), .val (.int a1c), .val (.int a2c), .val (.int l2), .val (.int b0c), .val (.int b1c), .val (.int b2c), .val (.ref a5), .val (.ref a6), .unset, .unset]) (st' := [(.int l1)]) (fun _ kz => XS.iload X6.here hx rfl (hb hby at_181) rfl kz) ?_
                  refine goS (n := 184) (Ls' := #[.val (.int p1), .val (.int p2), .val (.int p3), .val (.int p4), .val (.int l1), .val (.int a0c), .val (.int a1c), .val (.int a2c), .val (.int l2), .val (.int b0c), .val (.int b1c), .val (.int b2c), .val (.ref a5), .val (.ref a6), .unset, .unset]) (st' := [(.int (3 : Int32)), (.int l1)]) (fun _ kz => XS.iconst X6.here hx rfl (hb hby at_183) kz) ?_
                  by_cases hc25 : l1 < (3 : Int32)
                  · refine goS (n := 194) (Ls' := #[.val (.int p1), .val (.int p2), .val (.int p3), .val (.int p4), .val (.int l1), .val (.int a0c), .val (.int a1c), .val (.int a2c), .val (.int l2), .val (.int b0c), .val (.int b1c), .val (.int b2c), .val (.ref a5), .val (.ref a6), .unset, .unset]) (st' := []) (fun _ kz => XS.icmpYes X6.here hx rfl (pc0 := 184) (pc' := 194) rfl (hb hby at_184) rfl (tlt hc25).1 (by decide) (by decide) kz) ?_
                    refine goS (n := 195) (Ls' := #[.val (.int p1), .val (.int p2), .val (.int p3), .val (.int p4), .val (.int l1), .val (.int a0c), .val (.int a1c), .val (.int a2c), .val (.int l2), .val (.int b0c), .val (.int b1c), .val (.int b2c), .val (.ref a5), .val (.ref a6), .unset, .unset]) (st' := [(.int (1 : Int32))]) (fun _ kz => XS.iconst X6.here hx rfl (hb hby at_194) kz) ?_
                    refine goS (n := 199) (Ls' := #[.val (.int p1), .val (.int p2), .val (.int p3), .val (.int p4), .val (.int l1), .val (.int a0c), .val (.int a1c), .val (.int a2c), .val (.int l2), .val (.int b0c), .val (.int b1c), .val (.int b2c), .val (.ref a5), .val (.ref a6), .unset, .unset]) (st' := [(.int (1 : Int32))]) (fun _ kz => XS.goto X6.here hx rfl (pc0 := 195) (pc' := 199) rfl (hb hby at_195) (by decide) (by decide) kz) ?_
                    exact jn7 _ (((by intros; simp_all [bi]) : ∀ (P0 : Prop) (P1 : Prop) (P2 : Prop) (P3 : Prop) (P4 : Prop) (P5 : Prop) (P6 : Prop) [Decidable P0] [Decidable P1] [Decidable P2] [Decidable P3] [Decidable P4] [Decidable P5] [Decidable P6], ((P0)) → (¬ (P1)) → ((P4)) → ((P2)) → ((P3)) → (1 : Int32) = bi (P0 ∧ (P1 ∨ P4) ∧ (P2 ∨ P5) ∧ (P3 ∨ P6))) (l2 = l1) (l1 < (1 : Int32)) (l1 < (2 : Int32)) (l1 < (3 : Int32)) (b0c = a0c) (b1c = a1c) (b2c = a2c) hc15 hc16 hc23 hc24 hc25)
                  · refine goS (n := 187) (Ls' := #[.val (.int p1), .val (.int p2), .val (.int p3), .val (.int p4), .val (.int l1), .val (.int a0c), .val (.int a1c), .val (.int a2c), .val (.int l2), .val (.int b0c), .val (.int b1c), .val (.int b2c), .val (.ref a5), .val (.ref a6), .unset, .unset]) (st' := []) (fun _ kz => XS.icmpNo X6.here hx rfl (hb hby at_184) rfl (flt hc25).1 kz) ?_
                    refine goS (n := 189) (Ls' := #[.val (.int p1), .val (.int p2), .val (.int p3), .val (.int p4), .val (.int l1), .val (.int a0c), .val (.int a1c), .val (.int a2c), .val (.int l2), .val (.int b0c), .val (.int b1c), .val (.int b2c), .val (.ref a5), .val (.ref a6), .unset, .unset]) (st' := [(.int b2c)]) (fun _ kz => XS.iload X6.here hx rfl (hb hby at_187) rfl kz) ?_
                    refine goS (n := 191) (Ls' := #[.val (.int p1), .val (.int p2), .val (.int p3), .val (.int p4), .val (.int l1), .val (.int a0c), .val (.int a1c), .val (.int a2c), .val (.int l2), .val (.int b0c), .val (.int b1c), .val (.int b2c), .val (.ref a5), .val (.ref a6), .unset, .unset]) (st' := [(.int a2c), (.int b2c)]) (fun _ kz => XS.iload X6.here hx rfl (hb hby at_189) rfl kz) ?_
                    by_cases hc26 : b2c = a2c
                    · refine goS (n := 194) (Ls' := #[.val (.int p1), .val (.int p2), .val (.int p3), .val (.int p4), .val (.int l1), .val (.int a0c), .val (.int a1c), .val (.int a2c), .val (.int l2), .val (.int b0c), .val (.int b1c), .val (.int b2c), .val (.ref a5), .val (.ref a6), .unset, .unset]) (st' := []) (fun _ kz => XS.icmpNo X6.here hx rfl (hb hby at_191) rfl (teq hc26).2 kz) ?_
                      refine goS (n := 195) (Ls' := #[.val (.int p1), .val (.int p2), .val (.int p3), .val (.int p4), .val (.int l1), .val (.int a0c), .val (.int a1c), .val (.int a2c), .val (.int l2), .val (.int b0c), .val (.int b1c), .val (.int b2c), .val (.ref a5), .val (.ref a6), .unset, .unset]) (st' := [(.int (1 : Int32))]) (fun _ kz => XS.iconst X6.here hx rfl (hb hby at_194) kz) ?_
                      refine goS (n := 199) (Ls' := #[.val (.int p1), .val (.int p2), .val (.int p3), .val (.int p4), .val (.int l1), .val (.int a0c), .val (.int a1c), .val (.int a2c), .val (.int l2), .val (.int b0c), .val (.int b1c), .val (.int b2c), .val (.ref a5), .val (.ref a6), .unset, .unset]) (st' := [(.int (1 : Int32))]) (fun _ kz => XS.goto X6.here hx rfl (pc0 := 195) (pc' := 199) rfl (hb hby at_195) (by decide) (by decide) kz) ?_
                      exact jn7 _ (((by intros; simp_all [bi]) : ∀ (P0 : Prop) (P1 : Prop) (P2 : Prop) (P3 : Prop) (P4 : Prop) (P5 : Prop) (P6 : Prop) [Decidable P0] [Decidable P1] [Decidable P2] [Decidable P3] [Decidable P4] [Decidable P5] [Decidable P6], ((P0)) → (¬ (P1)) → ((P4)) → ((P2)) → (¬ (P3)) → ((P6)) → (1 : Int32) = bi (P0 ∧ (P1 ∨ P4) ∧ (P2 ∨ P5) ∧ (P3 ∨ P6))) (l2 = l1) (l1 < (1 : Int32)) (l1 < (2 : Int32)) (l1 < (3 : Int32)) (b0c = a0c) (b1c = a1c) (b2c = a2c) hc15 hc16 hc23 hc24 hc25 hc26)
                    · refine goS (n := 198) (Ls' := #[.val (.int p1), .val (.int p2), .val (.int p3), .val (.int p4), .val (.int l1), .val (.int a0c), .val (.int a1c), .val (.int a2c), .val (.int l2), .val (.int b0c), .val (.int b1c), .val (.int b2c), .val (.ref a5), .val (.ref a6), .unset, .unset]) (st' := []) (fun _ kz => XS.icmpYes X6.here hx rfl (pc0 := 191) (pc' := 198) rfl (hb hby at_191) rfl (feq hc26).2 (by decide) (by decide) kz) ?_
                      refine goS (n := 199) (Ls' := #[.val (.int p1), .val (.int p2), .val (.int p3), .val (.int p4), .val (.int l1), .val (.int a0c), .val (.int a1c), .val (.int a2c), .val (.int l2), .val (.int b0c), .val (.int b1c), .val (.int b2c), .val (.ref a5), .val (.ref a6), .unset, .unset]) (st' := [(.int (0 : Int32))]) (fun _ kz => XS.iconst X6.here hx rfl (hb hby at_198) kz) ?_
                      exact jn7 _ (((by intros; simp_all [bi]) : ∀ (P0 : Prop) (P1 : Prop) (P2 : Prop) (P3 : Prop) (P4 : Prop) (P5 : Prop) (P6 : Prop) [Decidable P0] [Decidable P1] [Decidable P2] [Decidable P3] [Decidable P4] [Decidable P5] [Decidable P6], ((P0)) → (¬ (P1)) → ((P4)) → ((P2)) → (¬ (P3)) → (¬ (P6)) → (0 : Int32) = bi (P0 ∧ (P1 ∨ P4) ∧ (P2 ∨ P5) ∧ (P3 ∨ P6))) (l2 = l1) (l1 < (1 : Int32)) (l1 < (2 : Int32)) (l1 < (3 : Int32)) (b0c = a0c) (b1c = a1c) (b2c = a2c) hc15 hc16 hc23 hc24 hc25 hc26)
                · refine goS (n := 174) (Ls' := #[.val (.int p1), .val (.int p2), .val (.int p3), .val (.int p4), .val (.int l1), .val (.int a0c), .val (.int a1c), .val (.int a2c), .val (.int l2), .val (.int b0c), .val (.int b1c), .val (.int b2c), .val (.ref a5), .val (.ref a6), .unset, .unset]) (st' := []) (fun _ kz => XS.icmpNo X6.here hx rfl (hb hby at_171) rfl (flt hc24).1 kz) ?_
                  refine goS (n := 176) (Ls' := #[.val (.int p1), .val (.int p2), .val (.int p3), .val (.int p4), .val (.int l1), .val (.int a0c), .val (.int a1c), .val (.int a2c), .val (.int l2), .val (.int b0c), .val (.int b1c), .val (.int b2c), .val (.ref a5), .val (.ref a6), .unset, .unset]) (st' := [(.int b1c)]) (fun _ kz => XS.iload X6.here hx rfl (hb hby at_174) rfl kz) ?_
                  refine goS (n := 178) (Ls' := #[.val (.int p1), .val (.int p2), .val (.int p3), .val (.int p4), .val (.int l1), .val (.int a0c), .val (.int a1c), .val (.int a2c), .val (.int l2), .val (.int b0c), .val (.int b1c), .val (.int b2c), .val (.ref a5), .val (.ref a6), .unset, .unset]) (st' := [(.int a1c), (.int b1c)]) (fun _ kz => XS.iload X6.here hx rfl (hb hby at_176) rfl kz) ?_
                  by_cases hc27 : b1c = a1c
                  · refine goS (n := 181) (Ls' := #[.val (.int p1), .val (.int p2), .val (.int p3), .val (.int p4), .val (.int l1), .val (.int a0c), .val (.int a1c), .val (.int a2c), .val (.int l2), .val (.int b0c), .val (.int b1c), .val (.int b2c), .val (.ref a5), .val (.ref a6), .unset, .unset]) (st' := []) (fun _ kz => XS.icmpNo X6.here hx rfl (hb hby at_178) rfl (teq hc27).2 kz) ?_
                    refine goS (n := 183) (Ls' := #[.val (.int p1), .val (.int p2), .val (.int p3), .val (.int p4), .val (.int l1), .val (.int a0c), .val (.int a1c), .val (.int a2c), .val (.int l2), .val (.int b0c), .val (.int b1c), .val (.int b2c), .val (.ref a5), .val (.ref a6), .unset, .unset]) (st' := [(.int l1)]) (fun _ kz => XS.iload X6.here hx rfl (hb hby at_181) rfl kz) ?_
                    refine goS (n := 184) (Ls' := #[.val (.int p1), .val (.int p2), .val (.int p3), .val (.int p4), .val (.int l1), .val (.int a0c), .val (.int a1c), .val (.int a2c), .val (.int l2), .val (.int b0c), .val (.int b1c), .val (.int b2c), .val (.ref a5), .val (.ref a6), .unset, .unset]) (st' := [(.int (3 : Int32)), (.int l1)]) (fun _ kz => XS.iconst X6.here hx rfl (hb hby at_183) kz) ?_
                    by_cases hc28 : l1 < (3 : Int32)
                    · refine goS (n := 194) (Ls' := #[.val (.int p1), .val (.int p2), .val (.int p3), .val (.int p4), .val (.int l1), .val (.int a0c), .val (.int a1c), .val (.int a2c), .val (.int l2), .val (.int b0c), .val (.int b1c), .val (.int b2c), .val (.ref a5), .val (.ref a6), .unset, .unset]) (st' := []) (fun _ kz => XS.icmpYes X6.here hx rfl (pc0 := 184) (pc' := 194) rfl (hb hby at_184) rfl (tlt hc28).1 (by decide) (by decide) kz) ?_
                      refine goS (n := 195) (Ls' := #[.val (.int p1), .val (.int p2), .val (.int p3), .val (.int p4), .val (.int l1), .val (.int a0c), .val (.int a1c), .val (.int a2c), .val (.int l2), .val (.int b0c), .val (.int b1c), .val (.int b2c), .val (.ref a5), .val (.ref a6), .unset, .unset]) (st' := [(.int (1 : Int32))]) (fun _ kz => XS.iconst X6.here hx rfl (hb hby at_194) kz) ?_
                      refine goS (n := 199) (Ls' := #[.val (.int p1), .val (.int p2), .val (.int p3), .val (.int p4), .val (.int l1), .val (.int a0c), .val (.int a1c), .val (.int a2c), .val (.int l2), .val (.int b0c), .val (.int b1c), .val (.int b2c), .val (.ref a5), .val (.ref a6), .unset, .unset]) (st' := [(.int (1 : Int32))]) (fun _ kz => XS.goto X6.here hx rfl (pc0 := 195) (pc' := 199) rfl (hb hby at_195) (by decide) (by decide) kz) ?_
                      exact jn7 _ (((by intros; simp_all [bi]) : ∀ (P0 : Prop) (P1 : Prop) (P2 : Prop) (P3 : Prop) (P4 : Prop) (P5 : Prop) (P6 : Prop) [Decidable P0] [Decidable P1] [Decidable P2] [Decidable P3] [Decidable P4] [Decidable P5] [Decidable P6], ((P0)) → (¬ (P1)) → ((P4)) → (¬ (P2)) → ((P5)) → ((P3)) → (1 : Int32) = bi (P0 ∧ (P1 ∨ P4) ∧ (P2 ∨ P5) ∧ (P3 ∨ P6))) (l2 = l1) (l1 < (1 : Int32)) (l1 < (2 : Int32)) (l1 < (3 : Int32)) (b0c = a0c) (b1c = a1c) (b2c = a2c) hc15 hc16 hc23 hc24 hc27 hc28)
                    · refine goS (n := 187) (Ls' := #[.val (.int p1), .val (.int p2), .val (.int p3), .val (.int p4), .val (.int l1), .val (.int a0c), .val (.int a1c), .val (.int a2c), .val (.int l2), .val (.int b0c), .val (.int b1c), .val (.int b2c), .val (.ref a5), .val (.ref a6), .unset, .unset]) (st' := []) (fun _ kz => XS.icmpNo X6.here hx rfl (hb hby at_184) rfl (flt hc28).1 kz) ?_
                      refine goS (n := 189) (Ls' := #[.val (.int p1), .val (.int p2), .val (.int p3), .val (.int p4), .val (.int l1), .val (.int a0c), .val (.int a1c), .val (.int a2c), .val (.int l2), .val (.int b0c), .val (.int b1c), .val (.int b2c), .val (.ref a5), .val (.ref a6), .unset, .unset]) (st' := [(.int b2c)]) (fun _ kz => XS.iload X6.here hx rfl (hb hby at_187) rfl kz) ?_
                      refine goS (n := 191) (Ls' := #[.val (.int p1), .val (.int p2), .val (.int p3), .val (.int p4), .val (.int l1), .val (.int a0c), .val (.int a1c), .val (.int a2c), .val (.int l2), .val (.int b0c), .val (.int b1c), .val (.int b2c), .val (.ref a5), .val (.ref a6), .unset, .unset]) (st' := [(.int a2c), (.int b2c)]) (fun _ kz => XS.iload X6.here hx rfl (hb hby at_189) rfl kz) ?_
                      by_cases hc29 : b2c = a2c
                      · refine goS (n := 194) (Ls' := #[.val (.int p1), .val (.int p2), .val (.int p3), .val (.int p4), .val (.int l1), .val (.int a0c), .val (.int a1c), .val (.int a2c), .val (.int l2), .val (.int b0c), .val (.int b1c), .val (.int b2c), .val (.ref a5), .val (.ref a6), .unset, .unset]) (st' := []) (fun _ kz => XS.icmpNo X6.here hx rfl (hb hby at_191) rfl (teq hc29).2 kz) ?_
                        refine goS (n := 195) (Ls' := #[.val (.int p1), .val (.int p2), .val (.int p3), .val (.int p4), .val (.int l1), .val (.int a0c), .val (.int a1c), .val (.int a2c), .val (.int l2), .val (.int b0c), .val (.int b1c), .val (.int b2c), .val (.ref a5), .val (.ref a6), .unset, .unset]) (st' := [(.int (1 : Int32))]) (fun _ kz => XS.iconst X6.here hx rfl (hb hby at_194) kz) ?_
                        refine goS (n := 199) (Ls' := #[.val (.int p1), .val (.int p2), .val (.int p3), .val (.int p4), .val (.int l1), .val (.int a0c), .val (.int a1c), .val (.int a2c), .val (.int l2), .val (.int b0c), .val (.int b1c), .val (.int b2c), .val (.ref a5), .val (.ref a6), .unset, .unset]) (st' := [(.int (1 : Int32))]) (fun _ kz => XS.goto X6.here hx rfl (pc0 := 195) (pc' := 199) rfl (hb hby at_195) (by decide) (by decide) kz) ?_
                        exact jn7 _ (((by intros; simp_all [bi]) : ∀ (P0 : Prop) (P1 : Prop) (P2 : Prop) (P3 : Prop) (P4 : Prop) (P5 : Prop) (P6 : Prop) [Decidable P0] [Decidable P1] [Decidable P2] [Decidable P3] [Decidable P4] [Decidable P5] [Decidable P6], ((P0)) → (¬ (P1)) → ((P4)) → (¬ (P2)) → ((P5)) → (¬ (P3)) → ((P6)) → (1 : Int32) = bi (P0 ∧ (P1 ∨ P4) ∧ (P2 ∨ P5) ∧ (P3 ∨ P6))) (l2 = l1) (l1 < (1 : Int32)) (l1 < (2 : Int32)) (l1 < (3 : Int32)) (b0c = a0c) (b1c = a1c) (b2c = a2c) hc15 hc16 hc23 hc24 hc27 hc28 hc29)
                      · refine goS (n := 198) (Ls' := #[.val (.int p1), .val (.int p2), .val (.int p3), .val (.int p4), .val (.int l1), .val (.int a0c), .val (.int a1c), .val (.int a2c), .val (.int l2), .val (.int b0c), .val (.int b1c), .val (.int b2c), .val (.ref a5), .val (.ref a6), .unset, .unset]) (st' := []) (fun _ kz => XS.icmpYes X6.here hx rfl (pc0 := 191) (pc' := 198) rfl (hb hby at_191) rfl (feq hc29).2 (by decide) (by decide) kz) ?_
                        refine goS (n := 199) (Ls' := #[.val (.int p1), .val (.int p2), .val (.int p3), .val (.int p4), .val (.int l1), .val (.int a0c), .val (.int a1c), .val (.int a2c), .val (.int l2), .val (.int b0c), .val (.int b1c), .val (.int b2c), .val (.ref a5), .val (.ref a6), .unset, .unset]) (st' := [(.int (0 : Int32))]) (fun _ kz => XS.iconst X6.here hx rfl (hb hby at_198) kz) ?_
                        exact jn7 _ (((by intros; simp_all [bi]) : ∀ (P0 : Prop) (P1 : Prop) (P2 : Prop) (P3 : Prop) (P4 : Prop) (P5 : Prop) (P6 : Prop) [Decidable P0] [Decidable P1] [Decidable P2] [Decidable P3] [Decidable P4] [Decidable P5] [Decidable P6], ((P0)) → (¬ (P1)) → ((P4)) → (¬ (P2)) → ((P5)) → (¬ (P3)) → (¬ (P6)) → (0 : Int32) = bi (P0 ∧ (P1 ∨ P4) ∧ (P2 ∨ P5) ∧ (P3 ∨ P6))) (l2 = l1) (l1 < (1 : Int32)) (l1 < (2 : Int32)) (l1 < (3 : Int32)) (b0c = a0c) (b1c = a1c) (b2c = a2c) hc15 hc16 hc23 hc24 hc27 hc28 hc29)
                  · refine goS (n := 198) (Ls' := #[.val (.int p1), .val (.int p2), .val (.int p3), .val (.int p4), .val (.int l1), .val (.int a0c), .val (.int a1c), .val (.int a2c), .val (.int l2), .val (.int b0c), .val (.int b1c), .val (.int b2c), .val (.ref a5), .val (.ref a6), .unset, .unset]) (st' := []) (fun _ kz => XS.icmpYes X6.here hx rfl (pc0 := 178) (pc' := 198) rfl (hb hby at_178) rfl (feq hc27).2 (by decide) (by decide) kz) ?_
                    refine goS (n := 199) (Ls' := #[.val (.int p1), .val (.int p2), .val (.int p3), .val (.int p4), .val (.int l1), .val (.int a0c), .val (.int a1c), .val (.int a2c), .val (.int l2), .val (.int b0c), .val (.int b1c), .val (.int b2c), .val (.ref a5), .val (.ref a6), .unset, .unset]) (st' := [(.int (0 : Int32))]) (fun _ kz => XS.iconst X6.here hx rfl (hb hby at_198) kz) ?_
                    exact jn7 _ (((by intros; simp_all [bi]) : ∀ (P0 : Prop) (P1 : Prop) (P2 : Prop) (P3 : Prop) (P4 : Prop) (P5 : Prop) (P6 : Prop) [Decidable P0] [Decidable P1] [Decidable P2] [Decidable P3] [Decidable P4] [Decidable P5] [Decidable P6], ((P0)) → (¬ (P1)) → ((P4)) → (¬ (P2)) → (¬ (P5)) → (0 : Int32) = bi (P0 ∧ (P1 ∨ P4) ∧ (P2 ∨ P5) ∧ (P3 ∨ P6))) (l2 = l1) (l1 < (1 : Int32)) (l1 < (2 : Int32)) (l1 < (3 : Int32)) (b0c = a0c) (b1c = a1c) (b2c = a2c) hc15 hc16 hc23 hc24 hc27)
              · refine goS (n := 198) (Ls' := #[.val (.int p1), .val (.int p2), .val (.int p3), .val (.int p4), .val (.int l1), .val (.int a0c), .val (.int a1c), .val (.int a2c), .val (.int l2), .val (.int b0c), .val (.int b1c), .val (.int b2c), .val (.ref a5), .val (.ref a6), .unset, .unset]) (st' := []) (fun _ kz => XS.icmpYes X6.here hx rfl (pc0 := 165) (pc' := 198) rfl (hb hby at_165) rfl (feq hc23).2 (by decide) (by decide) kz) ?_
                refine goS (n := 199) (Ls' := #[.val (.int p1), .val (.int p2), .val (.int p3), .val (.int p4), .val (.int l1), .val (.int a0c), .val (.int a1c), .val (.int a2c), .val (.int l2), .val (.int b0c), .val (.int b1c), .val (.int b2c), .val (.ref a5), .val (.ref a6), .unset, .unset]) (st' := [(.int (0 : Int32))]) (fun _ kz => XS.iconst X6.here hx rfl (hb hby at_198) kz) ?_
                exact jn7 _ (((by intros; simp_all [bi]) : ∀ (P0 : Prop) (P1 : Prop) (P2 : Prop) (P3 : Prop) (P4 : Prop) (P5 : Prop) (P6 : Prop) [Decidable P0] [Decidable P1] [Decidable P2] [Decidable P3] [Decidable P4] [Decidable P5] [Decidable P6], ((P0)) → (¬ (P1)) → (¬ (P4)) → (0 : Int32) = bi (P0 ∧ (P1 ∨ P4) ∧ (P2 ∨ P5) ∧ (P3 ∨ P6))) (l2 = l1) (l1 < (1 : Int32)) (l1 < (2 : Int32)) (l1 < (3 : Int32)) (b0c = a0c) (b1c = a1c) (b2c = a2c) hc15 hc16 hc23)
          · refine goS (n := 198) (Ls' := #[.val (.int p1), .val (.int p2), .val (.int p3), .val (.int p4), .val (.int l1), .val (.int a0c), .val (.int a1c), .val (.int a2c), .val (.int l2), .val (.int b0c), .val (.int b1c), .val (.int b2c), .val (.ref a5), .val (.ref a6), .unset, .unset]) (st' := []) (fun _ kz => XS.icmpYes X6.here hx rfl (pc0 := 152) (pc' := 198) rfl (hb hby at_152) rfl (feq hc15).2 (by decide) (by decide) kz) ?_
            refine goS (n := 199) (Ls' := #[.val (.int p1), .val (.int p2), .val (.int p3), .val (.int p4), .val (.int l1), .val (.int a0c), .val (.int a1c), .val (.int a2c), .val (.int l2), .val (.int b0c), .val (.int b1c), .val (.int b2c), .val (.ref a5), .val (.ref a6), .unset, .unset]) (st' := [(.int (0 : Int32))]) (fun _ kz => XS.iconst X6.here hx rfl (hb hby at_198) kz) ?_
            exact jn7 _ (((by intros; simp_all [bi]) : ∀ (P0 : Prop) (P1 : Prop) (P2 : Prop) (P3 : Prop) (P4 : Prop) (P5 : Prop) (P6 : Prop) [Decidable P0] [Decidable P1] [Decidable P2] [Decidable P3] [Decidable P4] [Decidable P5] [Decidable P6], (¬ (P0)) → (0 : Int32) = bi (P0 ∧ (P1 ∨ P4) ∧ (P2 ∨ P5) ∧ (P3 ∨ P6))) (l2 = l1) (l1 < (1 : Int32)) (l1 < (2 : Int32)) (l1 < (3 : Int32)) (b0c = a0c) (b1c = a1c) (b2c = a2c) hc15)
        by_cases hc30 : (((p4.toUInt32 >>> ((3 : Int32) &&& 31).toUInt32).toInt32) &&& (1 : Int32)) = (0 : Int32)
        · refine goS (n := 111) (Ls' := #[.val (.int p1), .val (.int p2), .val (.int p3), .val (.int p4), .val (.int l1), .val (.int a0c), .val (.int a1c), .val (.int a2c), .val (.int l2), .val (.int b0c), .val (.int b1c), .unset, .unset, .unset, .unset, .unset]) (st' := []) (fun _ kz => XS.ifYes X0.here hx rfl (pc0 := 103) (pc' := 111) rfl (hb hby at_103) rfl ((if0 _ _).trans (teq hc30).1) (by decide) (by decide) kz) ?_
          refine goS (n := 112) (Ls' := #[.val (.int p1), .val (.int p2), .val (.int p3), .val (.int p4), .val (.int l1), .val (.int a0c), .val (.int a1c), .val (.int a2c), .val (.int l2), .val (.int b0c), .val (.int b1c), .unset, .unset, .unset, .unset, .unset]) (st' := [(.int p3)]) (fun _ kz => XS.iloadN X0.here hx rfl (hb hby at_111) rfl kz) ?_
          refine goS (n := 114) (Ls' := #[.val (.int p1), .val (.int p2), .val (.int p3), .val (.int p4), .val (.int l1), .val (.int a0c), .val (.int a1c), .val (.int a2c), .val (.int l2), .val (.int b0c), .val (.int b1c), .unset, .unset, .unset, .unset, .unset]) (st' := [(.int (16 : Int32)), (.int p3)]) (fun _ kz => XS.bipush X0.here hx rfl (hb hby at_112) kz) ?_
          refine goS (n := 115) (Ls' := #[.val (.int p1), .val (.int p2), .val (.int p3), .val (.int p4), .val (.int l1), .val (.int a0c), .val (.int a1c), .val (.int a2c), .val (.int l2), .val (.int b0c), .val (.int b1c), .unset, .unset, .unset, .unset, .unset]) (st' := [(.int ((p3.toUInt32 >>> ((16 : Int32) &&& 31).toUInt32).toInt32))]) (fun _ kz => XS.iushr X0.here hx rfl (hb hby at_114) rfl kz) ?_
          refine goS (n := 118) (Ls' := #[.val (.int p1), .val (.int p2), .val (.int p3), .val (.int p4), .val (.int l1), .val (.int a0c), .val (.int a1c), .val (.int a2c), .val (.int l2), .val (.int b0c), .val (.int b1c), .unset, .unset, .unset, .unset, .unset]) (st' := [(.int (255 : Int32)), (.int ((p3.toUInt32 >>> ((16 : Int32) &&& 31).toUInt32).toInt32))]) (fun _ kz => XS.sipush X0.here hx rfl (hb hby at_115) kz) ?_
          refine goS (n := 119) (Ls' := #[.val (.int p1), .val (.int p2), .val (.int p3), .val (.int p4), .val (.int l1), .val (.int a0c), .val (.int a1c), .val (.int a2c), .val (.int l2), .val (.int b0c), .val (.int b1c), .unset, .unset, .unset, .unset, .unset]) (st' := [(.int (((p3.toUInt32 >>> ((16 : Int32) &&& 31).toUInt32).toInt32) &&& (255 : Int32)))]) (fun _ kz => XS.iand X0.here hx rfl (hb hby at_118) rfl kz) ?_
          refine goS (n := 120) (Ls' := #[.val (.int p1), .val (.int p2), .val (.int p3), .val (.int p4), .val (.int l1), .val (.int a0c), .val (.int a1c), .val (.int a2c), .val (.int l2), .val (.int b0c), .val (.int b1c), .unset, .unset, .unset, .unset, .unset]) (st' := [(.int ((((p3.toUInt32 >>> ((16 : Int32) &&& 31).toUInt32).toInt32) &&& (255 : Int32)).toUInt32.toUInt16.toUInt32.toInt32))]) (fun _ kz => XS.i2c X0.here hx rfl (hb hby at_119) rfl kz) ?_
          exact jn4 _ (own_cr _)
        · refine goS (n := 106) (Ls' := #[.val (.int p1), .val (.int p2), .val (.int p3), .val (.int p4), .val (.int l1), .val (.int a0c), .val (.int a1c), .val (.int a2c), .val (.int l2), .val (.int b0c), .val (.int b1c), .unset, .unset, .unset, .unset, .unset]) (st' := []) (fun _ kz => XS.ifNo X0.here hx rfl (hb hby at_103) rfl ((if0 _ _).trans (feq hc30).1) kz) ?_
          refine goS (n := 108) (Ls' := #[.val (.int p1), .val (.int p2), .val (.int p3), .val (.int p4), .val (.int l1), .val (.int a0c), .val (.int a1c), .val (.int a2c), .val (.int l2), .val (.int b0c), .val (.int b1c), .unset, .unset, .unset, .unset, .unset]) (st' := [(.int a2c)]) (fun _ kz => XS.iload X0.here hx rfl (hb hby at_106) rfl kz) ?_
          refine goS (n := 120) (Ls' := #[.val (.int p1), .val (.int p2), .val (.int p3), .val (.int p4), .val (.int l1), .val (.int a0c), .val (.int a1c), .val (.int a2c), .val (.int l2), .val (.int b0c), .val (.int b1c), .unset, .unset, .unset, .unset, .unset]) (st' := [(.int a2c)]) (fun _ kz => XS.goto X0.here hx rfl (pc0 := 108) (pc' := 120) rfl (hb hby at_108) (by decide) (by decide) kz) ?_
          exact jn4 _ (ra2c)
      by_cases hc31 : (((p4.toUInt32 >>> ((2 : Int32) &&& 31).toUInt32).toInt32) &&& (1 : Int32)) = (0 : Int32)
      · refine goS (n := 87) (Ls' := #[.val (.int p1), .val (.int p2), .val (.int p3), .val (.int p4), .val (.int l1), .val (.int a0c), .val (.int a1c), .val (.int a2c), .val (.int l2), .val (.int b0c), .unset, .unset, .unset, .unset, .unset, .unset]) (st' := []) (fun _ kz => XS.ifYes X0.here hx rfl (pc0 := 79) (pc' := 87) rfl (hb hby at_79) rfl ((if0 _ _).trans (teq hc31).1) (by decide) (by decide) kz) ?_
        refine goS (n := 88) (Ls' := #[.val (.int p1), .val (.int p2), .val (.int p3), .val (.int p4), .val (.int l1), .val (.int a0c), .val (.int a1c), .val (.int a2c), .val (.int l2), .val (.int b0c), .unset, .unset, .unset, .unset, .unset, .unset]) (st' := [(.int p3)]) (fun _ kz => XS.iloadN X0.here hx rfl (hb hby at_87) rfl kz) ?_
        refine goS (n := 90) (Ls' := #[.val (.int p1), .val (.int p2), .val (.int p3), .val (.int p4), .val (.int l1), .val (.int a0c), .val (.int a1c), .val (.int a2c), .val (.int l2), .val (.int b0c), .unset, .unset, .unset, .unset, .unset, .unset]) (st' := [(.int (8 : Int32)), (.int p3)]) (fun _ kz => XS.bipush X0.here hx rfl (hb hby at_88) kz) ?_
        refine goS (n := 91) (Ls' := #[.val (.int p1), .val (.int p2), .val (.int p3), .val (.int p4), .val (.int l1), .val (.int a0c), .val (.int a1c), .val (.int a2c), .val (.int l2), .val (.int b0c), .unset, .unset, .unset, .unset, .unset, .unset]) (st' := [(.int ((p3.toUInt32 >>> ((8 : Int32) &&& 31).toUInt32).toInt32))]) (fun _ kz => XS.iushr X0.here hx rfl (hb hby at_90) rfl kz) ?_
        refine goS (n := 94) (Ls' := #[.val (.int p1), .val (.int p2), .val (.int p3), .val (.int p4), .val (.int l1), .val (.int a0c), .val (.int a1c), .val (.int a2c), .val (.int l2), .val (.int b0c), .unset, .unset, .unset, .unset, .unset, .unset]) (st' := [(.int (255 : Int32)), (.int ((p3.toUInt32 >>> ((8 : Int32) &&& 31).toUInt32).toInt32))]) (fun _ kz => XS.sipush X0.here hx rfl (hb hby at_91) kz) ?_
        refine goS (n := 95) (Ls' := #[.val (.int p1), .val (.int p2), .val (.int p3), .val (.int p4), .val (.int l1), .val (.int a0c), .val (.int a1c), .val (.int a2c), .val (.int l2), .val (.int b0c), .unset, .unset, .unset, .unset, .unset, .unset]) (st' := [(.int (((p3.toUInt32 >>> ((8 : Int32) &&& 31).toUInt32).toInt32) &&& (255 : Int32)))]) (fun _ kz => XS.iand X0.here hx rfl (hb hby at_94) rfl kz) ?_
        refine goS (n := 96) (Ls' := #[.val (.int p1), .val (.int p2), .val (.int p3), .val (.int p4), .val (.int l1), .val (.int a0c), .val (.int a1c), .val (.int a2c), .val (.int l2), .val (.int b0c), .unset, .unset, .unset, .unset, .unset, .unset]) (st' := [(.int ((((p3.toUInt32 >>> ((8 : Int32) &&& 31).toUInt32).toInt32) &&& (255 : Int32)).toUInt32.toUInt16.toUInt32.toInt32))]) (fun _ kz => XS.i2c X0.here hx rfl (hb hby at_95) rfl kz) ?_
        exact jn3 _ (own_cr _)
      · refine goS (n := 82) (Ls' := #[.val (.int p1), .val (.int p2), .val (.int p3), .val (.int p4), .val (.int l1), .val (.int a0c), .val (.int a1c), .val (.int a2c), .val (.int l2), .val (.int b0c), .unset, .unset, .unset, .unset, .unset, .unset]) (st' := []) (fun _ kz => XS.ifNo X0.here hx rfl (hb hby at_79) rfl ((if0 _ _).trans (feq hc31).1) kz) ?_
        refine goS (n := 84) (Ls' := #[.val (.int p1), .val (.int p2), .val (.int p3), .val (.int p4), .val (.int l1), .val (.int a0c), .val (.int a1c), .val (.int a2c), .val (.int l2), .val (.int b0c), .unset, .unset, .unset, .unset, .unset, .unset]) (st' := [(.int a1c)]) (fun _ kz => XS.iload X0.here hx rfl (hb hby at_82) rfl kz) ?_
        refine goS (n := 96) (Ls' := #[.val (.int p1), .val (.int p2), .val (.int p3), .val (.int p4), .val (.int l1), .val (.int a0c), .val (.int a1c), .val (.int a2c), .val (.int l2), .val (.int b0c), .unset, .unset, .unset, .unset, .unset, .unset]) (st' := [(.int a1c)]) (fun _ kz => XS.goto X0.here hx rfl (pc0 := 84) (pc' := 96) rfl (hb hby at_84) (by decide) (by decide) kz) ?_
        exact jn3 _ (ra1c)
    by_cases hc32 : (((p4.toUInt32 >>> ((1 : Int32) &&& 31).toUInt32).toInt32) &&& (1 : Int32)) = (0 : Int32)
    · refine goS (n := 66) (Ls' := #[.val (.int p1), .val (.int p2), .val (.int p3), .val (.int p4), .val (.int l1), .val (.int a0c), .val (.int a1c), .val (.int a2c), .val (.int l2), .unset, .unset, .unset, .unset, .unset, .unset, .unset]) (st' := []) (fun _ kz => XS.ifYes X0.here hx rfl (pc0 := 58) (pc' := 66) rfl (hb hby at_58) rfl ((if0 _ _).trans (teq hc32).1) (by decide) (by decide) kz) ?_
      refine goS (n := 67) (Ls' := #[.val (.int p1), .val (.int p2), .val (.int p3), .val (.int p4), .val (.int l1), .val (.int a0c), .val (.int a1c), .val (.int a2c), .val (.int l2), .unset, .unset, .unset, .unset, .unset, .unset, .unset]) (st' := [(.int p3)]) (fun _ kz => XS.iloadN X0.here hx rfl (hb hby at_66) rfl kz) ?_
      refine goS (n := 70) (Ls' := #[.val (.int p1), .val (.int p2), .val (.int p3), .val (.int p4), .val (.int l1), .val (.int a0c), .val (.int a1c), .val (.int a2c), .val (.int l2), .unset, .unset, .unset, .unset, .unset, .unset, .unset]) (st' := [(.int (255 : Int32)), (.int p3)]) (fun _ kz => XS.sipush X0.here hx rfl (hb hby at_67) kz) ?_
      refine goS (n := 71) (Ls' := #[.val (.int p1), .val (.int p2), .val (.int p3), .val (.int p4), .val (.int l1), .val (.int a0c), .val (.int a1c), .val (.int a2c), .val (.int l2), .unset, .unset, .unset, .unset, .unset, .unset, .unset]) (st' := [(.int (p3 &&& (255 : Int32)))]) (fun _ kz => XS.iand X0.here hx rfl (hb hby at_70) rfl kz) ?_
      refine goS (n := 72) (Ls' := #[.val (.int p1), .val (.int p2), .val (.int p3), .val (.int p4), .val (.int l1), .val (.int a0c), .val (.int a1c), .val (.int a2c), .val (.int l2), .unset, .unset, .unset, .unset, .unset, .unset, .unset]) (st' := [(.int ((p3 &&& (255 : Int32)).toUInt32.toUInt16.toUInt32.toInt32))]) (fun _ kz => XS.i2c X0.here hx rfl (hb hby at_71) rfl kz) ?_
      exact jn2 _ (own_cr _)
    · refine goS (n := 61) (Ls' := #[.val (.int p1), .val (.int p2), .val (.int p3), .val (.int p4), .val (.int l1), .val (.int a0c), .val (.int a1c), .val (.int a2c), .val (.int l2), .unset, .unset, .unset, .unset, .unset, .unset, .unset]) (st' := []) (fun _ kz => XS.ifNo X0.here hx rfl (hb hby at_58) rfl ((if0 _ _).trans (feq hc32).1) kz) ?_
      refine goS (n := 63) (Ls' := #[.val (.int p1), .val (.int p2), .val (.int p3), .val (.int p4), .val (.int l1), .val (.int a0c), .val (.int a1c), .val (.int a2c), .val (.int l2), .unset, .unset, .unset, .unset, .unset, .unset, .unset]) (st' := [(.int a0c)]) (fun _ kz => XS.iload X0.here hx rfl (hb hby at_61) rfl kz) ?_
      refine goS (n := 72) (Ls' := #[.val (.int p1), .val (.int p2), .val (.int p3), .val (.int p4), .val (.int l1), .val (.int a0c), .val (.int a1c), .val (.int a2c), .val (.int l2), .unset, .unset, .unset, .unset, .unset, .unset, .unset]) (st' := [(.int a0c)]) (fun _ kz => XS.goto X0.here hx rfl (pc0 := 63) (pc' := 72) rfl (hb hby at_63) (by decide) (by decide) kz) ?_
      exact jn2 _ (ra0c)
  by_cases hc33 : (p4 &&& (1 : Int32)) = (0 : Int32)
  · refine goS (n := 41) (Ls' := #[.val (.int p1), .val (.int p2), .val (.int p3), .val (.int p4), .val (.int l1), .val (.int a0c), .val (.int a1c), .val (.int a2c), .unset, .unset, .unset, .unset, .unset, .unset, .unset, .unset]) (st' := []) (fun _ kz => XS.ifNo X0.here hx rfl (hb hby at_38) rfl ((if0 _ _).trans (teq hc33).2) kz) ?_
    refine goS (n := 43) (Ls' := #[.val (.int p1), .val (.int p2), .val (.int p3), .val (.int p4), .val (.int l1), .val (.int a0c), .val (.int a1c), .val (.int a2c), .unset, .unset, .unset, .unset, .unset, .unset, .unset, .unset]) (st' := [(.int l1)]) (fun _ kz => XS.iload X0.here hx rfl (hb hby at_41) rfl kz) ?_
    refine goS (n := 51) (Ls' := #[.val (.int p1), .val (.int p2), .val (.int p3), .val (.int p4), .val (.int l1), .val (.int a0c), .val (.int a1c), .val (.int a2c), .unset, .unset, .unset, .unset, .unset, .unset, .unset, .unset]) (st' := [(.int l1)]) (fun _ kz => XS.goto X0.here hx rfl (pc0 := 43) (pc' := 51) rfl (hb hby at_43) (by decide) (by decide) kz) ?_
    exact jn1 _ (hl1)
  · refine goS (n := 46) (Ls' := #[.val (.int p1), .val (.int p2), .val (.int p3), .val (.int p4), .val (.int l1), .val (.int a0c), .val (.int a1c), .val (.int a2c), .unset, .unset, .unset, .unset, .unset, .unset, .unset, .unset]) (st' := []) (fun _ kz => XS.ifYes X0.here hx rfl (pc0 := 38) (pc' := 46) rfl (hb hby at_38) rfl ((if0 _ _).trans (feq hc33).2) (by decide) (by decide) kz) ?_
    refine goS (n := 47) (Ls' := #[.val (.int p1), .val (.int p2), .val (.int p3), .val (.int p4), .val (.int l1), .val (.int a0c), .val (.int a1c), .val (.int a2c), .unset, .unset, .unset, .unset, .unset, .unset, .unset, .unset]) (st' := [(.int p1)]) (fun _ kz => XS.iloadN X0.here hx rfl (hb hby at_46) rfl kz) ?_
    refine goS (n := 48) (Ls' := #[.val (.int p1), .val (.int p2), .val (.int p3), .val (.int p4), .val (.int l1), .val (.int a0c), .val (.int a1c), .val (.int a2c), .unset, .unset, .unset, .unset, .unset, .unset, .unset, .unset]) (st' := [(.int (2 : Int32)), (.int p1)]) (fun _ kz => XS.iconst X0.here hx rfl (hb hby at_47) kz) ?_
    refine goS (n := 49) (Ls' := #[.val (.int p1), .val (.int p2), .val (.int p3), .val (.int p4), .val (.int l1), .val (.int a0c), .val (.int a1c), .val (.int a2c), .unset, .unset, .unset, .unset, .unset, .unset, .unset, .unset]) (st' := [(.int ((p1.toUInt32 >>> ((2 : Int32) &&& 31).toUInt32).toInt32))]) (fun _ kz => XS.iushr X0.here hx rfl (hb hby at_48) rfl kz) ?_
    refine goS (n := 50) (Ls' := #[.val (.int p1), .val (.int p2), .val (.int p3), .val (.int p4), .val (.int l1), .val (.int a0c), .val (.int a1c), .val (.int a2c), .unset, .unset, .unset, .unset, .unset, .unset, .unset, .unset]) (st' := [(.int (3 : Int32)), (.int ((p1.toUInt32 >>> ((2 : Int32) &&& 31).toUInt32).toInt32))]) (fun _ kz => XS.iconst X0.here hx rfl (hb hby at_49) kz) ?_
    refine goS (n := 51) (Ls' := #[.val (.int p1), .val (.int p2), .val (.int p3), .val (.int p4), .val (.int l1), .val (.int a0c), .val (.int a1c), .val (.int a2c), .unset, .unset, .unset, .unset, .unset, .unset, .unset, .unset]) (st' := [(.int (((p1.toUInt32 >>> ((2 : Int32) &&& 31).toUInt32).toInt32) &&& (3 : Int32)))]) (fun _ kz => XS.iand X0.here hx rfl (hb hby at_50) rfl kz) ?_
    exact jn1 _ (own_m3 _)
set_option maxRecDepth 65536 in
set_option maxHeartbeats 40000000 in
theorem comes_1 {Post : Tables → Env → Array Value → State → Outcome → State → Prop} (hpost : ∀ tb e args s v u, (limb_1_1.after args s (.returned v) u = true ∧ limb_1_2.after args s (.returned v) u = true ∧ True) → ReturnedEndW s (.returned v) u (Jvm.fieldLocs frame_1_writes args s ++ Jvm.arrayLocs frame_1_arrays args s ++ Jvm.staticLocs frame_1_statics s) 24 1152 → Post tb e args s (.returned v) u) :
    ArmFor flags0 classFile x code maxLocals ret World_1 tables_1 room_1 Calls_1 rest_1 Pre_1 Post := by
  intro l hfl _ _ p e ha hc hk s m args below hf hA hF happ hP
  obtain ⟨hcalls, hrest, hpre⟩ := hP
  obtain ⟨-, -, -, hnamed, -, -, -, hat⟩ := (Spec.applies_iff hf).mp happ
  obtain ⟨hg, hn⟩ := and_e (Cond.before_iff.mp (show (Jvm.Cond.and given_1 narrow_1).before args s = true from hpre))
  obtain ⟨g1, g2⟩ := and_e hg
  obtain ⟨g3, g4⟩ := and_e g2
  obtain ⟨g5, g6⟩ := and_e g4
  obtain ⟨g7, g8⟩ := and_e g6
  obtain ⟨w0, w1, w2, w3, rfl⟩ : ∃ w0 w1 w2 w3 : Value, args = #[w0, w1, w2, w3] := by
    have hs : args.size = 4 := by simpa [Cond.value, given_1] using g1
    obtain ⟨L⟩ := args
    match L, hs with
    | [w0, w1, w2, w3], _ => exact ⟨w0, w1, w2, w3, rfl⟩
  have hw := fun d (hd : d ∈ tables_1) => atoms_spec (ws := Jvm.Cond.code x code maxLocals ret :: tables_1) hat d (List.mem_cons_of_mem _ hd)
  have hfit : Fit s := fun {y c} hc i hi => by
    obtain ⟨ha, rfl⟩ := Array.getElem?_eq_some_iff.mp hc
    have q := List.all_eq_true.mp ((Array.all_eq_true_iff_forall_mem.mp hF) _ (Array.getElem_mem ha)) i (List.mem_range.mpr hi)
    simpa [Array.getElem?_eq_getElem hi] using q
  obtain ⟨hsets, hown0⟩ := atoms_of _ (rest_1_c_eq ▸ (show rest_1_c.before _ s = true from hrest))
  have hr0 := Cond.before_iff.mp hown0
  obtain ⟨i0, ei0⟩ := is_v g3
  obtain rfl : w0 = (.int i0) := Option.some.inj ei0
  obtain ⟨i1, ei1⟩ := is_v g5
  obtain rfl : w1 = (.int i1) := Option.some.inj ei1
  obtain ⟨i2, ei2⟩ := is_v g7
  obtain rfl : w2 = (.int i2) := Option.some.inj ei2
  obtain ⟨i3, ei3⟩ := is_v g8
  obtain rfl : w3 = (.int i3) := Option.some.inj ei3
  obtain ⟨nr1, nr2⟩ := and_e hn
  obtain ⟨w_EXACT, ev_EXACT⟩ := exa_v nr1
  have EX_EXACT : Exa s s.heap w_EXACT "com/example/claimgate/claimgate/NamePattern$Kind" := Exa.start ev_EXACT nr1
  have ST_EXACT : Sta s s.heap "com/example/claimgate/claimgate/NamePattern$Kind" "EXACT" "Lcom/example/claimgate/claimgate/NamePattern$Kind;" (.ref w_EXACT) := Sta.start ev_EXACT (Or.inr ⟨(hw _ (List.mem_of_getElem? (i := 33) rfl)), (hw _ (List.mem_of_getElem? (i := 34) rfl))⟩)
  have FL_EXACT_ordinal : Fld s s.heap w_EXACT "java/lang/Enum" "ordinal" "I" (.int (1 : Int32)) := fldStart ev_EXACT nr2
  obtain ⟨cs, ecs⟩ := is_v (Cond.before_iff.mp (hsets _ (List.mem_of_getElem? (i := 1) rfl)))
  have S_CS : Sta s s.heap "java/lang/String" "COMPACT_STRINGS" "Z" (.int cs) := Sta.start ecs (Or.inl (hsets _ (List.mem_of_getElem? (i := 0) rfl)))
  have hcs : ¬ cs = (0 : Int32) := gotF (Cond.eq_ints ecs (Term.int_eval _)) (not_v (Cond.before_iff.mp (hsets _ (List.mem_of_getElem? (i := 2) rfl))))
  have hCs : CHv s own_EL s.vm s.heap := CHv.start (own_EW hw) (fun p hp => hcalls.1 p hp) (by exact (hsets _ (List.mem_of_getElem? (i := 2) rfl))) (hw _ (List.mem_of_getElem? (i := 19) rfl)) (hw _ (List.mem_of_getElem? (i := 5) rfl))
  obtain ⟨n, o, h1, h2, h3, _, L, rfl, ⟨rfl, N⟩, -, hq⟩ := rm_law l s _ hw tables_1 i0 i1 i2 i3 w_EXACT cs s.heap s.heap.size (Old.start s) S_CS hcs ST_EXACT FL_EXACT_ordinal EX_EXACT p e ha hc hk s m _ below hf ((Spec.applies_iff_loose hf).mp happ).1 ⟨rfl, State.Warmed39.refl s, rfl, hCs⟩ trivial
  refine ⟨n, _, h1, h2, h3, hpost _ _ _ _ _ _ ⟨Cond.after_iff.mpr rfl, Cond.after_iff.mpr (eq_i res_at (Term.int_eval (1)) rfl), trivial⟩ ⟨hq.1, hq.2.1, hq.2.2.1, (hq.2.2.2.sift fun y hy => Or.inr (N y hy)).mono (by decide) (by decide)⟩⟩
theorem main_1_1 : Claimed_1_1 := comes_1 fun _ _ _ _ _ _ h hF => ⟨h.1, hF⟩
theorem main_1_2 : Claimed_1_2 := comes_1 fun _ _ _ _ _ _ h hF => ⟨h.2.1, hF⟩
end Jvm.Pilot.@@N@@
namespace Jvm.Pilot.@@N@@
open Jvm Jvm.ClassFile Sem Op Lib Jvm.Free Jvm.Stand Jvm.Pilot.@@N@@.Jvm.D
/-! MADE BY PROGRAM (witnessworld.py) out of the Statement's table words and the real class files: 23 classes; the members and pool entries that the words name. The judged class is class 1, her method 2. -/
namespace start1
open Jvm.ClassFile
def u (s : String) : CpInfo := .utf8 (stringToUtf16 s)
/-- a pool by its gaps: so many unusable entries, then the entry; so many at the end -/
def gap : Nat → List CpInfo → List CpInfo
  | 0, r => r
  | n + 1, r => .unusable :: gap n r
def poolList (es : List (Nat × CpInfo)) (last : Nat) : List CpInfo := es.foldr (fun e r => gap e.1 (e.2 :: r)) (gap last [])
def pool (es : List (Nat × CpInfo)) (last : Nat) : Array CpInfo := ⟨poolList es last⟩
def fileOf (pool : Array CpInfo) (this : Nat) (attrs : Array Attribute := #[]) (ms : Array MethodInfo := #[]) (fl : Nat := 33) (sup : Nat := 0) (ifs : Array Nat := #[]) (fds : Array FieldInfo := #[]) : ClassFile where
  minorVersion := 0
  majorVersion := 65
  constantPool := pool
  accessFlags := fl
  thisClass := this
  superClass := sup
  interfaces := ifs
  fields := fds
  methods := ms
  attributes := attrs
def plain (name : String) (sup : Option ClassId) : Class where
  name := name
  kind := .ordinary
  loader := none
  accessFlags := 33
  super := sup
  interfaces := #[]
  cf := none
  fields := #[]
  methods := #[]
  instanceTypes := #[]
  staticTypes := #[]
  resolved := #[]
  callSites := []
  init := .initialized
  statics := none
  mirror := none

def pool0 : Array CpInfo := pool [(5, u "<init>"), (0, u "()V"), (1, .class_ 10), (1, u "java/lang/Object")] 113

def k0c0 : Code := { maxStack := 0, maxLocals := 1, code := object_method_1_code, exceptionTable := #[], attributes := #[] }
def k0m0 : Method := { name := "<init>", desc := "()V", sig := { parameters := [], returnType := none }, accessFlags := 1, code := some k0c0 }
/-- java/lang/Object -/
def k0 : Class := { plain "java/lang/Object" none with
  accessFlags := 33
  interfaces := #[]
  cf := some (fileOf pool0 8 #[] #[{ accessFlags := 1, nameIndex := 5, descriptorIndex := 6, attributes := #[] }] 33 0 #[] #[])
  fields := #[]
  methods := #[k0m0]
  instanceTypes := #[]
  staticTypes := #[]
  resolved := Array.replicate 124 none
  statics := none }

def pool1 : Array CpInfo := pool [(2, .class_ 4), (1, u "java/lang/Object"), (0, u "<init>"), (0, u "()V"), (0, .class_ 8), (0, u "java/lang/String"), (0, .methodref 7 10), (0, .nameAndType 5 11), (0, u "([C)V"), (0, .methodref 13 14), (0, .class_ 15), (0, .nameAndType 16 17), (0, u "com/example/claimgate/claimgate/NamePatternExactlyPinLaw"), (0, u "mk"), (0, u "(ICCC)Ljava/lang/String;"), (0, .methodref 19 20), (0, .class_ 21), (0, .nameAndType 22 23), (0, u "com/example/claimgate/claimgate/NamePattern"), (0, u "exactly"), (0, u "(Ljava/lang/String;)Lcom/example/claimgate/claimgate/NamePattern;"), (0, .methodref 19 25), (0, .nameAndType 26 27), (0, u "kind"), (0, u "()Lcom/example/claimgate/claimgate/NamePattern$Kind;"), (0, .fieldref 29 30), (0, .class_ 31), (0, .nameAndType 32 33), (0, u "com/example/claimgate/claimgate/NamePattern$Kind"), (0, u "EXACT"), (0, u "Lcom/example/claimgate/claimgate/NamePattern$Kind;"), (0, .methodref 19 35), (0, .nameAndType 36 37), (0, u "text"), (0, u "()Ljava/lang/String;"), (0, .methodref 7 39), (0, .nameAndType 40 41), (0, u "equals"), (0, u "(Ljava/lang/Object;)Z"), (0, .methodref 19 43), (0, .nameAndType 44 45), (0, u "matches"), (0, u "(Ljava/lang/String;)Z"), (3, u "law"), (0, u "(IIII)Z")] 4

def k1m0 : Method := { name := "<init>", desc := "()V", sig := { parameters := [], returnType := none }, accessFlags := 1, code := none }
def k1c1 : Code := { maxStack := 6, maxLocals := 4, code := method_2_code, exceptionTable := #[], attributes := #[] }
def k1m1 : Method := { name := "mk", desc := "(ICCC)Ljava/lang/String;", sig := { parameters := [.int, .char, .char, .char], returnType := some (.object "java/lang/String") }, accessFlags := 10, code := some k1c1 }
def k1c2 : Code := { maxStack := 4, maxLocals := 16, code := code, exceptionTable := #[], attributes := #[] }
def k1m2 : Method := { name := "law", desc := "(IIII)Z", sig := { parameters := [.int, .int, .int, .int], returnType := some .boolean }, accessFlags := 9, code := some k1c2 }
/-- com/example/claimgate/claimgate/NamePatternExactlyPinLaw -/
def k1 : Class := { plain "com/example/claimgate/claimgate/NamePatternExactlyPinLaw" (some 0) with
  accessFlags := 49
  interfaces := #[]
  cf := some (fileOf pool1 13 #[] #[{ accessFlags := 1, nameIndex := 5, descriptorIndex := 6, attributes := #[] }, { accessFlags := 10, nameIndex := 16, descriptorIndex := 17, attributes := #[] }, { accessFlags := 9, nameIndex := 49, descriptorIndex := 50, attributes := #[] }] 49 2 #[] #[])
  fields := #[]
  methods := #[k1m0, k1m1, k1m2]
  instanceTypes := #[]
  staticTypes := #[]
  resolved := Array.replicate 55 none
  statics := none }

def pool2 : Array CpInfo := pool [(1, .class_ 2), (0, u "java/io/Serializable"), (0, .class_ 4), (0, u "java/lang/Object")] 2

/-- java/io/Serializable -/
def k2 : Class := { plain "java/io/Serializable" (some 0) with
  accessFlags := 1537
  interfaces := #[]
  cf := some (fileOf pool2 1 #[] #[] 1537 3 #[] #[])
  fields := #[]
  methods := #[]
  instanceTypes := #[]
  staticTypes := #[]
  resolved := Array.replicate 7 none
  statics := none }

def pool3 : Array CpInfo := pool [(1, .class_ 2), (0, u "java/lang/Comparable"), (0, .class_ 4), (0, u "java/lang/Object")] 7

/-- java/lang/Comparable -/
def k3 : Class := { plain "java/lang/Comparable" (some 0) with
  accessFlags := 1537
  interfaces := #[]
  cf := some (fileOf pool3 1 #[] #[] 1537 3 #[] #[])
  fields := #[]
  methods := #[]
  instanceTypes := #[]
  staticTypes := #[]
  resolved := Array.replicate 12 none
  statics := none }

def pool4 : Array CpInfo := pool [(2, .class_ 4), (1, u "java/lang/CharSequence"), (42, .class_ 48), (0, u "java/lang/CharSequence$1CodePointIterator"), (10, .class_ 60), (0, u "java/lang/CharSequence$1CharIterator"), (5, .class_ 67), (0, u "java/lang/Object")] 63

/-- java/lang/CharSequence -/
def k4 : Class := { plain "java/lang/CharSequence" (some 0) with
  accessFlags := 1537
  interfaces := #[]
  cf := some (fileOf pool4 2 #[.nestMembers #[47, 59]] #[] 1537 66 #[] #[])
  fields := #[]
  methods := #[]
  instanceTypes := #[]
  staticTypes := #[]
  resolved := Array.replicate 131 none
  statics := none }

def pool5 : Array CpInfo := pool [(1, .class_ 2), (0, u "java/lang/constant/Constable"), (0, .class_ 4), (0, u "java/lang/Object")] 6

/-- java/lang/constant/Constable -/
def k5 : Class := { plain "java/lang/constant/Constable" (some 0) with
  accessFlags := 1537
  interfaces := #[]
  cf := some (fileOf pool5 1 #[] #[] 1537 3 #[] #[])
  fields := #[]
  methods := #[]
  instanceTypes := #[]
  staticTypes := #[]
  resolved := Array.replicate 11 none
  statics := none }

def pool6 : Array CpInfo := pool [(1, .class_ 2), (0, u "java/lang/constant/ConstantDesc"), (0, .class_ 4), (0, u "java/lang/Object")] 32

/-- java/lang/constant/ConstantDesc -/
def k6 : Class := { plain "java/lang/constant/ConstantDesc" (some 0) with
  accessFlags := 1537
  interfaces := #[]
  cf := some (fileOf pool6 1 #[] #[] 1537 3 #[] #[])
  fields := #[]
  methods := #[]
  instanceTypes := #[]
  staticTypes := #[]
  resolved := Array.replicate 37 none
  statics := none }

def pool7 : Array CpInfo := pool [(1, .methodref 2 3), (0, .class_ 4), (0, .nameAndType 5 6), (0, u "java/lang/Object"), (0, u "<init>"), (0, u "()V"), (0, .string 8), (0, u ""), (0, .fieldref 10 11), (0, .class_ 12), (0, .nameAndType 13 14), (0, u "java/lang/String"), (0, u "value"), (0, u "[B"), (0, .fieldref 10 16), (0, .nameAndType 17 18), (0, u "coder"), (0, u "B"), (2, u "hash"), (0, u "I"), (2, u "hashIsZero"), (0, u "Z"), (0, .methodref 10 28), (0, .nameAndType 5 29), (0, u "([CIILjava/lang/Void;)V"), (8, .fieldref 10 39), (0, .nameAndType 40 26), (0, u "COMPACT_STRINGS"), (1, .class_ 44), (1, u "java/lang/StringUTF16"), (0, u "compress"), (1, .methodref 42 48), (0, .nameAndType 49 50), (0, u "coderFromArrayLen"), (0, u "([BI)B"), (56, .class_ 109), (1, u "java/lang/StringLatin1"), (67, .methodref 42 178), (0, .nameAndType 45 179), (0, u "([CII)[B"), (361, .methodref 107 542), (0, .nameAndType 543 544), (0, u "equals"), (0, u "([B[B)Z"), (28, u "(Ljava/lang/Object;)Z"), (1, .class_ 576), (0, u "java/lang/CharSequence"), (22, u "CASE_INSENSITIVE_ORDER"), (0, u "Ljava/util/Comparator;"), (409, u "([C)V"), (90, u "serialPersistentFields"), (0, u "[Ljava/io/ObjectStreamField;"), (0, .class_ 1104), (0, u "java/lang/String$CaseInsensitiveComparator"), (1, .class_ 1107), (0, u "java/io/Serializable"), (0, .class_ 1109), (0, u "java/lang/Comparable"), (0, .class_ 1111), (0, u "java/lang/constant/Constable"), (0, .class_ 1113), (0, u "java/lang/constant/ConstantDesc"), (2, u "serialVersionUID"), (0, u "J"), (3, u "REPL"), (0, u "C"), (2, u "LATIN1"), (1, u "UTF16")] 323

def k7m0 : Method := { name := "<init>", desc := "()V", sig := { parameters := [], returnType := none }, accessFlags := 1, code := none }
def k7c1 : Code := { maxStack := 5, maxLocals := 2, code := jdk_42_method_3_code, exceptionTable := #[], attributes := #[] }
def k7m1 : Method := { name := "<init>", desc := "([C)V", sig := { parameters := [(.array .char)], returnType := none }, accessFlags := 1, code := some k7c1 }
def k7c2 : Code := { maxStack := 2, maxLocals := 3, code := jdk_42_method_66_code, exceptionTable := #[], attributes := #[] }
def k7m2 : Method := { name := "equals", desc := "(Ljava/lang/Object;)Z", sig := { parameters := [(.object "java/lang/Object")], returnType := some .boolean }, accessFlags := 1, code := some k7c2 }
def k7c3 : Code := { maxStack := 4, maxLocals := 6, code := jdk_42_method_149_code, exceptionTable := #[], attributes := #[] }
def k7m3 : Method := { name := "<init>", desc := "([CIILjava/lang/Void;)V", sig := { parameters := [(.array .char), .int, .int, (.object "java/lang/Void")], returnType := none }, accessFlags := 2, code := some k7c3 }
/-- java/lang/String -/
def k7 : Class := { plain "java/lang/String" (some 0) with
  accessFlags := 49
  interfaces := #[2, 3, 4, 5, 6]
  cf := some (fileOf pool7 10 #[.nestMembers #[1103]] #[{ accessFlags := 1, nameIndex := 5, descriptorIndex := 6, attributes := #[] }, { accessFlags := 1, nameIndex := 5, descriptorIndex := 1010, attributes := #[] }, { accessFlags := 1, nameIndex := 543, descriptorIndex := 573, attributes := #[] }, { accessFlags := 2, nameIndex := 5, descriptorIndex := 29, attributes := #[] }] 49 2 #[1106, 1108, 575, 1110, 1112] #[{ accessFlags := 18, nameIndex := 13, descriptorIndex := 14, attributes := #[] }, { accessFlags := 18, nameIndex := 17, descriptorIndex := 18, attributes := #[] }, { accessFlags := 2, nameIndex := 21, descriptorIndex := 22, attributes := #[] }, { accessFlags := 2, nameIndex := 25, descriptorIndex := 26, attributes := #[] }, { accessFlags := 26, nameIndex := 1116, descriptorIndex := 1117, attributes := #[] }, { accessFlags := 24, nameIndex := 40, descriptorIndex := 26, attributes := #[] }, { accessFlags := 26, nameIndex := 1101, descriptorIndex := 1102, attributes := #[] }, { accessFlags := 26, nameIndex := 1121, descriptorIndex := 1122, attributes := #[] }, { accessFlags := 25, nameIndex := 599, descriptorIndex := 600, attributes := #[] }, { accessFlags := 24, nameIndex := 1125, descriptorIndex := 18, attributes := #[] }, { accessFlags := 24, nameIndex := 1127, descriptorIndex := 18, attributes := #[] }])
  fields := #[{ name := "value", type := (.array .byte), accessFlags := 18, slot := 0, constantValue := 0 }, { name := "coder", type := .byte, accessFlags := 18, slot := 1, constantValue := 0 }, { name := "hash", type := .int, accessFlags := 2, slot := 2, constantValue := 0 }, { name := "hashIsZero", type := .boolean, accessFlags := 2, slot := 3, constantValue := 0 }, { name := "serialVersionUID", type := .long, accessFlags := 26, slot := 0, constantValue := 0 }, { name := "COMPACT_STRINGS", type := .boolean, accessFlags := 24, slot := 1, constantValue := 0 }, { name := "serialPersistentFields", type := (.array (.object "java/io/ObjectStreamField")), accessFlags := 26, slot := 2, constantValue := 0 }, { name := "REPL", type := .char, accessFlags := 26, slot := 3, constantValue := 0 }, { name := "CASE_INSENSITIVE_ORDER", type := (.object "java/util/Comparator"), accessFlags := 25, slot := 4, constantValue := 0 }, { name := "LATIN1", type := .byte, accessFlags := 24, slot := 5, constantValue := 0 }, { name := "UTF16", type := .byte, accessFlags := 24, slot := 6, constantValue := 0 }]
  methods := #[k7m0, k7m1, k7m2, k7m3]
  instanceTypes := #[(.array .byte), .byte, .int, .boolean]
  staticTypes := #[.long, .boolean, (.array (.object "java/io/ObjectStreamField")), .char, (.object "java/util/Comparator"), .byte, .byte]
  resolved := Array.replicate 1451 none
  statics := some 0 }

def pool8 : Array CpInfo := pool [(1, .methodref 2 3), (0, .class_ 4), (0, .nameAndType 5 6), (0, u "java/lang/Object"), (0, u "<init>"), (0, u "()V"), (0, .class_ 8), (0, u "java/lang/Record")] 13

def k8c0 : Code := { maxStack := 1, maxLocals := 1, code := jdk_30_method_1_code, exceptionTable := #[], attributes := #[] }
def k8m0 : Method := { name := "<init>", desc := "()V", sig := { parameters := [], returnType := none }, accessFlags := 4, code := some k8c0 }
/-- java/lang/Record -/
def k8 : Class := { plain "java/lang/Record" (some 0) with
  accessFlags := 1057
  interfaces := #[]
  cf := some (fileOf pool8 7 #[] #[{ accessFlags := 4, nameIndex := 5, descriptorIndex := 6, attributes := #[] }] 1057 2 #[] #[])
  fields := #[]
  methods := #[k8m0]
  instanceTypes := #[]
  staticTypes := #[]
  resolved := Array.replicate 22 none
  statics := none }

def pool9 : Array CpInfo := pool [(1, .methodref 2 3), (0, .class_ 4), (0, .nameAndType 5 6), (0, u "java/lang/Record"), (0, u "<init>"), (0, u "()V"), (0, .fieldref 8 9), (0, .class_ 10), (0, .nameAndType 11 12), (0, u "com/example/claimgate/claimgate/NamePattern"), (0, u "kind"), (0, u "Lcom/example/claimgate/claimgate/NamePattern$Kind;"), (0, .fieldref 8 14), (0, .nameAndType 15 16), (0, u "text"), (0, u "Ljava/lang/String;"), (1, .class_ 20), (1, u "java/lang/String"), (4, .methodref 18 26), (0, .nameAndType 27 28), (0, u "equals"), (0, u "(Ljava/lang/Object;)Z"), (2, u "EVERY_NAME"), (0, u "Lcom/example/claimgate/claimgate/NamePattern;"), (3, u "(Ljava/lang/String;)Z"), (4, .class_ 43), (1, u "com/example/claimgate/claimgate/NamePattern$Kind"), (4, u "()I"), (4, .methodref 8 54), (0, .nameAndType 5 55), (0, u "(Lcom/example/claimgate/claimgate/NamePattern$Kind;Ljava/lang/String;)V"), (9, .fieldref 41 66), (0, .nameAndType 67 12), (0, u "EXACT"), (0, .methodref 41 69), (0, .nameAndType 70 48), (0, u "ordinal"), (29, u "(Ljava/lang/String;)Lcom/example/claimgate/claimgate/NamePattern;"), (1, u "exactly"), (0, u "matches"), (0, u "()Ljava/lang/String;"), (0, u "()Lcom/example/claimgate/claimgate/NamePattern$Kind;")] 24

def k9c0 : Code := { maxStack := 2, maxLocals := 3, code := prog_18_method_1_code, exceptionTable := #[], attributes := #[] }
def k9m0 : Method := { name := "<init>", desc := "(Lcom/example/claimgate/claimgate/NamePattern$Kind;Ljava/lang/String;)V", sig := { parameters := [(.object "com/example/claimgate/claimgate/NamePattern$Kind"), (.object "java/lang/String")], returnType := none }, accessFlags := 0, code := some k9c0 }
def k9c1 : Code := { maxStack := 4, maxLocals := 1, code := prog_18_method_3_code, exceptionTable := #[], attributes := #[] }
def k9m1 : Method := { name := "exactly", desc := "(Ljava/lang/String;)Lcom/example/claimgate/claimgate/NamePattern;", sig := { parameters := [(.object "java/lang/String")], returnType := some (.object "com/example/claimgate/claimgate/NamePattern") }, accessFlags := 8, code := some k9c1 }
def k9c2 : Code := { maxStack := 4, maxLocals := 2, code := prog_18_method_4_code, exceptionTable := #[], attributes := #[] }
def k9m2 : Method := { name := "matches", desc := "(Ljava/lang/String;)Z", sig := { parameters := [(.object "java/lang/String")], returnType := some .boolean }, accessFlags := 0, code := some k9c2 }
def k9c3 : Code := { maxStack := 1, maxLocals := 1, code := prog_18_method_8_code, exceptionTable := #[], attributes := #[] }
def k9m3 : Method := { name := "kind", desc := "()Lcom/example/claimgate/claimgate/NamePattern$Kind;", sig := { parameters := [], returnType := some (.object "com/example/claimgate/claimgate/NamePattern$Kind") }, accessFlags := 1, code := some k9c3 }
def k9c4 : Code := { maxStack := 1, maxLocals := 1, code := prog_18_method_9_code, exceptionTable := #[], attributes := #[] }
def k9m4 : Method := { name := "text", desc := "()Ljava/lang/String;", sig := { parameters := [], returnType := some (.object "java/lang/String") }, accessFlags := 1, code := some k9c4 }
/-- com/example/claimgate/claimgate/NamePattern -/
def k9 : Class := { plain "com/example/claimgate/claimgate/NamePattern" (some 8) with
  accessFlags := 48
  interfaces := #[]
  cf := some (fileOf pool9 8 #[.nestMembers #[41]] #[{ accessFlags := 0, nameIndex := 5, descriptorIndex := 55, attributes := #[] }, { accessFlags := 8, nameIndex := 102, descriptorIndex := 100, attributes := #[] }, { accessFlags := 0, nameIndex := 103, descriptorIndex := 36, attributes := #[] }, { accessFlags := 1, nameIndex := 11, descriptorIndex := 105, attributes := #[] }, { accessFlags := 1, nameIndex := 15, descriptorIndex := 104, attributes := #[] }] 48 2 #[] #[{ accessFlags := 18, nameIndex := 11, descriptorIndex := 12, attributes := #[] }, { accessFlags := 18, nameIndex := 15, descriptorIndex := 16, attributes := #[] }, { accessFlags := 24, nameIndex := 31, descriptorIndex := 32, attributes := #[] }])
  fields := #[{ name := "kind", type := (.object "com/example/claimgate/claimgate/NamePattern$Kind"), accessFlags := 18, slot := 0, constantValue := 0 }, { name := "text", type := (.object "java/lang/String"), accessFlags := 18, slot := 1, constantValue := 0 }, { name := "EVERY_NAME", type := (.object "com/example/claimgate/claimgate/NamePattern"), accessFlags := 24, slot := 0, constantValue := 0 }]
  methods := #[k9m0, k9m1, k9m2, k9m3, k9m4]
  instanceTypes := #[(.object "com/example/claimgate/claimgate/NamePattern$Kind"), (.object "java/lang/String")]
  staticTypes := #[(.object "com/example/claimgate/claimgate/NamePattern")]
  resolved := Array.replicate 130 none
  statics := none }

def pool10 : Array CpInfo := pool [(2, .class_ 4), (1, u "java/lang/Enum"), (0, u "name"), (0, u "Ljava/lang/String;"), (0, .fieldref 2 8), (0, .nameAndType 9 10), (0, u "ordinal"), (0, u "I"), (1, .class_ 14), (1, u "java/lang/Object"), (4, u "hash"), (86, .class_ 108), (1, u "java/lang/Enum$EnumDesc"), (2, .class_ 112), (0, u "java/lang/constant/Constable"), (0, .class_ 114), (0, u "java/lang/Comparable"), (0, .class_ 116), (0, u "java/io/Serializable"), (9, u "()I")] 77

def k10c0 : Code := { maxStack := 1, maxLocals := 1, code := jdk_37_method_2_code, exceptionTable := #[], attributes := #[] }
def k10m0 : Method := { name := "ordinal", desc := "()I", sig := { parameters := [], returnType := some .int }, accessFlags := 17, code := some k10c0 }
/-- java/lang/Enum -/
def k10 : Class := { plain "java/lang/Enum" (some 0) with
  accessFlags := 1057
  interfaces := #[5, 3, 2]
  cf := some (fileOf pool10 2 #[.nestMembers #[106]] #[{ accessFlags := 17, nameIndex := 9, descriptorIndex := 126, attributes := #[] }] 1057 12 #[111, 113, 115] #[{ accessFlags := 18, nameIndex := 5, descriptorIndex := 6, attributes := #[] }, { accessFlags := 18, nameIndex := 9, descriptorIndex := 10, attributes := #[] }, { accessFlags := 2, nameIndex := 19, descriptorIndex := 10, attributes := #[] }])
  fields := #[{ name := "name", type := (.object "java/lang/String"), accessFlags := 18, slot := 0, constantValue := 0 }, { name := "ordinal", type := .int, accessFlags := 18, slot := 1, constantValue := 0 }, { name := "hash", type := .int, accessFlags := 2, slot := 2, constantValue := 0 }]
  methods := #[k10m0]
  instanceTypes := #[(.object "java/lang/String"), .int, .int]
  staticTypes := #[]
  resolved := Array.replicate 204 none
  statics := none }

def pool11 : Array CpInfo := pool [(1, .class_ 2), (0, u "com/example/claimgate/claimgate/NamePattern$Kind"), (2, u "ANY"), (0, u "Lcom/example/claimgate/claimgate/NamePattern$Kind;"), (2, u "EXACT"), (2, u "PREFIX"), (2, u "SUFFIX"), (2, u "CONTAINS"), (2, u "$VALUES"), (0, u "[Lcom/example/claimgate/claimgate/NamePattern$Kind;"), (6, .class_ 31), (1, u "java/lang/Enum"), (28, .class_ 61), (0, u "com/example/claimgate/claimgate/NamePattern")] 2

/-- com/example/claimgate/claimgate/NamePattern$Kind -/
def k11 : Class := { plain "com/example/claimgate/claimgate/NamePattern$Kind" (some 10) with
  accessFlags := 16432
  interfaces := #[]
  cf := some (fileOf pool11 1 #[.nestHost 60] #[] 16432 29 #[] #[{ accessFlags := 16409, nameIndex := 5, descriptorIndex := 6, attributes := #[] }, { accessFlags := 16409, nameIndex := 9, descriptorIndex := 6, attributes := #[] }, { accessFlags := 16409, nameIndex := 12, descriptorIndex := 6, attributes := #[] }, { accessFlags := 16409, nameIndex := 15, descriptorIndex := 6, attributes := #[] }, { accessFlags := 16409, nameIndex := 18, descriptorIndex := 6, attributes := #[] }, { accessFlags := 4122, nameIndex := 21, descriptorIndex := 22, attributes := #[] }])
  fields := #[{ name := "ANY", type := (.object "com/example/claimgate/claimgate/NamePattern$Kind"), accessFlags := 16409, slot := 0, constantValue := 0 }, { name := "EXACT", type := (.object "com/example/claimgate/claimgate/NamePattern$Kind"), accessFlags := 16409, slot := 1, constantValue := 0 }, { name := "PREFIX", type := (.object "com/example/claimgate/claimgate/NamePattern$Kind"), accessFlags := 16409, slot := 2, constantValue := 0 }, { name := "SUFFIX", type := (.object "com/example/claimgate/claimgate/NamePattern$Kind"), accessFlags := 16409, slot := 3, constantValue := 0 }, { name := "CONTAINS", type := (.object "com/example/claimgate/claimgate/NamePattern$Kind"), accessFlags := 16409, slot := 4, constantValue := 0 }, { name := "$VALUES", type := (.array (.object "com/example/claimgate/claimgate/NamePattern$Kind")), accessFlags := 4122, slot := 5, constantValue := 0 }]
  methods := #[]
  instanceTypes := #[(.object "java/lang/String"), .int, .int]
  staticTypes := #[(.object "com/example/claimgate/claimgate/NamePattern$Kind"), (.object "com/example/claimgate/claimgate/NamePattern$Kind"), (.object "com/example/claimgate/claimgate/NamePattern$Kind"), (.object "com/example/claimgate/claimgate/NamePattern$Kind"), (.object "com/example/claimgate/claimgate/NamePattern$Kind"), (.array (.object "com/example/claimgate/claimgate/NamePattern$Kind"))]
  resolved := Array.replicate 64 none
  statics := some 1 }

def pool12 : Array CpInfo := pool [(4, .class_ 6), (1, u "java/lang/Object"), (0, u "<init>"), (0, u "()V"), (5, .class_ 16), (1, u "java/lang/StringLatin1"), (104, u "$assertionsDisabled"), (0, u "Z"), (98, .class_ 223), (1, u "java/lang/StringLatin1$LinesSpliterator"), (57, u "equals"), (0, u "([B[B)Z"), (107, .class_ 391), (0, u "java/lang/StringLatin1$CharsSpliterator")] 3

def k12m0 : Method := { name := "<init>", desc := "()V", sig := { parameters := [], returnType := none }, accessFlags := 0, code := none }
def k12c1 : Code := { maxStack := 3, maxLocals := 3, code := jdk_43_method_13_code, exceptionTable := #[], attributes := #[] }
def k12m1 : Method := { name := "equals", desc := "([B[B)Z", sig := { parameters := [(.array .byte), (.array .byte)], returnType := some .boolean }, accessFlags := 9, code := some k12c1 }
/-- java/lang/StringLatin1 -/
def k12 : Class := { plain "java/lang/StringLatin1" (some 0) with
  accessFlags := 48
  interfaces := #[]
  cf := some (fileOf pool12 14 #[.nestMembers #[390, 221]] #[{ accessFlags := 0, nameIndex := 7, descriptorIndex := 8, attributes := #[] }, { accessFlags := 9, nameIndex := 281, descriptorIndex := 282, attributes := #[] }] 48 4 #[] #[{ accessFlags := 4120, nameIndex := 121, descriptorIndex := 122, attributes := #[] }])
  fields := #[{ name := "$assertionsDisabled", type := .boolean, accessFlags := 4120, slot := 0, constantValue := 0 }]
  methods := #[k12m0, k12m1]
  instanceTypes := #[]
  staticTypes := #[.boolean]
  resolved := Array.replicate 395 none
  statics := none }

def pool13 : Array CpInfo := pool [(6, .class_ 8), (1, u "java/lang/Object"), (0, u "<init>"), (0, u "()V"), (1, .class_ 14), (1, u "java/lang/StringUTF16"), (31, u "$assertionsDisabled"), (0, u "Z"), (13, u "HI_BYTE_SHIFT"), (0, u "I"), (2, u "LO_BYTE_SHIFT"), (49, .methodref 12 116), (0, .nameAndType 117 118), (0, u "compress"), (0, u "([CI[BII)I"), (3, u "([CII)[B"), (138, u "coderFromArrayLen"), (0, u "([BI)B"), (106, .class_ 371), (1, u "java/lang/StringUTF16$LinesSpliterator"), (58, u "MAX_LENGTH"), (196, .class_ 628), (0, u "java/lang/StringUTF16$CodePointsSpliterator"), (0, .class_ 630), (0, u "java/lang/StringUTF16$CharsSpliterator")] 4

def k13m0 : Method := { name := "<init>", desc := "()V", sig := { parameters := [], returnType := none }, accessFlags := 0, code := none }
def k13c1 : Code := { maxStack := 2, maxLocals := 2, code := jdk_52_method_15_code, exceptionTable := #[], attributes := #[] }
def k13m1 : Method := { name := "coderFromArrayLen", desc := "([BI)B", sig := { parameters := [(.array .byte), .int], returnType := some .byte }, accessFlags := 8, code := some k13c1 }
def k13c2 : Code := { maxStack := 5, maxLocals := 6, code := jdk_52_method_16_code, exceptionTable := #[], attributes := #[] }
def k13m2 : Method := { name := "compress", desc := "([CII)[B", sig := { parameters := [(.array .char), .int, .int], returnType := some (.array .byte) }, accessFlags := 9, code := some k13c2 }
def k13c3 : Code := { maxStack := 3, maxLocals := 7, code := jdk_52_method_21_code, exceptionTable := #[], attributes := #[] }
def k13m3 : Method := { name := "compress", desc := "([CI[BII)I", sig := { parameters := [(.array .char), .int, (.array .byte), .int, .int], returnType := some .int }, accessFlags := 9, code := some k13c3 }
/-- java/lang/StringUTF16 -/
def k13 : Class := { plain "java/lang/StringUTF16" (some 0) with
  accessFlags := 48
  interfaces := #[]
  cf := some (fileOf pool13 12 #[.nestMembers #[627, 629, 369]] #[{ accessFlags := 0, nameIndex := 9, descriptorIndex := 10, attributes := #[] }, { accessFlags := 8, nameIndex := 261, descriptorIndex := 262, attributes := #[] }, { accessFlags := 9, nameIndex := 117, descriptorIndex := 122, attributes := #[] }, { accessFlags := 9, nameIndex := 117, descriptorIndex := 118, attributes := #[] }] 48 6 #[] #[{ accessFlags := 26, nameIndex := 61, descriptorIndex := 62, attributes := #[] }, { accessFlags := 26, nameIndex := 65, descriptorIndex := 62, attributes := #[] }, { accessFlags := 24, nameIndex := 430, descriptorIndex := 62, attributes := #[] }, { accessFlags := 4120, nameIndex := 46, descriptorIndex := 47, attributes := #[] }])
  fields := #[{ name := "HI_BYTE_SHIFT", type := .int, accessFlags := 26, slot := 0, constantValue := 0 }, { name := "LO_BYTE_SHIFT", type := .int, accessFlags := 26, slot := 1, constantValue := 0 }, { name := "MAX_LENGTH", type := .int, accessFlags := 24, slot := 2, constantValue := 0 }, { name := "$assertionsDisabled", type := .boolean, accessFlags := 4120, slot := 3, constantValue := 0 }]
  methods := #[k13m0, k13m1, k13m2, k13m3]
  instanceTypes := #[]
  staticTypes := #[.int, .int, .int, .boolean]
  resolved := Array.replicate 635 none
  statics := none }

def pool14 : Array CpInfo := pool [(2, .class_ 4), (1, u "java/lang/Object"), (0, u "<init>"), (0, u "()V"), (17, .class_ 26), (1, u "jdk/internal/util/Preconditions"), (28, .class_ 56), (0, u "jdk/internal/util/Preconditions$4"), (57, .class_ 115), (0, u "jdk/internal/util/Preconditions$1"), (7, u "SIOOBE_FORMATTER"), (0, u "Ljava/util/function/BiFunction;"), (0, .class_ 126), (0, u "jdk/internal/util/Preconditions$2"), (3, u "AIOOBE_FORMATTER"), (0, .class_ 132), (0, u "jdk/internal/util/Preconditions$3"), (3, u "IOOBE_FORMATTER")] 57

def k14m0 : Method := { name := "<init>", desc := "()V", sig := { parameters := [], returnType := none }, accessFlags := 1, code := none }
/-- jdk/internal/util/Preconditions -/
def k14 : Class := { plain "jdk/internal/util/Preconditions" (some 0) with
  accessFlags := 33
  interfaces := #[]
  cf := some (fileOf pool14 24 #[.nestMembers #[55, 131, 125, 114]] #[{ accessFlags := 1, nameIndex := 5, descriptorIndex := 6, attributes := #[] }] 33 2 #[] #[{ accessFlags := 25, nameIndex := 123, descriptorIndex := 124, attributes := #[] }, { accessFlags := 25, nameIndex := 130, descriptorIndex := 124, attributes := #[] }, { accessFlags := 25, nameIndex := 136, descriptorIndex := 124, attributes := #[] }])
  fields := #[{ name := "SIOOBE_FORMATTER", type := (.object "java/util/function/BiFunction"), accessFlags := 25, slot := 0, constantValue := 0 }, { name := "AIOOBE_FORMATTER", type := (.object "java/util/function/BiFunction"), accessFlags := 25, slot := 1, constantValue := 0 }, { name := "IOOBE_FORMATTER", type := (.object "java/util/function/BiFunction"), accessFlags := 25, slot := 2, constantValue := 0 }]
  methods := #[k14m0]
  instanceTypes := #[]
  staticTypes := #[(.object "java/util/function/BiFunction"), (.object "java/util/function/BiFunction"), (.object "java/util/function/BiFunction")]
  resolved := Array.replicate 194 none
  statics := some 2 }

def pool15 : Array CpInfo := pool [(9, u "<init>"), (6, .class_ 18), (1, u "java/lang/Object"), (0, u "()V"), (1, .class_ 23), (1, u "jdk/internal/util/ArraysSupport"), (0, u "LOG2_ARRAY_LONG_INDEX_SCALE"), (0, u "I"), (2, u "U"), (0, u "Ljdk/internal/misc/Unsafe;"), (8, u "BIG_ENDIAN"), (0, u "Z"), (8, u "LOG2_BYTE_BIT_SIZE"), (4, u "LOG2_ARRAY_INT_INDEX_SCALE"), (54, u "JLA"), (0, u "Ljdk/internal/access/JavaLangAccess;"), (11, u "LOG2_ARRAY_BOOLEAN_INDEX_SCALE"), (9, u "LOG2_ARRAY_BYTE_INDEX_SCALE"), (5, u "LOG2_ARRAY_CHAR_INDEX_SCALE"), (5, u "LOG2_ARRAY_SHORT_INDEX_SCALE"), (18, u "LOG2_ARRAY_FLOAT_INDEX_SCALE"), (24, u "LOG2_ARRAY_DOUBLE_INDEX_SCALE"), (89, u "T_BOOLEAN"), (2, u "T_CHAR"), (1, u "T_FLOAT"), (1, u "T_DOUBLE"), (1, u "T_BYTE"), (1, u "T_SHORT"), (1, u "T_INT"), (1, u "T_LONG"), (1, u "SOFT_MAX_ARRAY_LENGTH")] 83

def k15m0 : Method := { name := "<init>", desc := "()V", sig := { parameters := [], returnType := none }, accessFlags := 2, code := none }
/-- jdk/internal/util/ArraysSupport -/
def k15 : Class := { plain "jdk/internal/util/ArraysSupport" (some 0) with
  accessFlags := 33
  interfaces := #[]
  cf := some (fileOf pool15 21 #[] #[{ accessFlags := 2, nameIndex := 9, descriptorIndex := 19, attributes := #[] }] 33 16 #[] #[{ accessFlags := 24, nameIndex := 28, descriptorIndex := 29, attributes := #[] }, { accessFlags := 26, nameIndex := 38, descriptorIndex := 39, attributes := #[] }, { accessFlags := 25, nameIndex := 121, descriptorIndex := 25, attributes := #[] }, { accessFlags := 25, nameIndex := 131, descriptorIndex := 25, attributes := #[] }, { accessFlags := 25, nameIndex := 137, descriptorIndex := 25, attributes := #[] }, { accessFlags := 25, nameIndex := 143, descriptorIndex := 25, attributes := #[] }, { accessFlags := 25, nameIndex := 53, descriptorIndex := 25, attributes := #[] }, { accessFlags := 25, nameIndex := 24, descriptorIndex := 25, attributes := #[] }, { accessFlags := 25, nameIndex := 162, descriptorIndex := 25, attributes := #[] }, { accessFlags := 25, nameIndex := 187, descriptorIndex := 25, attributes := #[] }, { accessFlags := 26, nameIndex := 48, descriptorIndex := 25, attributes := #[] }, { accessFlags := 25, nameIndex := 277, descriptorIndex := 25, attributes := #[] }, { accessFlags := 25, nameIndex := 280, descriptorIndex := 25, attributes := #[] }, { accessFlags := 25, nameIndex := 282, descriptorIndex := 25, attributes := #[] }, { accessFlags := 25, nameIndex := 284, descriptorIndex := 25, attributes := #[] }, { accessFlags := 25, nameIndex := 286, descriptorIndex := 25, attributes := #[] }, { accessFlags := 25, nameIndex := 288, descriptorIndex := 25, attributes := #[] }, { accessFlags := 25, nameIndex := 290, descriptorIndex := 25, attributes := #[] }, { accessFlags := 25, nameIndex := 292, descriptorIndex := 25, attributes := #[] }, { accessFlags := 26, nameIndex := 108, descriptorIndex := 109, attributes := #[] }, { accessFlags := 25, nameIndex := 294, descriptorIndex := 25, attributes := #[] }])
  fields := #[{ name := "U", type := (.object "jdk/internal/misc/Unsafe"), accessFlags := 24, slot := 0, constantValue := 0 }, { name := "BIG_ENDIAN", type := .boolean, accessFlags := 26, slot := 1, constantValue := 0 }, { name := "LOG2_ARRAY_BOOLEAN_INDEX_SCALE", type := .int, accessFlags := 25, slot := 2, constantValue := 0 }, { name := "LOG2_ARRAY_BYTE_INDEX_SCALE", type := .int, accessFlags := 25, slot := 3, constantValue := 0 }, { name := "LOG2_ARRAY_CHAR_INDEX_SCALE", type := .int, accessFlags := 25, slot := 4, constantValue := 0 }, { name := "LOG2_ARRAY_SHORT_INDEX_SCALE", type := .int, accessFlags := 25, slot := 5, constantValue := 0 }, { name := "LOG2_ARRAY_INT_INDEX_SCALE", type := .int, accessFlags := 25, slot := 6, constantValue := 0 }, { name := "LOG2_ARRAY_LONG_INDEX_SCALE", type := .int, accessFlags := 25, slot := 7, constantValue := 0 }, { name := "LOG2_ARRAY_FLOAT_INDEX_SCALE", type := .int, accessFlags := 25, slot := 8, constantValue := 0 }, { name := "LOG2_ARRAY_DOUBLE_INDEX_SCALE", type := .int, accessFlags := 25, slot := 9, constantValue := 0 }, { name := "LOG2_BYTE_BIT_SIZE", type := .int, accessFlags := 26, slot := 10, constantValue := 0 }, { name := "T_BOOLEAN", type := .int, accessFlags := 25, slot := 11, constantValue := 0 }, { name := "T_CHAR", type := .int, accessFlags := 25, slot := 12, constantValue := 0 }, { name := "T_FLOAT", type := .int, accessFlags := 25, slot := 13, constantValue := 0 }, { name := "T_DOUBLE", type := .int, accessFlags := 25, slot := 14, constantValue := 0 }, { name := "T_BYTE", type := .int, accessFlags := 25, slot := 15, constantValue := 0 }, { name := "T_SHORT", type := .int, accessFlags := 25, slot := 16, constantValue := 0 }, { name := "T_INT", type := .int, accessFlags := 25, slot := 17, constantValue := 0 }, { name := "T_LONG", type := .int, accessFlags := 25, slot := 18, constantValue := 0 }, { name := "JLA", type := (.object "jdk/internal/access/JavaLangAccess"), accessFlags := 26, slot := 19, constantValue := 0 }, { name := "SOFT_MAX_ARRAY_LENGTH", type := .int, accessFlags := 25, slot := 20, constantValue := 0 }]
  methods := #[k15m0]
  instanceTypes := #[]
  staticTypes := #[(.object "jdk/internal/misc/Unsafe"), .boolean, .int, .int, .int, .int, .int, .int, .int, .int, .int, .int, .int, .int, .int, .int, .int, .int, .int, (.object "jdk/internal/access/JavaLangAccess"), .int]
  resolved := Array.replicate 378 none
  statics := none }

def pool16 : Array CpInfo := pool [(1, u "java/lang/Cloneable"), (0, .class_ 1), (0, u "java/lang/Object"), (0, .class_ 3)] 3

/-- java/lang/Cloneable -/
def k16 : Class := { plain "java/lang/Cloneable" (some 0) with
  accessFlags := 1537
  interfaces := #[]
  cf := some (fileOf pool16 2 #[] #[] 1537 4 #[] #[])
  fields := #[]
  methods := #[]
  instanceTypes := #[]
  staticTypes := #[]
  resolved := Array.replicate 8 none
  statics := none }

/-- the primitive byte -/
def k17 : Class := { plain "byte" none with kind := .primitive 'B', accessFlags := 0x411 }
/-- [B -/
def k18 : Class := { plain "[B" (some 0) with kind := .array 17 .byte, interfaces := #[16, 2], accessFlags := 1041 }

/-- the primitive char -/
def k19 : Class := { plain "char" none with kind := .primitive 'C', accessFlags := 0x411 }
/-- [C -/
def k20 : Class := { plain "[C" (some 0) with kind := .array 19 .char, interfaces := #[16, 2], accessFlags := 1041 }

/-- the primitive int -/
def k21 : Class := { plain "int" none with kind := .primitive 'I', accessFlags := 0x411 }
/-- [I -/
def k22 : Class := { plain "[I" (some 0) with kind := .array 21 .int, interfaces := #[16, 2], accessFlags := 1041 }

def heap : Heap := #[{ cls := 7, slots := #[.long 0, .int 1, .null, .int 0, .null, .int 0, .int 0], vm := .statics 7 },
  { cls := 11, slots := #[.null, .ref 3, .null, .null, .null, .null], vm := .statics 11 },
  { cls := 14, slots := #[.null, .null, .null], vm := .statics 14 },
  { cls := 11, slots := #[.null, .int 1, .int 0], vm := .none }]
def classes : Array Class := #[k0, k1, k2, k3, k4, k5, k6, k7, k8, k9, k10, k11, k12, k13, k14, k15, k16, k17, k18, k19, k20, k21, k22]
def interned : List (Array UInt16 × Addr) := []
def slotsUsed : Nat := 19
def theMethod : MethodId := ⟨1, 2⟩
def args0 : Array Value := #[.int 5, .int 9, .int 3, .int 7]
def aboutOver (below : List Frame) : State where
  vm := { classes := classes, interned := interned.toArray }
  heap := heap
  slotsUsed := slotsUsed
  threads := #[{ frames := .invoking theMethod args0 :: below }]
def below0 : List Frame := [.native { method := ⟨0, 0⟩, args := #[] }]
def about1 : State := aboutOver below0
def p0 : Program := .bare "" "" ""
def e0 : Env := launch0.env 0 0 0
theorem w_frames : about1.frames = Frame.invoking theMethod args0 :: below0 := rfl
set_option maxRecDepth 65536 in
theorem w_args : argsFit about1.vm theMethod args0 = true := by decide +kernel
set_option maxRecDepth 65536 in
theorem w_heap : heapFits about1 = true := by decide +kernel
set_option maxRecDepth 65536 in
theorem w_runnable : about1.curStatus? = some .runnable := by decide +kernel
set_option maxRecDepth 65536 in
theorem w_alone : about1.alone = true := by decide +kernel
set_option maxRecDepth 65536 in
theorem w_named : about1.methodNamed? x = some theMethod := by decide +kernel
set_option maxRecDepth 65536 in
theorem w_hears : about1.hears theMethod below0 = true := by decide +kernel
set_option maxRecDepth 65536 in
theorem w_ripe : about1.ripe theMethod args0 below0 = true := by decide +kernel
theorem w_running : about1.status = .running := rfl
set_option maxRecDepth 65536 in
theorem w_room : about1.hasRoom e0.platform room_1 = true :=
  launch0.hasRoom_least _ room_1 (by decide +kernel) (by decide +kernel) (by decide +kernel) (by decide +kernel) (by decide +kernel) (by decide +kernel)
theorem allAtoms_all (ts : List Jvm.Cond) (a : Array Jvm.Value) (st : Jvm.State) : (allAtoms ts).before a st = ts.all (fun c => c.before a st) := by
  induction ts with
  | nil => rfl
  | cons c t ih =>
    show (Jvm.Cond.and c (allAtoms t)).before a st = _
    rw [Jvm.Cond.before_and, ih, List.all_cons]
def words1 : List Jvm.Cond := Jvm.Cond.code x code maxLocals ret :: tables_1
/-- a 'code' word, met by the world's own term for the bytes: nothing is compared byte by byte -/
theorem code_word {y : MethodName} {bytes : ByteArray} {mx : Nat} {rt : Option FieldType} {a : Array Value} {s : State} {m : MethodId} {meth : Method} {c : Code} (h1 : s.methodNamed? y = some m) (h2 : s.vm.method? m = some meth) (h3 : meth.code = some c) (h4 : c.code = bytes)
    (h5 : (c.maxLocals == mx && c.exceptionTable.isEmpty && decide (c.maxStack ≤ mostOperands) && decide (meth.sig.returnType = rt) && !meth.locks && decide (parseMethodDescriptor y.desc = some meth.sig)) = true) : (Jvm.Cond.code y bytes mx rt).before a s = true := by
  simp only [Bool.and_eq_true, beq_iff_eq, Bool.not_eq_true', decide_eq_true_eq] at h5
  obtain ⟨⟨⟨⟨⟨g1, g2⟩, g3⟩, g4⟩, g5⟩, g6⟩ := h5
  simp [Cond.before, Cond.holds, Cond.value, h1, h2, h3, h4, g1, g2, g3, g4, g5, g6]
def isCode : Jvm.Cond → Bool
  | .code _ _ _ _ => true
  | _ => false
theorem all_split {L : List Jvm.Cond} {P : Jvm.Cond → Bool} (h1 : L.all (fun c => isCode c || P c) = true) (h2 : ∀ c ∈ L.filter isCode, P c = true) : L.all P = true := by
  refine List.all_eq_true.mpr fun c hc => ?_
  have h := List.all_eq_true.mp h1 c hc
  rcases Bool.eq_false_or_eq_true (isCode c) with hi | hi
  · exact h2 c (List.mem_filter.mpr ⟨hc, hi⟩)
  · simpa [hi] using h
set_option maxRecDepth 65536 in
theorem w_c0 : (Jvm.Cond.code x code maxLocals ret).before args0 about1 = true := code_word (m := ⟨1, 2⟩) (meth := k1m2) (c := k1c2) (by decide +kernel) rfl rfl rfl (by decide +kernel)
set_option maxRecDepth 65536 in
theorem w_c1 : (Jvm.Cond.code ({ cls := "com/example/claimgate/claimgate/NamePatternExactlyPinLaw", name := "mk", desc := "(ICCC)Ljava/lang/String;" } : Jvm.MethodName) method_2_code (4 : Nat) (Option.some (Jvm.ClassFile.FieldType.object "java/lang/String"))).before args0 about1 = true := code_word (m := ⟨1, 1⟩) (meth := k1m1) (c := k1c1) (by decide +kernel) rfl rfl rfl (by decide +kernel)
set_option maxRecDepth 65536 in
theorem w_c2 : (Jvm.Cond.code ({ cls := "java/lang/String", name := "<init>", desc := "([C)V" } : Jvm.MethodName) jdk_42_method_3_code (2 : Nat) (Option.none : Option Jvm.ClassFile.FieldType)).before args0 about1 = true := code_word (m := ⟨7, 1⟩) (meth := k7m1) (c := k7c1) (by decide +kernel) rfl rfl rfl (by decide +kernel)
set_option maxRecDepth 65536 in
theorem w_c3 : (Jvm.Cond.code ({ cls := "java/lang/String", name := "<init>", desc := "([CIILjava/lang/Void;)V" } : Jvm.MethodName) jdk_42_method_149_code (6 : Nat) (Option.none : Option Jvm.ClassFile.FieldType)).before args0 about1 = true := code_word (m := ⟨7, 3⟩) (meth := k7m3) (c := k7c3) (by decide +kernel) rfl rfl rfl (by decide +kernel)
set_option maxRecDepth 65536 in
theorem w_c4 : (Jvm.Cond.code ({ cls := "java/lang/Object", name := "<init>", desc := "()V" } : Jvm.MethodName) object_method_1_code (1 : Nat) (Option.none : Option Jvm.ClassFile.FieldType)).before args0 about1 = true := code_word (m := ⟨0, 0⟩) (meth := k0m0) (c := k0c0) (by decide +kernel) rfl rfl rfl (by decide +kernel)
set_option maxRecDepth 65536 in
theorem w_c5 : (Jvm.Cond.code ({ cls := "com/example/claimgate/claimgate/NamePattern", name := "exactly", desc := "(Ljava/lang/String;)Lcom/example/claimgate/claimgate/NamePattern;" } : Jvm.MethodName) prog_18_method_3_code (1 : Nat) (Option.some (Jvm.ClassFile.FieldType.object "com/example/claimgate/claimgate/NamePattern"))).before args0 about1 = true := code_word (m := ⟨9, 1⟩) (meth := k9m1) (c := k9c1) (by decide +kernel) rfl rfl rfl (by decide +kernel)
set_option maxRecDepth 65536 in
theorem w_c6 : (Jvm.Cond.code ({ cls := "com/example/claimgate/claimgate/NamePattern", name := "<init>", desc := "(Lcom/example/claimgate/claimgate/NamePattern$Kind;Ljava/lang/String;)V" } : Jvm.MethodName) prog_18_method_1_code (3 : Nat) (Option.none : Option Jvm.ClassFile.FieldType)).before args0 about1 = true := code_word (m := ⟨9, 0⟩) (meth := k9m0) (c := k9c0) (by decide +kernel) rfl rfl rfl (by decide +kernel)
set_option maxRecDepth 65536 in
theorem w_c7 : (Jvm.Cond.code ({ cls := "java/lang/Record", name := "<init>", desc := "()V" } : Jvm.MethodName) jdk_30_method_1_code (1 : Nat) (Option.none : Option Jvm.ClassFile.FieldType)).before args0 about1 = true := code_word (m := ⟨8, 0⟩) (meth := k8m0) (c := k8c0) (by decide +kernel) rfl rfl rfl (by decide +kernel)
set_option maxRecDepth 65536 in
theorem w_c8 : (Jvm.Cond.code ({ cls := "com/example/claimgate/claimgate/NamePattern", name := "kind", desc := "()Lcom/example/claimgate/claimgate/NamePattern$Kind;" } : Jvm.MethodName) prog_18_method_8_code (1 : Nat) (Option.some (Jvm.ClassFile.FieldType.object "com/example/claimgate/claimgate/NamePattern$Kind"))).before args0 about1 = true := code_word (m := ⟨9, 3⟩) (meth := k9m3) (c := k9c3) (by decide +kernel) rfl rfl rfl (by decide +kernel)
set_option maxRecDepth 65536 in
theorem w_c9 : (Jvm.Cond.code ({ cls := "com/example/claimgate/claimgate/NamePattern", name := "text", desc := "()Ljava/lang/String;" } : Jvm.MethodName) prog_18_method_9_code (1 : Nat) (Option.some (Jvm.ClassFile.FieldType.object "java/lang/String"))).before args0 about1 = true := code_word (m := ⟨9, 4⟩) (meth := k9m4) (c := k9c4) (by decide +kernel) rfl rfl rfl (by decide +kernel)
set_option maxRecDepth 65536 in
theorem w_c10 : (Jvm.Cond.code ({ cls := "java/lang/String", name := "equals", desc := "(Ljava/lang/Object;)Z" } : Jvm.MethodName) jdk_42_method_66_code (3 : Nat) (Option.some Jvm.ClassFile.FieldType.boolean)).before args0 about1 = true := code_word (m := ⟨7, 2⟩) (meth := k7m2) (c := k7c2) (by decide +kernel) rfl rfl rfl (by decide +kernel)
set_option maxRecDepth 65536 in
theorem w_c11 : (Jvm.Cond.code ({ cls := "com/example/claimgate/claimgate/NamePattern", name := "matches", desc := "(Ljava/lang/String;)Z" } : Jvm.MethodName) prog_18_method_4_code (2 : Nat) (Option.some Jvm.ClassFile.FieldType.boolean)).before args0 about1 = true := code_word (m := ⟨9, 2⟩) (meth := k9m2) (c := k9c2) (by decide +kernel) rfl rfl rfl (by decide +kernel)
set_option maxRecDepth 65536 in
theorem w_c12 : (Jvm.Cond.code ({ cls := "java/lang/Enum", name := "ordinal", desc := "()I" } : Jvm.MethodName) jdk_37_method_2_code (1 : Nat) (Option.some Jvm.ClassFile.FieldType.int)).before args0 about1 = true := code_word (m := ⟨10, 0⟩) (meth := k10m0) (c := k10c0) (by decide +kernel) rfl rfl rfl (by decide +kernel)
set_option maxRecDepth 65536 in
theorem w_c13 : (Jvm.Cond.code ({ cls := "java/lang/StringLatin1", name := "equals", desc := "([B[B)Z" } : Jvm.MethodName) jdk_43_method_13_code (3 : Nat) (Option.some Jvm.ClassFile.FieldType.boolean)).before args0 about1 = true := code_word (m := ⟨12, 1⟩) (meth := k12m1) (c := k12c1) (by decide +kernel) rfl rfl rfl (by decide +kernel)
set_option maxRecDepth 65536 in
theorem w_c14 : (Jvm.Cond.code ({ cls := "java/lang/StringUTF16", name := "compress", desc := "([CII)[B" } : Jvm.MethodName) jdk_52_method_16_code (6 : Nat) (Option.some (Jvm.ClassFile.FieldType.array Jvm.ClassFile.FieldType.byte))).before args0 about1 = true := code_word (m := ⟨13, 2⟩) (meth := k13m2) (c := k13c2) (by decide +kernel) rfl rfl rfl (by decide +kernel)
set_option maxRecDepth 65536 in
theorem w_c15 : (Jvm.Cond.code ({ cls := "java/lang/StringUTF16", name := "compress", desc := "([CI[BII)I" } : Jvm.MethodName) jdk_52_method_21_code (7 : Nat) (Option.some Jvm.ClassFile.FieldType.int)).before args0 about1 = true := code_word (m := ⟨13, 3⟩) (meth := k13m3) (c := k13c3) (by decide +kernel) rfl rfl rfl (by decide +kernel)
set_option maxRecDepth 65536 in
theorem w_c16 : (Jvm.Cond.code ({ cls := "java/lang/StringUTF16", name := "coderFromArrayLen", desc := "([BI)B" } : Jvm.MethodName) jdk_52_method_15_code (2 : Nat) (Option.some Jvm.ClassFile.FieldType.byte)).before args0 about1 = true := code_word (m := ⟨13, 1⟩) (meth := k13m1) (c := k13c1) (by decide +kernel) rfl rfl rfl (by decide +kernel)
def codes1 : List Jvm.Cond := [Jvm.Cond.code x code maxLocals ret, Jvm.Cond.code ({ cls := "com/example/claimgate/claimgate/NamePatternExactlyPinLaw", name := "mk", desc := "(ICCC)Ljava/lang/String;" } : Jvm.MethodName) method_2_code (4 : Nat) (Option.some (Jvm.ClassFile.FieldType.object "java/lang/String")), Jvm.Cond.code ({ cls := "java/lang/String", name := "<init>", desc := "([C)V" } : Jvm.MethodName) jdk_42_method_3_code (2 : Nat) (Option.none : Option Jvm.ClassFile.FieldType), Jvm.Cond.code ({ cls := "java/lang/String", name := "<init>", desc := "([CIILjava/lang/Void;)V" } : Jvm.MethodName) jdk_42_method_149_code (6 : Nat) (Option.none : Option Jvm.ClassFile.FieldType), Jvm.Cond.code ({ cls := "java/lang/Object", name := "<init>", desc := "()V" } : Jvm.MethodName) object_method_1_code (1 : Nat) (Option.none : Option Jvm.ClassFile.FieldType), Jvm.Cond.code ({ cls := "com/example/claimgate/claimgate/NamePattern", name := "exactly", desc := "(Ljava/lang/String;)Lcom/example/claimgate/claimgate/NamePattern;" } : Jvm.MethodName) prog_18_method_3_code (1 : Nat) (Option.some (Jvm.ClassFile.FieldType.object "com/example/claimgate/claimgate/NamePattern")), Jvm.Cond.code ({ cls := "com/example/claimgate/claimgate/NamePattern", name := "<init>", desc := "(Lcom/example/claimgate/claimgate/NamePattern$Kind;Ljava/lang/String;)V" } : Jvm.MethodName) prog_18_method_1_code (3 : Nat) (Option.none : Option Jvm.ClassFile.FieldType), Jvm.Cond.code ({ cls := "java/lang/Record", name := "<init>", desc := "()V" } : Jvm.MethodName) jdk_30_method_1_code (1 : Nat) (Option.none : Option Jvm.ClassFile.FieldType), Jvm.Cond.code ({ cls := "com/example/claimgate/claimgate/NamePattern", name := "kind", desc := "()Lcom/example/claimgate/claimgate/NamePattern$Kind;" } : Jvm.MethodName) prog_18_method_8_code (1 : Nat) (Option.some (Jvm.ClassFile.FieldType.object "com/example/claimgate/claimgate/NamePattern$Kind")), Jvm.Cond.code ({ cls := "com/example/claimgate/claimgate/NamePattern", name := "text", desc := "()Ljava/lang/String;" } : Jvm.MethodName) prog_18_method_9_code (1 : Nat) (Option.some (Jvm.ClassFile.FieldType.object "java/lang/String")), Jvm.Cond.code ({ cls := "java/lang/String", name := "equals", desc := "(Ljava/lang/Object;)Z" } : Jvm.MethodName) jdk_42_method_66_code (3 : Nat) (Option.some Jvm.ClassFile.FieldType.boolean), Jvm.Cond.code ({ cls := "com/example/claimgate/claimgate/NamePattern", name := "matches", desc := "(Ljava/lang/String;)Z" } : Jvm.MethodName) prog_18_method_4_code (2 : Nat) (Option.some Jvm.ClassFile.FieldType.boolean), Jvm.Cond.code ({ cls := "java/lang/Enum", name := "ordinal", desc := "()I" } : Jvm.MethodName) jdk_37_method_2_code (1 : Nat) (Option.some Jvm.ClassFile.FieldType.int), Jvm.Cond.code ({ cls := "java/lang/StringLatin1", name := "equals", desc := "([B[B)Z" } : Jvm.MethodName) jdk_43_method_13_code (3 : Nat) (Option.some Jvm.ClassFile.FieldType.boolean), Jvm.Cond.code ({ cls := "java/lang/StringUTF16", name := "compress", desc := "([CII)[B" } : Jvm.MethodName) jdk_52_method_16_code (6 : Nat) (Option.some (Jvm.ClassFile.FieldType.array Jvm.ClassFile.FieldType.byte)), Jvm.Cond.code ({ cls := "java/lang/StringUTF16", name := "compress", desc := "([CI[BII)I" } : Jvm.MethodName) jdk_52_method_21_code (7 : Nat) (Option.some Jvm.ClassFile.FieldType.int), Jvm.Cond.code ({ cls := "java/lang/StringUTF16", name := "coderFromArrayLen", desc := "([BI)B" } : Jvm.MethodName) jdk_52_method_15_code (2 : Nat) (Option.some Jvm.ClassFile.FieldType.byte)]
set_option maxRecDepth 65536 in
theorem codes_eq : words1.filter isCode = codes1 := rfl
theorem w_codes : ∀ c ∈ words1.filter isCode, c.before args0 about1 = true := by
  rw [codes_eq]
  intro c hc
  simp only [codes1, List.mem_cons, List.not_mem_nil, or_false] at hc
  rcases hc with rfl | rfl | rfl | rfl | rfl | rfl | rfl | rfl | rfl | rfl | rfl | rfl | rfl | rfl | rfl | rfl | rfl
  · exact w_c0
  · exact w_c1
  · exact w_c2
  · exact w_c3
  · exact w_c4
  · exact w_c5
  · exact w_c6
  · exact w_c7
  · exact w_c8
  · exact w_c9
  · exact w_c10
  · exact w_c11
  · exact w_c12
  · exact w_c13
  · exact w_c14
  · exact w_c15
  · exact w_c16
set_option maxRecDepth 65536 in
theorem w_t1 : (words1.take 24).all (fun c => isCode c || c.before args0 about1) = true := by decide +kernel
set_option maxRecDepth 65536 in
theorem w_t2 : ((words1.drop 24).take 24).all (fun c => isCode c || c.before args0 about1) = true := by decide +kernel
set_option maxRecDepth 65536 in
theorem w_t3 : (((words1.drop 24).drop 24).take 24).all (fun c => isCode c || c.before args0 about1) = true := by decide +kernel
set_option maxRecDepth 65536 in
theorem w_t4 : (((words1.drop 24).drop 24).drop 24).all (fun c => isCode c || c.before args0 about1) = true := by decide +kernel
theorem w_tables : (allAtoms (Jvm.Cond.code x code maxLocals ret :: tables_1)).before args0 about1 = true := by
  rw [allAtoms_all]
  show words1.all (fun c => c.before args0 about1) = true
  refine all_split ?_ w_codes
  rw [← List.take_append_drop 24 words1, List.all_append, w_t1, ← List.take_append_drop 24 (words1.drop 24), List.all_append, w_t2, ← List.take_append_drop 24 ((words1.drop 24).drop 24), List.all_append, w_t3, w_t4]
  rfl
set_option maxRecDepth 65536 in
theorem w_rest : rest_1_c.before args0 about1 = true := by decide +kernel
set_option maxRecDepth 65536 in
theorem w_case : (Jvm.Cond.and given_1 narrow_1).before args0 about1 = true := by decide +kernel
set_option maxRecDepth 65536 in
theorem w_consts : constsHeld consts_1 about1 := Jvm.Lit.constsHeldB_iff.mp (by decide +kernel)
theorem w_applies : (headSpec (Jvm.Cond.code x code maxLocals ret :: tables_1) room_1).applies x e0.platform about1 = true :=
  (Spec.applies_iff w_frames).mpr ⟨w_running, w_runnable, w_alone, w_named, w_hears, w_ripe, w_room, w_tables⟩
theorem atStart : AtStart classFile x code maxLocals ret World_1 tables_1 room_1 Calls_1 rest_1 Pre_1 launch0 p0 e0 about1 theMethod args0 below0 :=
  ⟨lists_1, trivial, launch0.admits_env _ _ _, launch0.least_env, fairChoices_fair.cas, fairChoices_fair.clock, w_frames, w_args, w_heap, w_applies, ⟨w_consts, trivial⟩, w_rest, w_case⟩
end start1
theorem witness_1 : WitnessClaimed_1 := ⟨start1.p0, start1.e0, start1.about1, start1.theMethod, start1.args0, start1.below0, start1.atStart⟩
end Jvm.Pilot.@@N@@
