import JvmDerived
import JvmDerived.Pilot.@@N@@Statement
import JvmDerived.Pilot.@@N@@Code
set_option linter.unusedVariables false
set_option linter.unusedSimpArgs false
namespace Jvm.OwnGo
open Sem ClassFile Op Lib Jvm.Stand Jvm.Free Jvm.LawKit Jvm.RoadKit
section Own
variable {p : Program} {l : Launch} {e : Env} {R : Room} {s : State} {m : MethodId} {args : Array Value} {below : List Frame} {meth : Method} {c : Code} {T T' : State} {locs : List Loc} {cells slots : Nat} {P : Outcome → State → Prop} {g g' : JFrame} {Z : State} {h : Heap}
/-- from where the walk stands (the state T, the frame g) it ends well -/
def Go (p : Program) (e : Env) (below : List Frame) (P : Outcome → State → Prop) (T : State) (g : JFrame) : Prop :=
  ∃ s₂ o, Steps p.tables e below (T.setTop g) s₂ ∧ s₂.status = .running ∧ Ended s₂ below o ∧ P o s₂
/-- what a contract asks of the end -/
abbrev PQ (s : State) (C S : Nat) (Q : Option Value → Heap → List Loc → Prop) : Outcome → State → Prop := fun o U' => ∃ v L, o = .returned v ∧ Q v U'.heap L ∧ FrameEnd s o U' L C S
theorem goS {n : Nat} {Ls' : Array Slot} {st' : List Value} (k : ∀ t, Steps p.tables e below (T'.setTop (mkF m n Ls' st')) t → Steps p.tables e below (T.setTop g) t) (h : Go p e below P T' (mkF m n Ls' st')) : Go p e below P T g := by
  obtain ⟨s2, o, h1, h2⟩ := h; exact ⟨s2, o, k _ h1, h2⟩
theorem goT {n : Nat} {Ls' : Array Slot} {st' : List Value} (k : Steps p.tables e below (T.setTop g) (T'.setTop (mkF m n Ls' st'))) (h : Go p e below P T' (mkF m n Ls' st')) : Go p e below P T g := by
  obtain ⟨s2, o, h1, h2⟩ := h; exact ⟨s2, o, k.trans h1, h2⟩
theorem enter (q : entryFrame m args n = g) (h : Go p e below P T g) : ∃ s₂ o, Steps p.tables e below (T.setTop (entryFrame m args n)) s₂ ∧ s₂.status = .running ∧ Ended s₂ below o ∧ P o s₂ := by
  rw [q]; exact h
theorem goRet {Q : Option Value → Heap → List Loc → Prop} {C S : Nat} (X : Stand p l e R s m args below meth c T locs cells slots) (hx : p.tables.exec = Jvm.exec) (hlk : meth.locks = false) {pc : Nat} {Ls : Array Slot} {w : Value} {t : FieldType} {i : Instr} {rest : List Value} (hret : meth.sig.returnType = some t) (hn : narrow t w = w)
    (hi : (i = .ireturn ∧ (t = .int ∨ t = .boolean ∨ t = .byte ∨ t = .char ∨ t = .short) ∧ ∃ z, w = .int z) ∨ (i = .lreturn ∧ t = .long ∧ ∃ z, w = .long z) ∨ (i = .dreturn ∧ t = .double ∧ ∃ z, w = .double z) ∨ (i = .freturn ∧ t = .float ∧ ∃ z, w = .float z) ∨ (i = .areturn ∧ t.isReference = true ∧ w.isRef = true))
    (hd : decode c.code pc = .ok (i, 1)) (hC : cells ≤ C) (hS : slots ≤ S) (hQ : Q (some w) T.heap locs) : Go p e below (PQ s C S Q) T (mkF m pc Ls (w :: rest)) := by
  obtain ⟨fs, hr, hrun, hended, hW, hsame⟩ := X.leave (v := some w) (fun h => by rw [hret] at h; cases h) hlk
  exact ⟨_, _, retOut X hx hret hn hi hd hr, hrun, hended, _, _, rfl, hQ, ⟨_, rfl⟩, hW, hsame.mono hC hS⟩
theorem goRetI {Q : Option Value → Heap → List Loc → Prop} {C S : Nat} (X : Stand p l e R s m args below meth c T locs cells slots) (hx : p.tables.exec = Jvm.exec) (hlk : meth.locks = false) {pc : Nat} {Ls : Array Slot} {z : Int32} {rest : List Value} (hret : meth.sig.returnType = some .int) (hd : decode c.code pc = .ok (.ireturn, 1)) (hC : cells ≤ C) (hS : slots ≤ S) (hQ : Q (some (.int z)) T.heap locs) : Go p e below (PQ s C S Q) T (mkF m pc Ls (.int z :: rest)) :=
  goRet X hx hlk hret rfl (Or.inl ⟨rfl, Or.inl rfl, _, rfl⟩) hd hC hS hQ
theorem goRetZ {Q : Option Value → Heap → List Loc → Prop} {C S : Nat} (X : Stand p l e R s m args below meth c T locs cells slots) (hx : p.tables.exec = Jvm.exec) (hlk : meth.locks = false) {pc : Nat} {Ls : Array Slot} {z : Int32} {rest : List Value} (hret : meth.sig.returnType = some .boolean) (hz : z = 0 ∨ z = 1) (hd : decode c.code pc = .ok (.ireturn, 1)) (hC : cells ≤ C) (hS : slots ≤ S) (hQ : Q (some (.int z)) T.heap locs) : Go p e below (PQ s C S Q) T (mkF m pc Ls (.int z :: rest)) :=
  goRet X hx hlk hret (by rcases hz with rfl | rfl <;> rfl) (Or.inl ⟨rfl, Or.inr (Or.inl rfl), _, rfl⟩) hd hC hS hQ
theorem goRetJ {Q : Option Value → Heap → List Loc → Prop} {C S : Nat} (X : Stand p l e R s m args below meth c T locs cells slots) (hx : p.tables.exec = Jvm.exec) (hlk : meth.locks = false) {pc : Nat} {Ls : Array Slot} {z : Int64} {rest : List Value} (hret : meth.sig.returnType = some .long) (hd : decode c.code pc = .ok (.lreturn, 1)) (hC : cells ≤ C) (hS : slots ≤ S) (hQ : Q (some (.long z)) T.heap locs) : Go p e below (PQ s C S Q) T (mkF m pc Ls (.long z :: rest)) :=
  goRet X hx hlk hret rfl (Or.inr (Or.inl ⟨rfl, rfl, _, rfl⟩)) hd hC hS hQ
theorem goRetA {Q : Option Value → Heap → List Loc → Prop} {C S : Nat} (X : Stand p l e R s m args below meth c T locs cells slots) (hx : p.tables.exec = Jvm.exec) (hlk : meth.locks = false) {pc : Nat} {Ls : Array Slot} {w : Value} {t : FieldType} {rest : List Value} (hret : meth.sig.returnType = some t) (ht : t.isReference = true) (hw : w.isRef = true) (hd : decode c.code pc = .ok (.areturn, 1)) (hC : cells ≤ C) (hS : slots ≤ S) (hQ : Q (some w) T.heap locs) : Go p e below (PQ s C S Q) T (mkF m pc Ls (w :: rest)) :=
  goRet X hx hlk hret (by cases t <;> first | rfl | cases ht) (Or.inr (Or.inr (Or.inr (Or.inr ⟨rfl, ht, hw⟩)))) hd hC hS hQ
theorem goRetV {Q : Option Value → Heap → List Loc → Prop} {C S : Nat} (X : Stand p l e R s m args below meth c T locs cells slots) (hx : p.tables.exec = Jvm.exec) (hlk : meth.locks = false) {pc : Nat} {Ls : Array Slot} (hret : meth.sig.returnType = none) (hd : decode c.code pc = .ok (.return_, 1)) (hC : cells ≤ C) (hS : slots ≤ S) (hQ : Q none T.heap locs) : Go p e below (PQ s C S Q) T (mkF m pc Ls []) := by
  obtain ⟨fs, hr, hrun, hended, hW, hsame⟩ := X.leave (v := none) (fun _ => rfl) hlk
  exact ⟨_, _, X.returnOut hx hret hd hr, hrun, hended, _, _, rfl, hQ, ⟨_, rfl⟩, hW, hsame.mono hC hS⟩
abbrev PQW (s : State) (C S : Nat) (Q : Option Value → Heap → List Loc → Prop) : Outcome → State → Prop := fun o U' => ∃ v L, o = .returned v ∧ Q v U'.heap L ∧ ReturnedEndW s o U' L C S
theorem goRetW {Q : Option Value → Heap → List Loc → Prop} {C S : Nat} {vm₁ : Vm} (X : Stand p l e R (s.setVm vm₁) m args below meth c T locs cells slots) (hx : p.tables.exec = Jvm.exec) (hlk : meth.locks = false) {n : Nat} (hS : s.Since vm₁ n) (hn0 : n ≤ T.heap.size) {pc : Nat} {Ls : Array Slot} {w : Value} {t : FieldType} {i : Instr} {rest : List Value} (hret : meth.sig.returnType = some t) (hn : narrow t w = w)
    (hi : (i = .ireturn ∧ (t = .int ∨ t = .boolean ∨ t = .byte ∨ t = .char ∨ t = .short) ∧ ∃ z, w = .int z) ∨ (i = .lreturn ∧ t = .long ∧ ∃ z, w = .long z) ∨ (i = .dreturn ∧ t = .double ∧ ∃ z, w = .double z) ∨ (i = .freturn ∧ t = .float ∧ ∃ z, w = .float z) ∨ (i = .areturn ∧ t.isReference = true ∧ w.isRef = true))
    (hd : decode c.code pc = .ok (i, 1)) (hC : cells ≤ C) (hSl : slots ≤ S) (hQ : Q (some w) T.heap locs) : Go p e below (PQW s C S Q) T (mkF m pc Ls (w :: rest)) := by
  obtain ⟨fs, hr, hrun, hended, h1, h2, h3, h4⟩ := X.leaveW hS hn0 (v := some w) (fun h => by rw [hret] at h; cases h) hlk
  exact ⟨_, _, retOut X hx hret hn hi hd hr, hrun, hended, _, _, rfl, hQ, ⟨_, rfl⟩, h2, h3, h4.mono hC hSl⟩
theorem goRetVW {Q : Option Value → Heap → List Loc → Prop} {C S : Nat} {vm₁ : Vm} (X : Stand p l e R (s.setVm vm₁) m args below meth c T locs cells slots) (hx : p.tables.exec = Jvm.exec) (hlk : meth.locks = false) {n : Nat} (hS : s.Since vm₁ n) (hn0 : n ≤ T.heap.size) {pc : Nat} {Ls : Array Slot} (hret : meth.sig.returnType = none) (hd : decode c.code pc = .ok (.return_, 1)) (hC : cells ≤ C) (hSl : slots ≤ S) (hQ : Q none T.heap locs) : Go p e below (PQW s C S Q) T (mkF m pc Ls []) := by
  obtain ⟨fs, hr, hrun, hended, h1, h2, h3, h4⟩ := X.leaveW hS hn0 (v := none) (fun _ => rfl) hlk
  exact ⟨_, _, X.returnOut hx hret hd hr, hrun, hended, _, _, rfl, hQ, ⟨_, rfl⟩, h2, h3, h4.mono hC hSl⟩
abbrev PQH (Z : State) (EL : List (String × Nat)) (s : State) (C S : Nat) (Q : Option Value → Heap → List Loc → Prop) : Outcome → State → Prop := fun o U' => ∃ v L, o = .returned v ∧ Q v U'.heap L ∧ CHr Z EL s.vm s.heap U'.vm U'.heap ∧ ReturnedEndW s o U' L C S
theorem goRetH {Q : Option Value → Heap → List Loc → Prop} {C S : Nat} {vm₁ : Vm} {EL : List (String × Nat)} {a0 : Array Value} (X : Stand p l e R (s.setVm vm₁) m args below meth c T locs cells slots) (hx : p.tables.exec = Jvm.exec) (hlk : meth.locks = false) {n : Nat} (hS : s.Since vm₁ n) (hn0 : n ≤ T.heap.size) (hZ : Z.Warmed39 vm₁) (hEL : EW Z a0 EL) (hC' : CHr Z EL s.vm s.heap vm₁ T.heap) {pc : Nat} {Ls : Array Slot} {w : Value} {t : FieldType} {i : Instr} {rest : List Value} (hret : meth.sig.returnType = some t) (hn : narrow t w = w)
    (hi : (i = .ireturn ∧ (t = .int ∨ t = .boolean ∨ t = .byte ∨ t = .char ∨ t = .short) ∧ ∃ z, w = .int z) ∨ (i = .lreturn ∧ t = .long ∧ ∃ z, w = .long z) ∨ (i = .dreturn ∧ t = .double ∧ ∃ z, w = .double z) ∨ (i = .freturn ∧ t = .float ∧ ∃ z, w = .float z) ∨ (i = .areturn ∧ t.isReference = true ∧ w.isRef = true))
    (hd : decode c.code pc = .ok (i, 1)) (hC : cells ≤ C) (hSl : slots ≤ S) (hQ : Q (some w) T.heap locs) : Go p e below (PQH Z EL s C S Q) T (mkF m pc Ls (w :: rest)) := by
  obtain ⟨fs, hr, hrun, hended, h1, h2, h3, h4⟩ := X.leaveW hS hn0 (v := some w) (fun h => by rw [hret] at h; cases h) hlk
  have qC : CHr Z EL s.vm s.heap T.vm T.heap := hC'.trans (CHv.at X hZ hEL hC'.1)
  exact ⟨_, _, retOut X hx hret hn hi hd hr, hrun, hended, _, _, rfl, hQ, qC, ⟨_, rfl⟩, h2, h3, h4.mono hC hSl⟩
theorem goRetVH {Q : Option Value → Heap → List Loc → Prop} {C S : Nat} {vm₁ : Vm} {EL : List (String × Nat)} {a0 : Array Value} (X : Stand p l e R (s.setVm vm₁) m args below meth c T locs cells slots) (hx : p.tables.exec = Jvm.exec) (hlk : meth.locks = false) {n : Nat} (hS : s.Since vm₁ n) (hn0 : n ≤ T.heap.size) (hZ : Z.Warmed39 vm₁) (hEL : EW Z a0 EL) (hC' : CHr Z EL s.vm s.heap vm₁ T.heap) {pc : Nat} {Ls : Array Slot} (hret : meth.sig.returnType = none) (hd : decode c.code pc = .ok (.return_, 1)) (hC : cells ≤ C) (hSl : slots ≤ S) (hQ : Q none T.heap locs) : Go p e below (PQH Z EL s C S Q) T (mkF m pc Ls []) := by
  obtain ⟨fs, hr, hrun, hended, h1, h2, h3, h4⟩ := X.leaveW hS hn0 (v := none) (fun _ => rfl) hlk
  have qC : CHr Z EL s.vm s.heap T.vm T.heap := hC'.trans (CHv.at X hZ hEL hC'.1)
  exact ⟨_, _, X.returnOut hx hret hd hr, hrun, hended, _, _, rfl, hQ, qC, ⟨_, rfl⟩, h2, h3, h4.mono hC hSl⟩
/-- a String under construction (its value is null) is no booked one -/
theorem safeNull {vm : Vm} {EL : List (String × Nat)} {a : Addr} (hal : Z.vm.Alike vm) (E : Exa Z h a "java/lang/String") (F : Fld Z h a "java/lang/String" "value" "[B" .null) : Safe Z EL vm h a := fun B => by
  obtain ⟨cell, cf, k, i, f, f1, f2, f3, f4, f5, f6, f7⟩ := F
  obtain ⟨cell', k', e1, e2, e3, -, -⟩ := E
  cases f1.symm.trans e1
  obtain ⟨p, -, u, a', -, q, -, F', rfl | rfl⟩ := B
  · have ha := F'.ha
    cases (show h[q.sa]? = some q.sC from ha).symm.trans f1
    obtain ⟨cS, ⟨⟨-, -, -, ⟨cv, kv, iv, s4, -⟩, -, -, -, s8, -⟩, -⟩, -⟩ := F'
    obtain ⟨kv', z4⟩ := ff_back (U := Wst Z vm h) hal s4
    cases f2.symm.trans z4
    rw [f7] at s8
    cases s8
  · have hd := F'.hd
    cases (show h[q.sd]? = some q.SA from hd).symm.trans f1
    obtain ⟨cS, -, -, hB, -⟩ := F'
    have hB' : Z.vm.findClass "[B" = some q.SA.cls := by rw [← hal.findClass]; exact hB
    obtain ⟨k1, q1, q2⟩ := Vm.findClass_spec hB'
    obtain ⟨k2, q3, q4⟩ := Vm.findClass_spec e2
    cases q1.symm.trans q3
    exact absurd (q2.symm.trans q4) (by decide)
theorem mvMN {a0 args : Array Value} {own host : String} {y : MethodName} {index : Nat} (hZ : Z.Warmed39 s.vm) (w : (Cond.methodLinkNest own index y host).before a0 Z = true) : (Cond.methodLinkNest own index y host).before args s = true := (Cond.methodLinkNest_wide hZ w :)
theorem shr0 (z : Int32) : z >>> ((0 : Int32) &&& 31) = z := by
  have h := c_ishr z 0 0 (by decide)
  exact Int32.toInt_inj.mp (by rw [h]; omega)
theorem narZ {z : Int32} (hz : z = 0 ∨ z = 1) : narrow .boolean (.int z) = .int z := by rcases hz with rfl | rfl <;> rfl
theorem fldStart {args : Array Value} {t : Term} {C n d : String} {a : Addr} {k : Int32} (ht : t.eval args Z none [] Z = some (.ref a)) (h : (Cond.eq (Term.field t C n d) (.int k)).value args Z none Z [] = some true) : Fld Z Z.heap a C n d (.int k) := by
  obtain ⟨x, y, e1, e2, k1, k2⟩ := cmp_v (Or.inl h)
  rw [Term.int_eval] at e2
  cases e2
  obtain ⟨z, rfl⟩ := k2
  have e3 := e1
  rw [fld_at ht] at e3
  have q : z = k := by simpa [Cond.value, e1, Term.int_eval] using h
  subst q
  exact Fld.start e3
def bi (P : Prop) [Decidable P] : Int32 := if P then 1 else 0
theorem bi_t {P : Prop} [Decidable P] (h : P) : bi P = 1 := if_pos h
theorem bi_f {P : Prop} [Decidable P] (h : ¬ P) : bi P = 0 := if_neg h
theorem bi01 (P : Prop) [Decidable P] : bi P = 0 ∨ bi P = 1 := by unfold bi; split <;> simp
theorem modk (x k : Int32) (K : Int) (hk : k.toInt = K) : 0 < K → 0 ≤ ((x &&& 2147483647) % k).toInt ∧ ((x &&& 2147483647) % k).toInt < K := by
  intro h0
  have h1 := c_mask x 2147483647 31 (by decide) (by decide)
  have h2 : 0 ≤ (x &&& 2147483647).toInt := by rw [h1]; omega
  have h3 := (c_irem (x &&& 2147483647) k K hk).1 h2
  rw [h3]
  exact ⟨Int.emod_nonneg _ (by omega), Int.emod_lt_of_pos _ h0⟩
/-- an index: a natural below n -/
theorem idx {i : Int32} {n : Nat} (h : 0 ≤ i.toInt ∧ i.toInt < (n : Int)) : ∃ k : Nat, k < n ∧ i.toInt = (k : Int) ∧ i.toNatClampNeg = k ∧ ¬ i < 0 := by
  have h0 : ¬ i < 0 := by rw [Int32.lt_iff_toInt_lt]; show ¬ i.toInt < 0; omega
  have h1 := nat_of h0
  exact ⟨i.toNatClampNeg, by omega, h1, rfl, h0⟩
theorem lsw {target : State} (X : Stand p l e R s m args below meth c T locs cells slots) (hx : p.tables.exec = Jvm.exec) (hg : g.method = m) {dflt : Int} {pairs : Array (Int × Int)} {len pc0 pc' : Nat} (hpc : g.pc = pc0) {o : Int} {i : Int32} {rest : List Value} (hd : decode c.code g.pc = .ok (.lookupswitch dflt pairs, len)) (hs : g.stack = .int i :: rest)
    (hord : ∀ (a b a_1 b_1 : Int), ((a, b), a_1, b_1) ∈ pairs.toList.zip pairs.toList.tail → a < a_1) (hf : (∃ kk, pairs.find? (·.1 == i.toInt) = some (kk, o)) ∨ (pairs.find? (·.1 == i.toInt) = none ∧ o = dflt)) (h0 : 0 ≤ (pc0 : Int) + o) (hp : ((pc0 : Int) + o).toNat = pc')
    (hr : Steps p.tables e below (T.setTop { g with pc := pc', stack := rest }) target) : Steps p.tables e below (T.setTop g) target := by
  subst hg hpc hp
  rcases hf with ⟨kk, hf⟩ | ⟨hf, rfl⟩
  · jvm_step X.here [X.here.top, hx, hd, hs, hf, h0, lookupswitch.wp_whole]
    exact ⟨hord, hr⟩
  · jvm_step X.here [X.here.top, hx, hd, hs, hf, h0, lookupswitch.wp_whole]
    exact ⟨hord, hr⟩
theorem ieq {x k : Int32} {n K : Nat} (hx : x.toInt = (n : Int)) (hk : k.toInt = (K : Int)) : x = k ↔ n = K := by rw [← Int32.toInt_inj, hx, hk]; omega
theorem lenStart {args : Array Value} {t : Term} {a : Addr} {cl : Cell} {ty : FieldType} {z : Int32} (ht : t.eval args Z none [] Z = some (.ref a)) (A : Arr Z Z.heap a cl ty) (h : (Term.length t).eval args Z none [] Z = some (.int z)) : cl.slots.size < 2 ^ 31 ∧ cl.slots.size.toInt32 = z := by
  have ha := A.fin (U := Z) (Vm.Alike.refl _)
  by_cases q : cl.slots.size < 2 ^ 31
  · refine ⟨q, ?_⟩
    rw [len_f ht ha q] at h
    exact Value.int.inj (Option.some.inj h)
  · simp [Term.eval, ht, ha, q] at h
theorem subIdx {args : Array Value} {j : Int32} (hj : ¬ j < 0) (k : Int32) : (Term.sub (.index 0) (.int k)).eval args Z none [j.toNatClampNeg] Z = some (.int (j - k)) := Term.sub_int (idx_at hj) (Term.int_eval _)
theorem bi_iff {P Q : Prop} [Decidable P] [Decidable Q] (h : P ↔ Q) : bi P = bi Q := by unfold bi; simp only [h]
theorem cacheIdx {x : Int32} {n : Nat} (h1 : ¬ x < (-128 : Int32)) (h2 : ¬ (127 : Int32) < x) (hn : n = (256 : Int32).toNatClampNeg) : ¬ (x + (128 : Int32) < 0 ∨ n ≤ (x + (128 : Int32)).toNatClampNeg) := by
  rw [Int32.lt_iff_toInt_lt] at h1 h2
  have a1 : ¬ x.toInt < -128 := h1
  have a2 : ¬ (127 : Int) < x.toInt := h2
  have q0 : (128 : Int32).toInt = 128 := rfl
  have q := c_iadd x 128
  have r := rng32 (x + 128)
  rw [q0] at q
  have e1 : (x + (128 : Int32)).toInt = x.toInt + 128 := by omega
  have e2 : ¬ x + (128 : Int32) < 0 := by rw [Int32.lt_iff_toInt_lt]; show ¬ _ < (0 : Int); omega
  have e3 := nat_of e2
  have e4 : n = 256 := hn
  rintro (h | h)
  · exact e2 h
  · omega
theorem nsRoot {a0 : Array Value} {O K : String} {n : Nat} (w : (Cond.noSuperclass O).before a0 Z = true) (wk : (Cond.instantiable K n).before a0 Z = true) (hn : O ≠ K) : NS Z O K := by
  obtain ⟨c, k, h1, h2, h3, -, -⟩ := Cond.noSuperclass_spec w
  obtain ⟨t, kt, g1, -⟩ := Cond.instantiable_spec wk
  have ne := ids_ne h1 g1 hn
  refine ⟨c, t, h1, g1, fun fuel => ?_⟩
  cases fuel with
  | zero => rfl
  | succ f => simp [Vm.isSubclassAux, ne, h2, h3]
theorem nsNo {a0 : Array Value} {C S K : String} {n : Nat} (w : (Cond.superclass C S).before a0 Z = true) (wk : (Cond.instantiable K n).before a0 Z = true) (q : NS Z C K) (hn : C ≠ K) : ∃ c t, Z.vm.findClass C = some c ∧ Z.vm.findClass K = some t ∧ Z.vm.assignable c t = false := by
  obtain ⟨c, t, h0, g0, n3⟩ := q
  obtain ⟨p, k, kp, h1, h2, h3, h4, h5, -, h7⟩ := Cond.superclass_spec h0 w
  obtain ⟨t', k', g1, g2, g5, g7, -⟩ := Cond.instantiable_spec wk
  cases g0.symm.trans g1
  have g8 := (Bool.or_eq_false_iff.mp g7).1
  have ne := ids_ne h0 g0 hn
  refine ⟨c, t, h0, g0, ?_⟩
  show Z.vm.assignableAux (255 + 1) c t = false
  simp [Vm.assignableAux, ne, h2, g2, h5, g5, g8, Vm.isSubclass, n3]
theorem ne_key {x k : Int32} {K : Int} (h : ¬ x = k) (hk : k.toInt = K) : K ≠ x.toInt := fun q => h (Int32.toInt_inj.mp (by rw [hk]; exact q.symm))
end Own
end Jvm.OwnGo

namespace Jvm.Pilot.@@N@@
open Jvm Jvm.ClassFile Sem Op Lib Jvm.Free Jvm.Stand Jvm.LawKit Jvm.RoadKit Jvm.OwnGo Bundle Jvm.Pilot.@@N@@.Jvm.D
theorem own_wS {Z : State} {a0 : Array Value} (hw : ∀ d ∈ tables_1, d.before a0 Z = true) : ∀ a ∈ Bundle.stringAtoms, a.before a0 Z = true := by
  intro a ha
  simp only [Bundle.stringAtoms, List.mem_cons, List.not_mem_nil, or_false] at ha
  rcases ha with rfl | rfl | rfl | rfl | rfl | rfl | rfl
  all_goals first | exact (hw _ (List.mem_of_getElem? (i := 6) rfl)) | exact (hw _ (List.mem_of_getElem? (i := 14) rfl)) | exact (hw _ (List.mem_of_getElem? (i := 18) rfl)) | exact (hw _ (List.mem_of_getElem? (i := 27) rfl)) | exact (hw _ (List.mem_of_getElem? (i := 29) rfl)) | exact (hw _ (List.mem_of_getElem? (i := 63) rfl)) | exact (hw _ (List.mem_of_getElem? (i := 64) rfl))
abbrev own_EL : List (String × Nat) := [("java/lang/String", 7)]
theorem own_EW {Z : State} {a0 : Array Value} (hw : ∀ d ∈ tables_1, d.before a0 Z = true) : EW Z a0 own_EL := EW.cons (text := "") (hw _ (List.mem_of_getElem? (i := 62) rfl)) (fun _ q => nomatch q) EW.nil
theorem own_c255 (x : Int32) : ¬ (255 : Int32) < ((x &&& (255 : Int32)).toUInt32.toUInt16.toUInt32.toInt32) := by
  rw [i2c_mask, Int32.lt_iff_toInt_lt]
  have := c_and x 255 (by decide)
  show ¬ (255 : Int) < _
  have : (255 : Int32).toInt = 255 := rfl
  omega
theorem d3_0 : decode jdk_43_method_3_code 0 = .ok (.iload_n 0, 1) := by decide +kernel
theorem d3_1 : decode jdk_43_method_3_code 1 = .ok (.sipush 255, 3) := by decide +kernel
theorem d3_4 : decode jdk_43_method_3_code 4 = .ok (.if_icmp .gt 7, 3) := by decide +kernel
theorem d3_7 : decode jdk_43_method_3_code 7 = .ok (.iconst 1, 1) := by decide +kernel
theorem d3_8 : decode jdk_43_method_3_code 8 = .ok (.goto 4, 3) := by decide +kernel
theorem d3_12 : decode jdk_43_method_3_code 12 = .ok (.ireturn, 1) := by decide +kernel
theorem pn_0 : plainName "java/lang/StringLatin1" = true := by first | (simp [plainName, overriddenIn]; done) | decide +kernel
theorem ef_canEnc (m : MethodId) (x : Int32) : entryFrame m #[(.int x)] 1 = mkF m 0 #[.val (.int x)] [] := by first | (simp [entryFrame, mkF, argsToLocals, Value.category]; done) | rfl
abbrev R_canEnc : Room := { frames := 0, cells := 0, slots := 0, locals := 0 }
def Q_canEnc (Z : State) (x : Int32) (h0 : Heap) (n0 : Nat) (v : Option Value) (h : Heap) (L : List Loc) : Prop := v = some (.int 1) ∧ Fr n0 L ∧ h = h0
set_option maxRecDepth 65536 in
set_option maxHeartbeats 40000000 in
theorem rm_canEnc (l : Launch) (Z : State) (a0 : Array Value) (hw : ∀ d ∈ tables_1, d.before a0 Z = true) (ws : List Jvm.Cond) (x : Int32) (h0 : Heap) (n0 : Nat) (O0 : Old Z n0 h0) (hx255 : ¬ (255 : Int32) < x) :
    MetFree l (⟨"java/lang/StringLatin1", "canEncode", "(C)Z"⟩ : MethodName) (head1 (Jvm.Cond.code (⟨"java/lang/StringLatin1", "canEncode", "(C)Z"⟩ : MethodName) jdk_43_method_3_code 1 (some .boolean) :: ws) R_canEnc) (fun as_ U => as_ = #[(.int x)] ∧ Z.Warmed39 U.vm ∧ U.heap = h0) (fun _ _ _ _ _ => True) (fun _ U o U' => ∃ v L, o = .returned v ∧ Q_canEnc Z x h0 n0 v U'.heap L ∧ FrameEnd U o U' L R_canEnc.cells R_canEnc.slots) := by
  refine MetFree.of_bodySF (plainFor_of_name pn_0) hisR ?_
  intro p e s m args below meth c s₁ Bd hml0 hP hK
  obtain ⟨rfl, hZ, hh⟩ := hP
  have hx := Bd.exec
  have hby := Bd.bytes
  have hml : c.maxLocals = 1 := hml0
  have hown : s.vm.findClass "java/lang/StringLatin1" = some m.cls := findClass_of_methodNamed Bd.named
  have hnm := (name_of_methodNamed Bd.named Bd.method).1
  have hlk : meth.locks = false := BodyLoose.notSynchronized Bd
  have X0 : Stand p l e R_canEnc s m #[(.int x)] below meth c s₁ [] 0 0 := Stand.of_body Bd
  have e0 : s₁.heap = h0 := by rw [← hh, Bd.state]; rfl
  have N0 := Fr.nil n0
  refine enter (P := PQ s R_canEnc.cells R_canEnc.slots (Q_canEnc Z x h0 n0)) (ef_canEnc m x) ?_
  refine goS (n := 1) (Ls' := #[.val (.int x)]) (st' := [(.int x)]) (fun _ kz => XS.iloadN X0.here hx rfl (hb hby d3_0) rfl kz) ?_
  refine goS (n := 4) (Ls' := #[.val (.int x)]) (st' := [(.int (255 : Int32)), (.int x)]) (fun _ kz => XS.sipush X0.here hx rfl (hb hby d3_1) kz) ?_
  refine goS (n := 7) (Ls' := #[.val (.int x)]) (st' := []) (fun _ kz => XS.icmpNo X0.here hx rfl (hb hby d3_4) rfl (flt hx255).2.2.1 kz) ?_
  refine goS (n := 8) (Ls' := #[.val (.int x)]) (st' := [(.int (1 : Int32))]) (fun _ kz => XS.iconst X0.here hx rfl (hb hby d3_7) kz) ?_
  refine goS (n := 12) (Ls' := #[.val (.int x)]) (st' := [(.int (1 : Int32))]) (fun _ kz => XS.goto X0.here hx rfl (pc0 := 8) (pc' := 12) rfl (hb hby d3_8) (by decide) (by decide) kz) ?_
  exact goRetZ X0 hx hlk Bd.returns (Or.inr rfl) (hb hby d3_12) (by decide) (by decide) (by rw [e0]; exact ⟨rfl, N0, rfl⟩)
theorem d4_0 : decode jdk_43_method_46_code 0 = .ok (.iconst 1, 1) := by decide +kernel
theorem d4_1 : decode jdk_43_method_46_code 1 = .ok (.newarray .byte, 2) := by decide +kernel
theorem d4_3 : decode jdk_43_method_46_code 3 = .ok (.dup, 1) := by decide +kernel
theorem d4_4 : decode jdk_43_method_46_code 4 = .ok (.iconst 0, 1) := by decide +kernel
theorem d4_5 : decode jdk_43_method_46_code 5 = .ok (.iload_n 0, 1) := by decide +kernel
theorem d4_6 : decode jdk_43_method_46_code 6 = .ok (.i2b, 1) := by decide +kernel
theorem d4_7 : decode jdk_43_method_46_code 7 = .ok (.bastore, 1) := by decide +kernel
theorem d4_8 : decode jdk_43_method_46_code 8 = .ok (.areturn, 1) := by decide +kernel
theorem ef_toB (m : MethodId) (x : Int32) : entryFrame m #[(.int x)] 1 = mkF m 0 #[.val (.int x)] [] := by first | (simp [entryFrame, mkF, argsToLocals, Value.category]; done) | rfl
abbrev R_toB : Room := { frames := 0, cells := 1, slots := 1, locals := 0 }
def Q_toB (Z : State) (x : Int32) (h0 : Heap) (n0 : Nat) (v : Option Value) (h : Heap) (L : List Loc) : Prop := ∃ (t : Addr) (k : ClassId), v = some (.ref t) ∧ Fr n0 L ∧ Keep h0 h [] ∧ n0 ≤ t ∧ h0.size ≤ t ∧ Arv Z h t k .byte (1 : Int32) [(.int (nar .byte x.toInt8.toInt32))] (.int (0 : Int32))
set_option maxRecDepth 65536 in
set_option maxHeartbeats 40000000 in
theorem rm_toB (l : Launch) (Z : State) (a0 : Array Value) (hw : ∀ d ∈ tables_1, d.before a0 Z = true) (ws : List Jvm.Cond) (x : Int32) (h0 : Heap) (n0 : Nat) (O0 : Old Z n0 h0) :
    MetFree l (⟨"java/lang/StringLatin1", "toBytes", "(C)[B"⟩ : MethodName) (head1 (Jvm.Cond.code (⟨"java/lang/StringLatin1", "toBytes", "(C)[B"⟩ : MethodName) jdk_43_method_46_code 1 (some (.array .byte)) :: ws) R_toB) (fun as_ U => as_ = #[(.int x)] ∧ Z.Warmed39 U.vm ∧ U.heap = h0) (fun _ _ _ _ _ => True) (fun _ U o U' => ∃ v L, o = .returned v ∧ Q_toB Z x h0 n0 v U'.heap L ∧ FrameEnd U o U' L R_toB.cells R_toB.slots) := by
  refine MetFree.of_bodySF (plainFor_of_name pn_0) hisR ?_
  intro p e s m args below meth c s₁ Bd hml0 hP hK
  obtain ⟨rfl, hZ, hh⟩ := hP
  have hx := Bd.exec
  have hby := Bd.bytes
  have hml : c.maxLocals = 1 := hml0
  have hown : s.vm.findClass "java/lang/StringLatin1" = some m.cls := findClass_of_methodNamed Bd.named
  have hnm := (name_of_methodNamed Bd.named Bd.method).1
  have hlk : meth.locks = false := BodyLoose.notSynchronized Bd
  have X0 : Stand p l e R_toB s m #[(.int x)] below meth c s₁ [] 0 0 := Stand.of_body Bd
  have e0 : s₁.heap = h0 := by rw [← hh, Bd.state]; rfl
  have N0 := Fr.nil n0
  refine enter (P := PQ s R_toB.cells R_toB.slots (Q_toB Z x h0 n0)) (ef_toB m x) ?_
  refine goS (n := 1) (Ls' := #[.val (.int x)]) (st' := [(.int (1 : Int32))]) (fun _ kz => XS.iconst X0.here hx rfl (hb hby d4_0) kz) ?_
  obtain ⟨T1, h1, k1, X1, e1, E1, A1, Ex1, st1⟩ := newPE X0 hx hZ (hw _ (List.mem_of_getElem? (i := 18) rfl)) e0 (g := (mkF m 1 #[.val (.int x)] [(.int (1 : Int32))])) rfl (hb hby d4_1) rfl (by decide) (cap := 1) (by decide) (by decide) (by decide) (by decide) (ad := "[B") (by decide +kernel)
  obtain ⟨b1, g1⟩ : ∃ z, z = h0.size := ⟨_, rfl⟩
  rw [← g1] at A1 st1 Ex1
  have g_b1 : n0 ≤ b1 := Nat.le_trans (O0.1 ▸ O0.2.1) (Nat.le_of_eq g1.symm)
  have z_b1 : h0.size ≤ b1 := Nat.le_trans (Keep.refl h0 []).1 (Nat.le_of_eq g1.symm)
  have E_b1 : Exa Z h1 b1 "[B" := Ex1
  have V_b1 : Arv Z h1 b1 k1 .byte (1 : Int32) [(.int (0 : Int32))] (.int (0 : Int32)) := (Arv.new A1 (by decide)).pad (pad_rep [] (.int (0 : Int32)) 1)
  have O1 := O0.ext E1
  have KK1 : Keep h0 h1 [] := (Keep.refl h0 []).ext E1
  refine goS (n := 3) (Ls' := #[.val (.int x)]) (st' := [(.ref b1)]) st1 ?_
  refine goS (n := 4) (Ls' := #[.val (.int x)]) (st' := [(.ref b1), (.ref b1)]) (fun _ kz => XS.dup X1.here hx rfl (hb hby d4_3) rfl rfl kz) ?_
  refine goS (n := 5) (Ls' := #[.val (.int x)]) (st' := [(.int (0 : Int32)), (.ref b1), (.ref b1)]) (fun _ kz => XS.iconst X1.here hx rfl (hb hby d4_4) kz) ?_
  refine goS (n := 6) (Ls' := #[.val (.int x)]) (st' := [(.int x), (.int (0 : Int32)), (.ref b1), (.ref b1)]) (fun _ kz => XS.iloadN X1.here hx rfl (hb hby d4_5) rfl kz) ?_
  refine goS (n := 7) (Ls' := #[.val (.int x)]) (st' := [(.int (x.toInt8.toInt32)), (.int (0 : Int32)), (.ref b1), (.ref b1)]) (fun _ kz => XS.i2b X1.here hx rfl (hb hby d4_6) rfl kz) ?_
  obtain ⟨cl2, Ar2, q2, S2, Nn2, H2, G2⟩ := V_b1
  have hin2 : ¬ ((0 : Int32) < 0 ∨ cl2.slots.size ≤ ((0 : Int32)).toNatClampNeg) := inb_of S2 ⟨by decide, by decide⟩
  obtain ⟨T3, h3, X3, e3, W3, st3⟩ := stB X1 hx hZ e1 Ar2 (j := (0 : Int32)) hin2 (g := (mkF m 7 #[.val (.int x)] [(.int (x.toInt8.toInt32)), (.int (0 : Int32)), (.ref b1), (.ref b1)])) rfl rfl (hb hby d4_7)
  have E_b1 : Exa Z h3 b1 "[B" := E_b1.wr W3
  have V_b1 : Arv Z h3 b1 k1 .byte (1 : Int32) [(.int (nar .byte (x.toInt8.toInt32)))] (.int (0 : Int32)) := Arv.set Ar2 q2 S2 Nn2 H2 G2 (fits_nar_byte _) W3 0 rfl (Nat.le_of_ble_eq_true rfl)
  have N3 := Fr.snoc X3 N0 g_b1
  have O3 := O1.wr W3 g_b1
  have KK3 : Keep h0 h3 [] := KK1.wr W3 (Or.inr z_b1)
  refine goS (n := 8) (Ls' := #[.val (.int x)]) (st' := [(.ref b1)]) st3 ?_
  exact goRetA X3 hx hlk Bd.returns rfl rfl (hb hby d4_8) (by decide) (by decide) (by rw [e3]; exact ⟨b1, _, rfl, N3, KK3, g_b1, z_b1, V_b1⟩)
theorem d5_0 : decode jdk_42_method_151_code 0 = .ok (.aload_n 0, 1) := by decide +kernel
theorem d5_1 : decode jdk_42_method_151_code 1 = .ok (.invokespecial 1, 3) := by decide +kernel
theorem d5_4 : decode jdk_42_method_151_code 4 = .ok (.aload_n 0, 1) := by decide +kernel
theorem d5_5 : decode jdk_42_method_151_code 5 = .ok (.aload_n 1, 1) := by decide +kernel
theorem d5_6 : decode jdk_42_method_151_code 6 = .ok (.putfield 9, 3) := by decide +kernel
theorem d5_9 : decode jdk_42_method_151_code 9 = .ok (.aload_n 0, 1) := by decide +kernel
theorem d5_10 : decode jdk_42_method_151_code 10 = .ok (.iload_n 2, 1) := by decide +kernel
theorem d5_11 : decode jdk_42_method_151_code 11 = .ok (.putfield 15, 3) := by decide +kernel
theorem d5_14 : decode jdk_42_method_151_code 14 = .ok (.return_, 1) := by decide +kernel
theorem pn_1 : plainName "java/lang/String" = true := by first | (simp [plainName, overriddenIn]; done) | decide +kernel
theorem ef_strBB (m : MethodId) (a : Addr) (t : Addr) : entryFrame m #[(.ref a), (.ref t), (.int (0 : Int32))] 3 = mkF m 0 #[.val (.ref a), .val (.ref t), .val (.int (0 : Int32))] [] := by first | (simp [entryFrame, mkF, argsToLocals, Value.category]; done) | rfl
abbrev R_strBB : Room := { frames := 1, cells := 0, slots := 0, locals := 12 }
def Q_strBB (Z : State) (a : Addr) (t : Addr) (h0 : Heap) (n0 : Nat) (v : Option Value) (h : Heap) (L : List Loc) : Prop := v = none ∧ Fr n0 L ∧ Keep h0 h [a] ∧ Fld Z h a "java/lang/String" "value" "[B" (.ref t) ∧ Fld Z h a "java/lang/String" "coder" "B" (.int (0 : Int32))
set_option maxRecDepth 65536 in
set_option maxHeartbeats 40000000 in
theorem rm_strBB (l : Launch) (Z : State) (a0 : Array Value) (hw : ∀ d ∈ tables_1, d.before a0 Z = true) (ws : List Jvm.Cond) (a : Addr) (t : Addr) (h0 : Heap) (n0 : Nat) (O0 : Old Z n0 h0) (E_a : Exa Z h0 a "java/lang/String") (F_value_a : Fld Z h0 a "java/lang/String" "value" "[B" .null) (F_coder_a : Fld Z h0 a "java/lang/String" "coder" "B" (.int (0 : Int32))) (g_a : n0 ≤ a) :
    MetFree l (⟨"java/lang/String", "<init>", "([BB)V"⟩ : MethodName) (head1 (Jvm.Cond.code (⟨"java/lang/String", "<init>", "([BB)V"⟩ : MethodName) jdk_42_method_151_code 3 none :: ws) R_strBB) (fun as_ U => as_ = #[(.ref a), (.ref t), (.int (0 : Int32))] ∧ Z.Warmed39 U.vm ∧ U.heap = h0) (fun _ _ _ _ _ => True) (fun _ U o U' => ∃ v L, o = .returned v ∧ Q_strBB Z a t h0 n0 v U'.heap L ∧ FrameEnd U o U' L R_strBB.cells R_strBB.slots) := by
  refine MetFree.of_bodySF (plainFor_of_name pn_1) hisR ?_
  intro p e s m args below meth c s₁ Bd hml0 hP hK
  obtain ⟨rfl, hZ, hh⟩ := hP
  have hx := Bd.exec
  have hby := Bd.bytes
  have hml : c.maxLocals = 3 := hml0
  have hown : s.vm.findClass "java/lang/String" = some m.cls := findClass_of_methodNamed Bd.named
  have hnm := (name_of_methodNamed Bd.named Bd.method).1
  have hlk : meth.locks = false := BodyLoose.notSynchronized Bd
  have X0 : Stand p l e R_strBB s m #[(.ref a), (.ref t), (.int (0 : Int32))] below meth c s₁ [] 0 0 := Stand.of_body Bd
  have e0 : s₁.heap = h0 := by rw [← hh, Bd.state]; rfl
  have N0 := Fr.nil n0
  refine enter (P := PQ s R_strBB.cells R_strBB.slots (Q_strBB Z a t h0 n0)) (ef_strBB m a t) ?_
  refine goS (n := 1) (Ls' := #[.val (.ref a), .val (.ref t), .val (.int (0 : Int32))]) (st' := [(.ref a)]) (fun _ kz => XS.aloadN X0.here hx rfl (hb hby d5_0) rfl rfl kz) ?_
  obtain ⟨T1, X1, e1, st1⟩ := initO X0 hx hZ hown (hw _ (List.mem_of_getElem? (i := 23) rfl)) (hw _ (List.mem_of_getElem? (i := 24) rfl)) (hw _ (List.mem_of_getElem? (i := 25) rfl)) e0 (g := (mkF m 1 #[.val (.ref a), .val (.ref t), .val (.int (0 : Int32))] [(.ref a)])) rfl (by rw [hml]; rfl) rfl (hb hby d5_1) (by decide) (W := 0) (by show 2 * 0 + _ ≤ _; exact Nat.le_of_eq rfl) (by decide)
  refine goS (n := 4) (Ls' := #[.val (.ref a), .val (.ref t), .val (.int (0 : Int32))]) (st' := []) st1 ?_
  refine goS (n := 5) (Ls' := #[.val (.ref a), .val (.ref t), .val (.int (0 : Int32))]) (st' := [(.ref a)]) (fun _ kz => XS.aloadN X1.here hx rfl (hb hby d5_4) rfl rfl kz) ?_
  refine goS (n := 6) (Ls' := #[.val (.ref a), .val (.ref t), .val (.int (0 : Int32))]) (st' := [(.ref t), (.ref a)]) (fun _ kz => XS.aloadN X1.here hx rfl (hb hby d5_5) rfl rfl kz) ?_
  obtain ⟨T2, h2, X2, e2, W2, st2⟩ := putF X1 hx hZ hown (host := "") (Or.inl (hw _ (List.mem_of_getElem? (i := 26) rfl))) Via.refl e1 F_value_a E_a (Or.inr ⟨(hw _ (List.mem_of_getElem? (i := 27) rfl)), rfl, hnm⟩) (hw _ (List.mem_of_getElem? (i := 14) rfl)) (ty := (.array .byte)) (v := (.ref t)) (by decide) rfl rfl (g := (mkF m 6 #[.val (.ref a), .val (.ref t), .val (.int (0 : Int32))] [(.ref t), (.ref a)])) rfl rfl (hb hby d5_6)
  have Fn2 : Fld Z h2 a "java/lang/String" "value" "[B" (.ref t) := F_value_a.same W2
  have E_a : Exa Z h2 a "java/lang/String" := E_a.wr W2
  have F_coder_a : Fld Z h2 a "java/lang/String" "coder" "B" (.int (0 : Int32)) := F_coder_a.other W2 (Or.inr (slot_ne (Or.inr (hw _ (List.mem_of_getElem? (i := 29) rfl))) (Or.inr (hw _ (List.mem_of_getElem? (i := 27) rfl))) (by decide) (t := .byte) (t' := (.array .byte)) (by decide) (by decide)))
  have F_value_a := Fn2
  have N2 := Fr.snoc X2 N0 g_a
  have O2 := O0.wr W2 g_a
  have KK2 : Keep h0 h2 [a] := (Keep.refl h0 [a]).wr W2 (Or.inl (List.mem_of_getElem? (i := 0) rfl))
  refine goS (n := 9) (Ls' := #[.val (.ref a), .val (.ref t), .val (.int (0 : Int32))]) (st' := []) st2 ?_
  refine goS (n := 10) (Ls' := #[.val (.ref a), .val (.ref t), .val (.int (0 : Int32))]) (st' := [(.ref a)]) (fun _ kz => XS.aloadN X2.here hx rfl (hb hby d5_9) rfl rfl kz) ?_
  refine goS (n := 11) (Ls' := #[.val (.ref a), .val (.ref t), .val (.int (0 : Int32))]) (st' := [(.int (0 : Int32)), (.ref a)]) (fun _ kz => XS.iloadN X2.here hx rfl (hb hby d5_10) rfl kz) ?_
  obtain ⟨T3, h3, X3, e3, W3, st3⟩ := putFN X2 hx hZ hown (hw _ (List.mem_of_getElem? (i := 28) rfl)) Via.refl e2 F_coder_a E_a (Or.inr ⟨(hw _ (List.mem_of_getElem? (i := 29) rfl)), rfl, hnm⟩) (hw _ (List.mem_of_getElem? (i := 14) rfl)) (ty := .byte) (v' := (.int (0 : Int32))) (by decide) rfl rfl (g := (mkF m 11 #[.val (.ref a), .val (.ref t), .val (.int (0 : Int32))] [(.int (0 : Int32)), (.ref a)])) rfl rfl (hb hby d5_11)
  have Fn3 : Fld Z h3 a "java/lang/String" "coder" "B" (.int (0 : Int32)) := F_coder_a.same W3
  have E_a : Exa Z h3 a "java/lang/String" := E_a.wr W3
  have F_value_a : Fld Z h3 a "java/lang/String" "value" "[B" (.ref t) := F_value_a.other W3 (Or.inr (slot_ne (Or.inr (hw _ (List.mem_of_getElem? (i := 27) rfl))) (Or.inr (hw _ (List.mem_of_getElem? (i := 29) rfl))) (by decide) (t := (.array .byte)) (t' := .byte) (by decide) (by decide)))
  have F_coder_a := Fn3
  have N3 := Fr.snoc X3 N2 g_a
  have O3 := O2.wr W3 g_a
  have KK3 : Keep h0 h3 [a] := KK2.wr W3 (Or.inl (List.mem_of_getElem? (i := 0) rfl))
  refine goS (n := 14) (Ls' := #[.val (.ref a), .val (.ref t), .val (.int (0 : Int32))]) (st' := []) st3 ?_
  exact goRetV X3 hx hlk Bd.returns (hb hby d5_14) (by decide) (by decide) (by rw [e3]; exact ⟨rfl, N3, KK3, F_value_a, F_coder_a⟩)
theorem d2_0 : decode jdk_42_method_139_code 0 = .ok (.getstatic 38, 3) := by decide +kernel
theorem d2_3 : decode jdk_42_method_139_code 3 = .ok (.ifCond .eq 23, 3) := by decide +kernel
theorem d2_6 : decode jdk_42_method_139_code 6 = .ok (.iload_n 0, 1) := by decide +kernel
theorem d2_7 : decode jdk_42_method_139_code 7 = .ok (.invokestatic 1015, 3) := by decide +kernel
theorem pd_0 : parseMethodDescriptor "(C)Z" = some ⟨[.char], some .boolean⟩ := by decide +kernel
theorem d2_10 : decode jdk_42_method_139_code 10 = .ok (.ifCond .eq 16, 3) := by decide +kernel
theorem d2_13 : decode jdk_42_method_139_code 13 = .ok (.new 10, 3) := by decide +kernel
theorem d2_16 : decode jdk_42_method_139_code 16 = .ok (.dup, 1) := by decide +kernel
theorem d2_17 : decode jdk_42_method_139_code 17 = .ok (.iload_n 0, 1) := by decide +kernel
theorem d2_18 : decode jdk_42_method_139_code 18 = .ok (.invokestatic 1018, 3) := by decide +kernel
theorem pd_1 : parseMethodDescriptor "(C)[B" = some ⟨[.char], some (.array .byte)⟩ := by decide +kernel
theorem d2_21 : decode jdk_42_method_139_code 21 = .ok (.iconst 0, 1) := by decide +kernel
theorem d2_22 : decode jdk_42_method_139_code 22 = .ok (.invokespecial 209, 3) := by decide +kernel
theorem pd_2 : parseMethodDescriptor "([BB)V" = some ⟨[(.array .byte), .byte], none⟩ := by decide +kernel
theorem d2_25 : decode jdk_42_method_139_code 25 = .ok (.areturn, 1) := by decide +kernel
theorem ef_valC (m : MethodId) (x : Int32) : entryFrame m #[(.int x)] 1 = mkF m 0 #[.val (.int x)] [] := by first | (simp [entryFrame, mkF, argsToLocals, Value.category]; done) | rfl
abbrev R_valC : Room := { frames := 2, cells := 2, slots := 5, locals := 27 }
def Q_valC (Z : State) (x : Int32) (cs : Int32) (h0 : Heap) (n0 : Nat) (v : Option Value) (h : Heap) (L : List Loc) : Prop := ∃ (a : Addr) (t : Addr) (k : ClassId), v = some (.ref a) ∧ Fr n0 L ∧ Keep h0 h [] ∧ n0 ≤ a ∧ h0.size ≤ a ∧ Exa Z h a "java/lang/String" ∧ Fld Z h a "java/lang/String" "value" "[B" (.ref t) ∧ Fld Z h a "java/lang/String" "coder" "B" (.int (0 : Int32)) ∧ n0 ≤ t ∧ Arv Z h t k .byte (1 : Int32) [(.int (nar .byte x.toInt8.toInt32))] (.int (0 : Int32))
set_option maxRecDepth 65536 in
set_option maxHeartbeats 40000000 in
theorem rm_valC (l : Launch) (Z : State) (a0 : Array Value) (hw : ∀ d ∈ tables_1, d.before a0 Z = true) (ws : List Jvm.Cond) (x : Int32) (cs : Int32) (h0 : Heap) (n0 : Nat) (O0 : Old Z n0 h0) (S_CS : Sta Z Z.heap "java/lang/String" "COMPACT_STRINGS" "Z" (.int cs)) (hcs : ¬ cs = (0 : Int32)) (hx255 : ¬ (255 : Int32) < x) :
    MetFree l (⟨"java/lang/String", "valueOf", "(C)Ljava/lang/String;"⟩ : MethodName) (head1 (Jvm.Cond.code (⟨"java/lang/String", "valueOf", "(C)Ljava/lang/String;"⟩ : MethodName) jdk_42_method_139_code 1 (some (.object "java/lang/String")) :: ws) R_valC) (fun as_ U => as_ = #[(.int x)] ∧ Z.Warmed39 U.vm ∧ U.heap = h0) (fun _ _ _ _ _ => True) (fun _ U o U' => ∃ v L, o = .returned v ∧ Q_valC Z x cs h0 n0 v U'.heap L ∧ FrameEnd U o U' L R_valC.cells R_valC.slots) := by
  refine MetFree.of_bodySF (plainFor_of_name pn_1) hisR ?_
  intro p e s m args below meth c s₁ Bd hml0 hP hK
  obtain ⟨rfl, hZ, hh⟩ := hP
  have hx := Bd.exec
  have hby := Bd.bytes
  have hml : c.maxLocals = 1 := hml0
  have hown : s.vm.findClass "java/lang/String" = some m.cls := findClass_of_methodNamed Bd.named
  have hnm := (name_of_methodNamed Bd.named Bd.method).1
  have hlk : meth.locks = false := BodyLoose.notSynchronized Bd
  have X0 : Stand p l e R_valC s m #[(.int x)] below meth c s₁ [] 0 0 := Stand.of_body Bd
  have e0 : s₁.heap = h0 := by rw [← hh, Bd.state]; rfl
  have N0 := Fr.nil n0
  refine enter (P := PQ s R_valC.cells R_valC.slots (Q_valC Z x cs h0 n0)) (ef_valC m x) ?_
  obtain ⟨T1, X1, e1, st1⟩ := getS2 X0 hx hZ hown (host := "") (Or.inl (hw _ (List.mem_of_getElem? (i := 8) rfl))) Via.refl e0 (S_CS.ext O0.2) (g := (mkF m 0 #[.val (.int x)] [])) rfl (hb hby d2_0)
  refine goS (n := 3) (Ls' := #[.val (.int x)]) (st' := [(.int cs)]) st1 ?_
  refine goS (n := 6) (Ls' := #[.val (.int x)]) (st' := []) (fun _ kz => XS.ifNo X1.here hx rfl (hb hby d2_3) rfl ((if0 _ _).trans (feq hcs).1) kz) ?_
  refine goS (n := 7) (Ls' := #[.val (.int x)]) (st' := [(.int x)]) (fun _ kz => XS.iloadN X1.here hx rfl (hb hby d2_6) rfl kz) ?_
  obtain ⟨_, _, ⟨T2, L2, k2, n2⟩, -, X2, ⟨Lc2, hQ2, l2, y2, z2⟩, st2⟩ := Jvm.LawKit.callS X1 hx (y := (⟨"java/lang/StringLatin1", "canEncode", "(C)Z"⟩ : MethodName)) hown (mvT hZ (hw _ (List.mem_of_getElem? (i := 9) rfl))) (mvT hZ (hw _ (List.mem_of_getElem? (i := 10) rfl))) (mvT hZ (hw _ (List.mem_of_getElem? (i := 11) rfl))) (mvT hZ (hw _ (List.mem_of_getElem? (i := 12) rfl))) (by decide) (backOf (W := 0) (rm_canEnc l Z a0 hw [] x h0 n0 O0 hx255) hZ (hw _ (List.mem_of_getElem? (i := 12) rfl)) (hw _ (List.mem_of_getElem? (i := 11) rfl)) (by decide) (by decide)) (g := (mkF m 7 #[.val (.int x)] [(.int x)])) rfl (by rw [hml]; rfl) (argsL := [(.int x)]) (rest := []) (lenOf pd_0 rfl) rfl (by show 2 * 0 + _ ≤ _; exact Nat.le_of_eq rfl) (hb hby d2_7) (fun _ _ => ⟨rfl, e1, (Nat.le_of_ble_eq_true rfl), (Nat.le_of_ble_eq_true rfl)⟩)
  dsimp only [Pt.U, Pt.locs, Pt.cells, Pt.slots] at X2 l2 y2 z2 st2 hQ2
  subst l2 y2 z2
  obtain ⟨rfl, N2q, e2⟩ := hQ2
  have N2 := Fr.app N0 N2q
  refine goS (n := 10) (Ls' := #[.val (.int x)]) (st' := [(.int (1 : Int32))]) st2 ?_
  refine goS (n := 13) (Ls' := #[.val (.int x)]) (st' := []) (fun _ kz => XS.ifNo X2.here hx rfl (hb hby d2_10) rfl (by decide) kz) ?_
  obtain ⟨T3, h3, X3, e3, E3, A3, D3, -, st3⟩ := newO X2 hx hZ hown (hw _ (List.mem_of_getElem? (i := 13) rfl)) (hw _ (List.mem_of_getElem? (i := 14) rfl)) (hw _ (List.mem_of_getElem? (i := 6) rfl)) e2 (g := (mkF m 13 #[.val (.int x)] [])) rfl (hb hby d2_13) (by decide) (by decide)
  obtain ⟨b3, g3⟩ : ∃ z, z = h0.size := ⟨_, rfl⟩
  rw [← g3] at A3 D3 st3
  have g_b3 : n0 ≤ b3 := Nat.le_trans (O0.1 ▸ O0.2.1) (Nat.le_of_eq g3.symm)
  have z_b3 : h0.size ≤ b3 := Nat.le_trans (Keep.refl h0 []).1 (Nat.le_of_eq g3.symm)
  have F_value_b3 : Fld Z h3 b3 "java/lang/String" "value" "[B" .null := D3 (Or.inr (hw _ (List.mem_of_getElem? (i := 27) rfl))) (ty := (.array .byte)) (by decide)
  have F_coder_b3 : Fld Z h3 b3 "java/lang/String" "coder" "B" (.int (0 : Int32)) := D3 (Or.inr (hw _ (List.mem_of_getElem? (i := 29) rfl))) (ty := .byte) (by decide)
  have E_b3 : Exa Z h3 b3 "java/lang/String" := A3
  have O3 := O0.ext E3
  have KK3 : Keep h0 h3 [] := (Keep.refl h0 []).ext E3
  refine goS (n := 16) (Ls' := #[.val (.int x)]) (st' := [(.ref b3)]) st3 ?_
  refine goS (n := 17) (Ls' := #[.val (.int x)]) (st' := [(.ref b3), (.ref b3)]) (fun _ kz => XS.dup X3.here hx rfl (hb hby d2_16) rfl rfl kz) ?_
  refine goS (n := 18) (Ls' := #[.val (.int x)]) (st' := [(.int x), (.ref b3), (.ref b3)]) (fun _ kz => XS.iloadN X3.here hx rfl (hb hby d2_17) rfl kz) ?_
  obtain ⟨_, _, ⟨T4, L4, k4, n4⟩, -, X4, ⟨Lc4, hQ4, l4, y4, z4⟩, st4⟩ := Jvm.LawKit.callS X3 hx (y := (⟨"java/lang/StringLatin1", "toBytes", "(C)[B"⟩ : MethodName)) hown (mvT hZ (hw _ (List.mem_of_getElem? (i := 15) rfl))) (mvT hZ (hw _ (List.mem_of_getElem? (i := 16) rfl))) (mvT hZ (hw _ (List.mem_of_getElem? (i := 11) rfl))) (mvT hZ (hw _ (List.mem_of_getElem? (i := 17) rfl))) (by decide) (backOf (W := 2) (rm_toB l Z a0 hw [] x h3 n0 O3) hZ (hw _ (List.mem_of_getElem? (i := 17) rfl)) (hw _ (List.mem_of_getElem? (i := 11) rfl)) (by decide) (by decide)) (g := (mkF m 18 #[.val (.int x)] [(.int x), (.ref b3), (.ref b3)])) rfl (by rw [hml]; rfl) (argsL := [(.int x)]) (rest := [(.ref b3), (.ref b3)]) (lenOf pd_1 rfl) rfl (by show 2 * 0 + _ ≤ _; exact Nat.le_of_eq rfl) (hb hby d2_18) (fun _ _ => ⟨rfl, e3, (Nat.le_of_ble_eq_true rfl), (Nat.le_of_ble_eq_true rfl)⟩)
  dsimp only [Pt.U, Pt.locs, Pt.cells, Pt.slots] at X4 l4 y4 z4 st4 hQ4
  subst l4 y4 z4
  obtain ⟨t4, kt4, rfl, N4q, K4, g_t4, zt4, V_t4⟩ := hQ4
  have ne_b3_t4 : b3 ≠ t4 := Nat.ne_of_lt (Nat.lt_of_lt_of_le E_b3.lt zt4)
  have N4 := Fr.app N2 N4q
  have e4 : T4.heap = T4.heap := rfl
  have O4 := O3.keep K4 all0
  have KK4 : Keep h0 T4.heap [] := KK3.trans K4 all0
  have F_value_b3 : Fld Z T4.heap b3 "java/lang/String" "value" "[B" .null := F_value_b3.keep K4 nin0
  have F_coder_b3 : Fld Z T4.heap b3 "java/lang/String" "coder" "B" (.int (0 : Int32)) := F_coder_b3.keep K4 nin0
  have E_b3 : Exa Z T4.heap b3 "java/lang/String" := E_b3.keep K4
  refine goS (n := 21) (Ls' := #[.val (.int x)]) (st' := [(.ref t4), (.ref b3), (.ref b3)]) st4 ?_
  refine goS (n := 22) (Ls' := #[.val (.int x)]) (st' := [(.int (0 : Int32)), (.ref t4), (.ref b3), (.ref b3)]) (fun _ kz => XS.iconst X4.here hx rfl (hb hby d2_21) kz) ?_
  obtain ⟨_, _, ⟨T5, L5, k5, n5⟩, -, X5, ⟨Lc5, hQ5, l5, y5, z5⟩, st5⟩ := X4.specialBack hx (y := (⟨"java/lang/String", "<init>", "([BB)V"⟩ : MethodName)) rfl hown (mvT hZ (hw _ (List.mem_of_getElem? (i := 19) rfl))) (mvT hZ (hw _ (List.mem_of_getElem? (i := 20) rfl))) (mvT hZ (hw _ (List.mem_of_getElem? (i := 22) rfl))) (by decide) (backOf (W := 1) (rm_strBB l Z a0 hw [] b3 t4 T4.heap n0 O4 E_b3 F_value_b3 F_coder_b3 g_b3) hZ (hw _ (List.mem_of_getElem? (i := 22) rfl)) (hw _ (List.mem_of_getElem? (i := 6) rfl)) (by decide) (by decide)) (g := (mkF m 22 #[.val (.int x)] [(.int (0 : Int32)), (.ref t4), (.ref b3), (.ref b3)])) rfl (by rw [hml]; rfl) (Steps.refl _) (a := b3) (argsL := [(.ref t4), (.int (0 : Int32))]) (rest := [(.ref b3)]) (lenOf pd_2 rfl) rfl (by show 2 * 0 + _ ≤ _; exact Nat.le_of_eq rfl) (hb hby d2_22) (fun _ _ => ⟨rfl, e4, (Nat.le_of_ble_eq_true rfl), (Nat.le_of_ble_eq_true rfl)⟩)
  dsimp only [Pt.U, Pt.locs, Pt.cells, Pt.slots] at X5 l5 y5 z5 st5 hQ5
  subst l5 y5 z5
  obtain ⟨rfl, N5q, K5, F_value_b3, F_coder_b3⟩ := hQ5
  have N5 := Fr.app N4 N5q
  have e5 : T5.heap = T5.heap := rfl
  have O5 := O4.keep K5 (allS g_b3 all0)
  have KK5 : Keep h0 T5.heap [] := KK4.trans K5 (allS (Or.inr z_b3) all0)
  have E_b3 : Exa Z T5.heap b3 "java/lang/String" := E_b3.keep K5
  have V_t4 : Arv Z T5.heap t4 kt4 .byte (1 : Int32) [(.int (nar .byte x.toInt8.toInt32))] (.int (0 : Int32)) := V_t4.keep K5 (ninS (Ne.symm ne_b3_t4) nin0)
  refine goT (n := 25) (Ls' := #[.val (.int x)]) (st' := [(.ref b3)]) st5 ?_
  exact goRetA X5 hx hlk Bd.returns rfl rfl (hb hby d2_25) (by decide) (by decide) (by rw [e5]; exact ⟨b3, t4, _, rfl, N5, KK5, g_b3, z_b3, E_b3, F_value_b3, F_coder_b3, g_t4, V_t4⟩)
theorem d10_0 : decode jdk_42_method_149_code 0 = .ok (.aload_n 0, 1) := by decide +kernel
theorem d10_1 : decode jdk_42_method_149_code 1 = .ok (.invokespecial 1, 3) := by decide +kernel
theorem d10_4 : decode jdk_42_method_149_code 4 = .ok (.iload_n 3, 1) := by decide +kernel
theorem d10_5 : decode jdk_42_method_149_code 5 = .ok (.ifCond .ne 22, 3) := by decide +kernel
theorem d10_8 : decode jdk_42_method_149_code 8 = .ok (.aload_n 0, 1) := by decide +kernel
theorem d10_9 : decode jdk_42_method_149_code 9 = .ok (.ldc 7, 2) := by decide +kernel
theorem d10_11 : decode jdk_42_method_149_code 11 = .ok (.getfield 9, 3) := by decide +kernel
theorem d10_14 : decode jdk_42_method_149_code 14 = .ok (.putfield 9, 3) := by decide +kernel
theorem d10_17 : decode jdk_42_method_149_code 17 = .ok (.aload_n 0, 1) := by decide +kernel
theorem d10_18 : decode jdk_42_method_149_code 18 = .ok (.ldc 7, 2) := by decide +kernel
theorem d10_20 : decode jdk_42_method_149_code 20 = .ok (.getfield 15, 3) := by decide +kernel
theorem d10_23 : decode jdk_42_method_149_code 23 = .ok (.putfield 15, 3) := by decide +kernel
theorem d10_26 : decode jdk_42_method_149_code 26 = .ok (.return_, 1) := by decide +kernel
theorem ef_strE4 (m : MethodId) (a : Addr) (c0 : Addr) : entryFrame m #[(.ref a), (.ref c0), (.int (0 : Int32)), (.int (0 : Int32)), .null] 6 = mkF m 0 #[.val (.ref a), .val (.ref c0), .val (.int (0 : Int32)), .val (.int (0 : Int32)), .val .null, .unset] [] := by first | (simp [entryFrame, mkF, argsToLocals, Value.category]; done) | rfl
abbrev R_strE4 : Room := { frames := 1, cells := 4, slots := 8, locals := 12 }
def Q_strE4 (Z : State) (a : Addr) (c0 : Addr) (h0 : Heap) (n0 : Nat) (v : Option Value) (h : Heap) (L : List Loc) : Prop := v = none ∧ ∃ (t : Addr) (k : ClassId), Fr n0 L ∧ Keep h0 h [a] ∧ Fld Z h a "java/lang/String" "value" "[B" (.ref t) ∧ Fld Z h a "java/lang/String" "coder" "B" (.int (0 : Int32)) ∧ Arv Z h t k .byte (0 : Int32) [] (.int (0 : Int32))
set_option maxRecDepth 65536 in
set_option maxHeartbeats 40000000 in
theorem rm_strE4 (l : Launch) (Z : State) (a0 : Array Value) (hw : ∀ d ∈ tables_1, d.before a0 Z = true) (ws : List Jvm.Cond) (a : Addr) (c0 : Addr) (h0 : Heap) (n0 : Nat) (O0 : Old Z n0 h0) (E_a : Exa Z h0 a "java/lang/String") (F_value_a : Fld Z h0 a "java/lang/String" "value" "[B" .null) (F_coder_a : Fld Z h0 a "java/lang/String" "coder" "B" (.int (0 : Int32))) (g_a : n0 ≤ a) :
    MetFree l (⟨"java/lang/String", "<init>", "([CIILjava/lang/Void;)V"⟩ : MethodName) (head1 (Jvm.Cond.code (⟨"java/lang/String", "<init>", "([CIILjava/lang/Void;)V"⟩ : MethodName) jdk_42_method_149_code 6 none :: ws) R_strE4) (fun as_ U => as_ = #[(.ref a), (.ref c0), (.int (0 : Int32)), (.int (0 : Int32)), .null] ∧ Z.Warmed39 U.vm ∧ U.heap = h0 ∧ CHv Z own_EL U.vm h0) (fun _ _ _ _ _ => True) (fun _ U o U' => ∃ v L, o = .returned v ∧ Q_strE4 Z a c0 h0 n0 v U'.heap L ∧ CHr Z own_EL U.vm U.heap U'.vm U'.heap ∧ ReturnedEndW U o U' L R_strE4.cells R_strE4.slots) := by
  refine MetFree.of_bodySF (plainFor_of_name pn_1) hisR ?_
  intro p e s m args below meth c s₁ Bd hml0 hP hK
  obtain ⟨rfl, hZ, hh, hC0⟩ := hP
  have hx := Bd.exec
  have hby := Bd.bytes
  have hml : c.maxLocals = 6 := hml0
  have hown : s.vm.findClass "java/lang/String" = some m.cls := findClass_of_methodNamed Bd.named
  have hnm := (name_of_methodNamed Bd.named Bd.method).1
  have hlk : meth.locks = false := BodyLoose.notSynchronized Bd
  have X0 : Stand p l e R_strE4 (s.setVm s.vm) m #[(.ref a), (.ref c0), (.int (0 : Int32)), (.int (0 : Int32)), .null] below meth c s₁ [] 0 0 := Stand.of_body Bd
  have e0 : s₁.heap = h0 := by rw [← hh, Bd.state]; rfl
  have N0 := Fr.nil n0
  have hS : s.Since s.vm s.heap.size := (State.WarmedH.refl s).since _
  have hk : s.heap.size ≤ h0.size := by rw [← hh]; exact Nat.le_refl _
  have hZ : Z.Warmed39 (s.setVm s.vm).vm := hZ
  have hown : (s.setVm s.vm).vm.findClass "java/lang/String" = some m.cls := hown
  have wS := own_wS hw
  have hC : CHr Z own_EL s.vm h0 s.vm h0 := CHr.refl hC0
  have hEL := own_EW hw
  have SF_a : Safe Z own_EL s.vm h0 a := safeNull hZ.alike E_a F_value_a
  refine enter (P := PQH Z own_EL s R_strE4.cells R_strE4.slots (Q_strE4 Z a c0 h0 n0)) (ef_strE4 m a c0) ?_
  refine goS (n := 1) (Ls' := #[.val (.ref a), .val (.ref c0), .val (.int (0 : Int32)), .val (.int (0 : Int32)), .val .null, .unset]) (st' := [(.ref a)]) (fun _ kz => XS.aloadN X0.here hx rfl (hb hby d10_0) rfl rfl kz) ?_
  obtain ⟨T1, X1, e1, st1⟩ := initO X0 hx hZ hown (hw _ (List.mem_of_getElem? (i := 23) rfl)) (hw _ (List.mem_of_getElem? (i := 24) rfl)) (hw _ (List.mem_of_getElem? (i := 25) rfl)) e0 (g := (mkF m 1 #[.val (.ref a), .val (.ref c0), .val (.int (0 : Int32)), .val (.int (0 : Int32)), .val .null, .unset] [(.ref a)])) rfl (by rw [hml]; rfl) rfl (hb hby d10_1) (by decide) (W := 0) (by show 2 * 0 + _ ≤ _; exact Nat.le_of_eq rfl) (by decide)
  refine goS (n := 4) (Ls' := #[.val (.ref a), .val (.ref c0), .val (.int (0 : Int32)), .val (.int (0 : Int32)), .val .null, .unset]) (st' := []) st1 ?_
  refine goS (n := 5) (Ls' := #[.val (.ref a), .val (.ref c0), .val (.int (0 : Int32)), .val (.int (0 : Int32)), .val .null, .unset]) (st' := [(.int (0 : Int32))]) (fun _ kz => XS.iloadN X1.here hx rfl (hb hby d10_4) rfl kz) ?_
  refine goS (n := 8) (Ls' := #[.val (.ref a), .val (.ref c0), .val (.int (0 : Int32)), .val (.int (0 : Int32)), .val .null, .unset]) (st' := []) (fun _ kz => XS.ifNo X1.here hx rfl (hb hby d10_5) rfl (by decide) kz) ?_
  refine goS (n := 9) (Ls' := #[.val (.ref a), .val (.ref c0), .val (.int (0 : Int32)), .val (.int (0 : Int32)), .val .null, .unset]) (st' := [(.ref a)]) (fun _ kz => XS.aloadN X1.here hx rfl (hb hby d10_8) rfl rfl kz) ?_
  obtain ⟨sa2, T2, h2, k12, sb2, kb2, X2, e2, E2, hS, hk2, hZ, hown, E_sa2, F_coder_sa2, F_value_sa2, V_sb2, -, -, hCr2, -, hne2, st2⟩ := ldcCH X1 hx hZ hown (hw _ (List.mem_of_getElem? (i := 62) rfl)) wS e1 hS hk hEL (List.mem_of_getElem? (i := 0) rfl) hC.1 (vs := []) (z := 0) ⟨(fun _ q => nomatch q), rfl⟩ (by decide) rfl (g := (mkF m 9 #[.val (.ref a), .val (.ref c0), .val (.int (0 : Int32)), .val (.int (0 : Int32)), .val .null, .unset] [(.ref a)])) rfl (hb hby d10_9) (n := 0) (by decide +kernel) (by decide) (by decide) (by decide)
  have SF_a := CHr.safe hCr2 E_a.lt SF_a
  have hC := hC.trans hCr2
  have E_a : Exa Z h2 a "java/lang/String" := E_a.ext E2
  have F_value_a : Fld Z h2 a "java/lang/String" "value" "[B" .null := F_value_a.ext E2
  have F_coder_a : Fld Z h2 a "java/lang/String" "coder" "B" (.int (0 : Int32)) := F_coder_a.ext E2
  have hk := hk2
  have O2 := O0.ext E2
  have KK2 : Keep h0 h2 [a] := (Keep.refl h0 [a]).ext E2
  have ne_a_sa2 : a ≠ sa2 := (hne2 _ SF_a).1
  have ne_a_sb2 : a ≠ sb2 := (hne2 _ SF_a).2
  refine goS (n := 11) (Ls' := #[.val (.ref a), .val (.ref c0), .val (.int (0 : Int32)), .val (.int (0 : Int32)), .val .null, .unset]) (st' := [(.ref sa2), (.ref a)]) st2 ?_
  obtain ⟨T3, X3, e3, st3⟩ := getF X2 hx hZ hown (host := "") (Or.inl (hw _ (List.mem_of_getElem? (i := 26) rfl))) Via.refl e2 F_value_sa2 (g := (mkF m 11 #[.val (.ref a), .val (.ref c0), .val (.int (0 : Int32)), .val (.int (0 : Int32)), .val .null, .unset] [(.ref sa2), (.ref a)])) rfl rfl (hb hby d10_11)
  refine goS (n := 14) (Ls' := #[.val (.ref a), .val (.ref c0), .val (.int (0 : Int32)), .val (.int (0 : Int32)), .val .null, .unset]) (st' := [(.ref sb2), (.ref a)]) st3 ?_
  obtain ⟨T4, h4, X4, e4, W4, st4⟩ := putF X3 hx hZ hown (host := "") (Or.inl (hw _ (List.mem_of_getElem? (i := 26) rfl))) Via.refl e3 F_value_a E_a (Or.inr ⟨(hw _ (List.mem_of_getElem? (i := 27) rfl)), rfl, hnm⟩) (hw _ (List.mem_of_getElem? (i := 14) rfl)) (ty := (.array .byte)) (v := (.ref sb2)) (by decide) rfl rfl (g := (mkF m 14 #[.val (.ref a), .val (.ref c0), .val (.int (0 : Int32)), .val (.int (0 : Int32)), .val .null, .unset] [(.ref sb2), (.ref a)])) rfl rfl (hb hby d10_14)
  have Fn4 : Fld Z h4 a "java/lang/String" "value" "[B" (.ref sb2) := F_value_a.same W4
  have hk := Nat.le_trans hk (Keep.of_wr W4).1
  have sfw := SF_a
  have SF_a := Safe.wr W4 sfw hC.1 SF_a
  have hC := hC.trans (CHr.wr W4 sfw hC.1)
  have E_a : Exa Z h4 a "java/lang/String" := E_a.wr W4
  have F_coder_a : Fld Z h4 a "java/lang/String" "coder" "B" (.int (0 : Int32)) := F_coder_a.other W4 (Or.inr (slot_ne (Or.inr (hw _ (List.mem_of_getElem? (i := 29) rfl))) (Or.inr (hw _ (List.mem_of_getElem? (i := 27) rfl))) (by decide) (t := .byte) (t' := (.array .byte)) (by decide) (by decide)))
  have E_sa2 : Exa Z h4 sa2 "java/lang/String" := E_sa2.wr W4
  have F_coder_sa2 : Fld Z h4 sa2 "java/lang/String" "coder" "B" (.int (0 : Int32)) := F_coder_sa2.other W4 (Or.inl (Ne.symm ne_a_sa2))
  have F_value_sa2 : Fld Z h4 sa2 "java/lang/String" "value" "[B" (.ref sb2) := F_value_sa2.other W4 (Or.inl (Ne.symm ne_a_sa2))
  have V_sb2 : Arv Z h4 sb2 kb2 .byte (0 : Int32) [] (.int (0 : Int32)) := V_sb2.other W4 (Ne.symm ne_a_sb2)
  have F_value_a := Fn4
  have N4 := Fr.snoc X4 N0 g_a
  have O4 := O2.wr W4 g_a
  have KK4 : Keep h0 h4 [a] := KK2.wr W4 (Or.inl (List.mem_of_getElem? (i := 0) rfl))
  refine goS (n := 17) (Ls' := #[.val (.ref a), .val (.ref c0), .val (.int (0 : Int32)), .val (.int (0 : Int32)), .val .null, .unset]) (st' := []) st4 ?_
  refine goS (n := 18) (Ls' := #[.val (.ref a), .val (.ref c0), .val (.int (0 : Int32)), .val (.int (0 : Int32)), .val .null, .unset]) (st' := [(.ref a)]) (fun _ kz => XS.aloadN X4.here hx rfl (hb hby d10_17) rfl rfl kz) ?_
  obtain ⟨sa5, T5, h5, k15, sb5, kb5, X5, e5, E5, hS, hk5, hZ, hown, E_sa5, F_coder_sa5, F_value_sa5, V_sb5, -, -, hCr5, -, hne5, st5⟩ := ldcCH X4 hx hZ hown (hw _ (List.mem_of_getElem? (i := 62) rfl)) wS e4 hS hk hEL (List.mem_of_getElem? (i := 0) rfl) hC.1 (vs := []) (z := 0) ⟨(fun _ q => nomatch q), rfl⟩ (by decide) rfl (g := (mkF m 18 #[.val (.ref a), .val (.ref c0), .val (.int (0 : Int32)), .val (.int (0 : Int32)), .val .null, .unset] [(.ref a)])) rfl (hb hby d10_18) (n := 0) (by decide +kernel) (by decide) (by decide) (by decide)
  have SF_a := CHr.safe hCr5 E_a.lt SF_a
  have hC := hC.trans hCr5
  have E_a : Exa Z h5 a "java/lang/String" := E_a.ext E5
  have F_coder_a : Fld Z h5 a "java/lang/String" "coder" "B" (.int (0 : Int32)) := F_coder_a.ext E5
  have E_sa2 : Exa Z h5 sa2 "java/lang/String" := E_sa2.ext E5
  have F_coder_sa2 : Fld Z h5 sa2 "java/lang/String" "coder" "B" (.int (0 : Int32)) := F_coder_sa2.ext E5
  have F_value_sa2 : Fld Z h5 sa2 "java/lang/String" "value" "[B" (.ref sb2) := F_value_sa2.ext E5
  have V_sb2 : Arv Z h5 sb2 kb2 .byte (0 : Int32) [] (.int (0 : Int32)) := V_sb2.ext E5
  have F_value_a : Fld Z h5 a "java/lang/String" "value" "[B" (.ref sb2) := F_value_a.ext E5
  have hk := hk5
  have O5 := O4.ext E5
  have KK5 : Keep h0 h5 [a] := KK4.ext E5
  have ne_a_sa5 : a ≠ sa5 := (hne5 _ SF_a).1
  have ne_a_sb5 : a ≠ sb5 := (hne5 _ SF_a).2
  refine goS (n := 20) (Ls' := #[.val (.ref a), .val (.ref c0), .val (.int (0 : Int32)), .val (.int (0 : Int32)), .val .null, .unset]) (st' := [(.ref sa5), (.ref a)]) st5 ?_
  obtain ⟨T6, X6, e6, st6⟩ := getF X5 hx hZ hown (host := "") (Or.inl (hw _ (List.mem_of_getElem? (i := 28) rfl))) Via.refl e5 F_coder_sa5 (g := (mkF m 20 #[.val (.ref a), .val (.ref c0), .val (.int (0 : Int32)), .val (.int (0 : Int32)), .val .null, .unset] [(.ref sa5), (.ref a)])) rfl rfl (hb hby d10_20)
  refine goS (n := 23) (Ls' := #[.val (.ref a), .val (.ref c0), .val (.int (0 : Int32)), .val (.int (0 : Int32)), .val .null, .unset]) (st' := [(.int (0 : Int32)), (.ref a)]) st6 ?_
  obtain ⟨T7, h7, X7, e7, W7, st7⟩ := putFN X6 hx hZ hown (hw _ (List.mem_of_getElem? (i := 28) rfl)) Via.refl e6 F_coder_a E_a (Or.inr ⟨(hw _ (List.mem_of_getElem? (i := 29) rfl)), rfl, hnm⟩) (hw _ (List.mem_of_getElem? (i := 14) rfl)) (ty := .byte) (v' := (.int (0 : Int32))) (by decide) rfl rfl (g := (mkF m 23 #[.val (.ref a), .val (.ref c0), .val (.int (0 : Int32)), .val (.int (0 : Int32)), .val .null, .unset] [(.int (0 : Int32)), (.ref a)])) rfl rfl (hb hby d10_23)
  have Fn7 : Fld Z h7 a "java/lang/String" "coder" "B" (.int (0 : Int32)) := F_coder_a.same W7
  have hk := Nat.le_trans hk (Keep.of_wr W7).1
  have sfw := SF_a
  have SF_a := Safe.wr W7 sfw hC.1 SF_a
  have hC := hC.trans (CHr.wr W7 sfw hC.1)
  have E_a : Exa Z h7 a "java/lang/String" := E_a.wr W7
  have E_sa2 : Exa Z h7 sa2 "java/lang/String" := E_sa2.wr W7
  have F_coder_sa2 : Fld Z h7 sa2 "java/lang/String" "coder" "B" (.int (0 : Int32)) := F_coder_sa2.other W7 (Or.inl (Ne.symm ne_a_sa2))
  have F_value_sa2 : Fld Z h7 sa2 "java/lang/String" "value" "[B" (.ref sb2) := F_value_sa2.other W7 (Or.inl (Ne.symm ne_a_sa2))
  have V_sb2 : Arv Z h7 sb2 kb2 .byte (0 : Int32) [] (.int (0 : Int32)) := V_sb2.other W7 (Ne.symm ne_a_sb2)
  have F_value_a : Fld Z h7 a "java/lang/String" "value" "[B" (.ref sb2) := F_value_a.other W7 (Or.inr (slot_ne (Or.inr (hw _ (List.mem_of_getElem? (i := 27) rfl))) (Or.inr (hw _ (List.mem_of_getElem? (i := 29) rfl))) (by decide) (t := (.array .byte)) (t' := .byte) (by decide) (by decide)))
  have E_sa5 : Exa Z h7 sa5 "java/lang/String" := E_sa5.wr W7
  have F_coder_sa5 : Fld Z h7 sa5 "java/lang/String" "coder" "B" (.int (0 : Int32)) := F_coder_sa5.other W7 (Or.inl (Ne.symm ne_a_sa5))
  have F_value_sa5 : Fld Z h7 sa5 "java/lang/String" "value" "[B" (.ref sb5) := F_value_sa5.other W7 (Or.inl (Ne.symm ne_a_sa5))
  have V_sb5 : Arv Z h7 sb5 kb5 .byte (0 : Int32) [] (.int (0 : Int32)) := V_sb5.other W7 (Ne.symm ne_a_sb5)
  have F_coder_a := Fn7
  have N7 := Fr.snoc X7 N4 g_a
  have O7 := O5.wr W7 g_a
  have KK7 : Keep h0 h7 [a] := KK5.wr W7 (Or.inl (List.mem_of_getElem? (i := 0) rfl))
  refine goS (n := 26) (Ls' := #[.val (.ref a), .val (.ref c0), .val (.int (0 : Int32)), .val (.int (0 : Int32)), .val .null, .unset]) (st' := []) st7 ?_
  exact goRetVH X7 hx hlk hS (by rw [e7]; exact hk) hZ hEL (by rw [hh, e7]; exact hC) Bd.returns (hb hby d10_26) (by decide) (by decide) (by rw [e7]; exact ⟨rfl, sb2, _, N7, KK7, F_value_a, F_coder_a, V_sb2⟩)
theorem d9_0 : decode jdk_42_method_3_code 0 = .ok (.aload_n 0, 1) := by decide +kernel
theorem d9_1 : decode jdk_42_method_3_code 1 = .ok (.aload_n 1, 1) := by decide +kernel
theorem d9_2 : decode jdk_42_method_3_code 2 = .ok (.iconst 0, 1) := by decide +kernel
theorem d9_3 : decode jdk_42_method_3_code 3 = .ok (.aload_n 1, 1) := by decide +kernel
theorem d9_4 : decode jdk_42_method_3_code 4 = .ok (.arraylength, 1) := by decide +kernel
theorem d9_5 : decode jdk_42_method_3_code 5 = .ok (.aconst_null, 1) := by decide +kernel
theorem d9_6 : decode jdk_42_method_3_code 6 = .ok (.invokespecial 27, 3) := by decide +kernel
theorem pd_3 : parseMethodDescriptor "([CIILjava/lang/Void;)V" = some ⟨[(.array .char), .int, .int, (.object "java/lang/Void")], none⟩ := by decide +kernel
theorem d9_9 : decode jdk_42_method_3_code 9 = .ok (.return_, 1) := by decide +kernel
theorem ef_strE1 (m : MethodId) (a : Addr) (c0 : Addr) : entryFrame m #[(.ref a), (.ref c0)] 2 = mkF m 0 #[.val (.ref a), .val (.ref c0)] [] := by first | (simp [entryFrame, mkF, argsToLocals, Value.category]; done) | rfl
abbrev R_strE1 : Room := { frames := 2, cells := 4, slots := 8, locals := 29 }
def Q_strE1 (Z : State) (a : Addr) (c0 : Addr) (kc : ClassId) (vs : List Value) (h0 : Heap) (n0 : Nat) (v : Option Value) (h : Heap) (L : List Loc) : Prop := v = none ∧ ∃ (t : Addr) (k : ClassId), Fr n0 L ∧ Keep h0 h [a] ∧ Fld Z h a "java/lang/String" "value" "[B" (.ref t) ∧ Fld Z h a "java/lang/String" "coder" "B" (.int (0 : Int32)) ∧ Arv Z h t k .byte (0 : Int32) [] (.int (0 : Int32))
set_option maxRecDepth 65536 in
set_option maxHeartbeats 40000000 in
theorem rm_strE1 (l : Launch) (Z : State) (a0 : Array Value) (hw : ∀ d ∈ tables_1, d.before a0 Z = true) (ws : List Jvm.Cond) (a : Addr) (c0 : Addr) (kc : ClassId) (vs : List Value) (h0 : Heap) (n0 : Nat) (O0 : Old Z n0 h0) (E_a : Exa Z h0 a "java/lang/String") (F_value_a : Fld Z h0 a "java/lang/String" "value" "[B" .null) (F_coder_a : Fld Z h0 a "java/lang/String" "coder" "B" (.int (0 : Int32))) (g_a : n0 ≤ a) (V_c0 : Arv Z h0 c0 kc .char (0 : Int32) vs (.int (0 : Int32))) :
    MetFree l (⟨"java/lang/String", "<init>", "([C)V"⟩ : MethodName) (head1 (Jvm.Cond.code (⟨"java/lang/String", "<init>", "([C)V"⟩ : MethodName) jdk_42_method_3_code 2 none :: ws) R_strE1) (fun as_ U => as_ = #[(.ref a), (.ref c0)] ∧ Z.Warmed39 U.vm ∧ U.heap = h0 ∧ CHv Z own_EL U.vm h0) (fun _ _ _ _ _ => True) (fun _ U o U' => ∃ v L, o = .returned v ∧ Q_strE1 Z a c0 kc vs h0 n0 v U'.heap L ∧ CHr Z own_EL U.vm U.heap U'.vm U'.heap ∧ ReturnedEndW U o U' L R_strE1.cells R_strE1.slots) := by
  refine MetFree.of_bodySF (plainFor_of_name pn_1) hisR ?_
  intro p e s m args below meth c s₁ Bd hml0 hP hK
  obtain ⟨rfl, hZ, hh, hC0⟩ := hP
  have hx := Bd.exec
  have hby := Bd.bytes
  have hml : c.maxLocals = 2 := hml0
  have hown : s.vm.findClass "java/lang/String" = some m.cls := findClass_of_methodNamed Bd.named
  have hnm := (name_of_methodNamed Bd.named Bd.method).1
  have hlk : meth.locks = false := BodyLoose.notSynchronized Bd
  have X0 : Stand p l e R_strE1 (s.setVm s.vm) m #[(.ref a), (.ref c0)] below meth c s₁ [] 0 0 := Stand.of_body Bd
  have e0 : s₁.heap = h0 := by rw [← hh, Bd.state]; rfl
  have N0 := Fr.nil n0
  have hS : s.Since s.vm s.heap.size := (State.WarmedH.refl s).since _
  have hk : s.heap.size ≤ h0.size := by rw [← hh]; exact Nat.le_refl _
  have hZ : Z.Warmed39 (s.setVm s.vm).vm := hZ
  have hown : (s.setVm s.vm).vm.findClass "java/lang/String" = some m.cls := hown
  have wS := own_wS hw
  have hC : CHr Z own_EL s.vm h0 s.vm h0 := CHr.refl hC0
  have hEL := own_EW hw
  have SF_a : Safe Z own_EL s.vm h0 a := safeNull hZ.alike E_a F_value_a
  refine enter (P := PQH Z own_EL s R_strE1.cells R_strE1.slots (Q_strE1 Z a c0 kc vs h0 n0)) (ef_strE1 m a c0) ?_
  refine goS (n := 1) (Ls' := #[.val (.ref a), .val (.ref c0)]) (st' := [(.ref a)]) (fun _ kz => XS.aloadN X0.here hx rfl (hb hby d9_0) rfl rfl kz) ?_
  refine goS (n := 2) (Ls' := #[.val (.ref a), .val (.ref c0)]) (st' := [(.ref c0), (.ref a)]) (fun _ kz => XS.aloadN X0.here hx rfl (hb hby d9_1) rfl rfl kz) ?_
  refine goS (n := 3) (Ls' := #[.val (.ref a), .val (.ref c0)]) (st' := [(.int (0 : Int32)), (.ref c0), (.ref a)]) (fun _ kz => XS.iconst X0.here hx rfl (hb hby d9_2) kz) ?_
  refine goS (n := 4) (Ls' := #[.val (.ref a), .val (.ref c0)]) (st' := [(.ref c0), (.int (0 : Int32)), (.ref c0), (.ref a)]) (fun _ kz => XS.aloadN X0.here hx rfl (hb hby d9_3) rfl rfl kz) ?_
  have vv1 := V_c0
  obtain ⟨cl1, Ar1, -, S1, Nn1, -, -⟩ := vv1
  refine goS (n := 5) (Ls' := #[.val (.ref a), .val (.ref c0)]) (st' := [(.int (0 : Int32)), (.int (0 : Int32)), (.ref c0), (.ref a)]) (fun tz kz => X0.arraylength hx (by rw [e0]; exact Ar1.1) (State.isArrayOf_alike hZ.alike Ar1.2.1) (g := (mkF m 4 #[.val (.ref a), .val (.ref c0)] [(.ref c0), (.int (0 : Int32)), (.ref c0), (.ref a)])) rfl rfl (hb hby d9_4) tz (by rw [len_of S1 Nn1]; exact kz)) ?_
  refine goS (n := 6) (Ls' := #[.val (.ref a), .val (.ref c0)]) (st' := [.null, (.int (0 : Int32)), (.int (0 : Int32)), (.ref c0), (.ref a)]) (fun _ kz => XS.aconstNull X0.here hx rfl (hb hby d9_5) kz) ?_
  obtain ⟨_, _, ⟨T2, L2, k2, n2⟩, -, X2, hS2, hgr2, ⟨Lc2, hQ2, l2, y2, z2, hCr2⟩, st2⟩ := X0.specialBackS hx (y := (⟨"java/lang/String", "<init>", "([CIILjava/lang/Void;)V"⟩ : MethodName)) rfl hown (mvT hZ (hw _ (List.mem_of_getElem? (i := 59) rfl))) (mvT hZ (hw _ (List.mem_of_getElem? (i := 60) rfl))) (mvT hZ (hw _ (List.mem_of_getElem? (i := 61) rfl))) (by decide) (backOfSH (W := 0) (rm_strE4 l Z a0 hw [] a c0 h0 n0 O0 E_a F_value_a F_coder_a g_a) hZ (hw _ (List.mem_of_getElem? (i := 61) rfl)) (hw _ (List.mem_of_getElem? (i := 6) rfl)) (by decide) (by decide) hEL hC.1) (g := (mkF m 6 #[.val (.ref a), .val (.ref c0)] [.null, (.int (0 : Int32)), (.int (0 : Int32)), (.ref c0), (.ref a)])) rfl (by rw [hml]; rfl) (Steps.refl _) (a := a) (argsL := [(.ref c0), (.int (0 : Int32)), (.int (0 : Int32)), .null]) (rest := []) (lenOf pd_3 rfl) rfl (by show 2 * 0 + _ ≤ _; exact Nat.le_of_eq rfl) (hb hby d9_6) (fun _ _ => ⟨rfl, e0, (Nat.le_of_ble_eq_true rfl), (Nat.le_of_ble_eq_true rfl)⟩)
  dsimp only [Pt.U, Pt.locs, Pt.cells, Pt.slots] at X2 l2 y2 z2 st2 hQ2 hS2 hgr2 hCr2
  subst l2 y2 z2
  obtain ⟨X2, hS, hZ, hown⟩ := rebS hS (n1 := s₁.heap.size) (by rw [e0]; exact hk) X2 hS2 hgr2 hZ hown
  have hk : T2.heap.size ≤ T2.heap.size := Nat.le_refl _
  obtain ⟨rfl, t2, kt2, N2q, K2, F_value_a, F_coder_a, V_t2⟩ := hQ2
  have N2 := Fr.app N0 N2q
  have e2 : T2.heap = T2.heap := rfl
  have O2 := O0.keep K2 (allS g_a all0)
  have KK2 : Keep h0 T2.heap [a] := (Keep.refl h0 [a]).trans K2 (allS (Or.inl (List.mem_of_getElem? (i := 0) rfl)) all0)
  have SF_a := CHr.safe hCr2 E_a.lt SF_a
  have hC := hC.trans hCr2
  have E_a : Exa Z T2.heap a "java/lang/String" := E_a.keep K2
  refine goT (n := 9) (Ls' := #[.val (.ref a), .val (.ref c0)]) (st' := []) st2 ?_
  exact goRetVH X2 hx hlk hS (by rw [e2]; exact hk) hZ hEL (by rw [hh, e2]; exact hC) Bd.returns (hb hby d9_9) (by decide) (by decide) (by rw [e2]; exact ⟨rfl, t2, _, N2, KK2, F_value_a, F_coder_a, V_t2⟩)
theorem d1_0 : decode method_2_code 0 = .ok (.iload_n 0, 1) := by decide +kernel
theorem d1_1 : decode method_2_code 1 = .ok (.ifCond .ne 5, 3) := by decide +kernel
theorem d1_4 : decode method_2_code 4 = .ok (.aconst_null, 1) := by decide +kernel
theorem d1_5 : decode method_2_code 5 = .ok (.areturn, 1) := by decide +kernel
theorem d1_6 : decode method_2_code 6 = .ok (.iload_n 1, 1) := by decide +kernel
theorem d1_7 : decode method_2_code 7 = .ok (.ifCond .eq 13, 3) := by decide +kernel
theorem d1_20 : decode method_2_code 20 = .ok (.new 8, 3) := by decide +kernel
theorem d1_23 : decode method_2_code 23 = .ok (.dup, 1) := by decide +kernel
theorem d1_24 : decode method_2_code 24 = .ok (.iconst 0, 1) := by decide +kernel
theorem d1_25 : decode method_2_code 25 = .ok (.newarray .char, 2) := by decide +kernel
theorem d1_27 : decode method_2_code 27 = .ok (.invokespecial 13, 3) := by decide +kernel
theorem pd_4 : parseMethodDescriptor "([C)V" = some ⟨[(.array .char)], none⟩ := by decide +kernel
theorem d1_30 : decode method_2_code 30 = .ok (.areturn, 1) := by decide +kernel
theorem d1_10 : decode method_2_code 10 = .ok (.iload_n 2, 1) := by decide +kernel
theorem d1_11 : decode method_2_code 11 = .ok (.sipush 255, 3) := by decide +kernel
theorem d1_14 : decode method_2_code 14 = .ok (.iand, 1) := by decide +kernel
theorem d1_15 : decode method_2_code 15 = .ok (.i2c, 1) := by decide +kernel
theorem d1_16 : decode method_2_code 16 = .ok (.invokestatic 7, 3) := by decide +kernel
theorem pd_5 : parseMethodDescriptor "(C)Ljava/lang/String;" = some ⟨[.char], some (.object "java/lang/String")⟩ := by decide +kernel
theorem d1_19 : decode method_2_code 19 = .ok (.areturn, 1) := by decide +kernel
theorem pn_2 : plainName "com/example/sixphase/sixphase/application/NavigationCasePrecedencePinLaw" = true := by first | (simp [plainName, overriddenIn]; done) | decide +kernel
theorem ef_draw (m : MethodId) (x : Int32) (y : Int32) (z : Int32) : entryFrame m #[(.int x), (.int y), (.int z)] 3 = mkF m 0 #[.val (.int x), .val (.int y), .val (.int z)] [] := by first | (simp [entryFrame, mkF, argsToLocals, Value.category]; done) | rfl
abbrev R_draw : Room := { frames := 3, cells := 6, slots := 12, locals := 43 }
def Q_draw (Z : State) (x : Int32) (y : Int32) (z : Int32) (cs : Int32) (h0 : Heap) (n0 : Nat) (v : Option Value) (h : Heap) (L : List Loc) : Prop := ∃ w : Value, v = some w ∧ Fr n0 L ∧ Keep h0 h [] ∧ w.isRef = true ∧ (x = (0 : Int32) ↔ w = .null)
set_option maxRecDepth 65536 in
set_option maxHeartbeats 40000000 in
theorem rm_draw (l : Launch) (Z : State) (a0 : Array Value) (hw : ∀ d ∈ tables_1, d.before a0 Z = true) (ws : List Jvm.Cond) (x : Int32) (y : Int32) (z : Int32) (cs : Int32) (h0 : Heap) (n0 : Nat) (O0 : Old Z n0 h0) (S_CS : Sta Z Z.heap "java/lang/String" "COMPACT_STRINGS" "Z" (.int cs)) (hcs : ¬ cs = (0 : Int32)) :
    MetFree l (⟨"com/example/sixphase/sixphase/application/NavigationCasePrecedencePinLaw", "draw", "(ZZI)Ljava/lang/String;"⟩ : MethodName) (head1 (Jvm.Cond.code (⟨"com/example/sixphase/sixphase/application/NavigationCasePrecedencePinLaw", "draw", "(ZZI)Ljava/lang/String;"⟩ : MethodName) method_2_code 3 (some (.object "java/lang/String")) :: ws) R_draw) (fun as_ U => as_ = #[(.int x), (.int y), (.int z)] ∧ Z.Warmed39 U.vm ∧ U.heap = h0 ∧ CHv Z own_EL U.vm h0) (fun _ _ _ _ _ => True) (fun _ U o U' => ∃ v L, o = .returned v ∧ Q_draw Z x y z cs h0 n0 v U'.heap L ∧ CHr Z own_EL U.vm U.heap U'.vm U'.heap ∧ ReturnedEndW U o U' L R_draw.cells R_draw.slots) := by
  refine MetFree.of_bodySF (plainFor_of_name pn_2) hisR ?_
  intro p e s m args below meth c s₁ Bd hml0 hP hK
  obtain ⟨rfl, hZ, hh, hC0⟩ := hP
  have hx := Bd.exec
  have hby := Bd.bytes
  have hml : c.maxLocals = 3 := hml0
  have hown : s.vm.findClass "com/example/sixphase/sixphase/application/NavigationCasePrecedencePinLaw" = some m.cls := findClass_of_methodNamed Bd.named
  have hnm := (name_of_methodNamed Bd.named Bd.method).1
  have hlk : meth.locks = false := BodyLoose.notSynchronized Bd
  have X0 : Stand p l e R_draw (s.setVm s.vm) m #[(.int x), (.int y), (.int z)] below meth c s₁ [] 0 0 := Stand.of_body Bd
  have e0 : s₁.heap = h0 := by rw [← hh, Bd.state]; rfl
  have N0 := Fr.nil n0
  have hS : s.Since s.vm s.heap.size := (State.WarmedH.refl s).since _
  have hk : s.heap.size ≤ h0.size := by rw [← hh]; exact Nat.le_refl _
  have hZ : Z.Warmed39 (s.setVm s.vm).vm := hZ
  have hown : (s.setVm s.vm).vm.findClass "com/example/sixphase/sixphase/application/NavigationCasePrecedencePinLaw" = some m.cls := hown
  have wS := own_wS hw
  have hC : CHr Z own_EL s.vm h0 s.vm h0 := CHr.refl hC0
  have hEL := own_EW hw
  refine enter (P := PQH Z own_EL s R_draw.cells R_draw.slots (Q_draw Z x y z cs h0 n0)) (ef_draw m x y z) ?_
  refine goS (n := 1) (Ls' := #[.val (.int x), .val (.int y), .val (.int z)]) (st' := [(.int x)]) (fun _ kz => XS.iloadN X0.here hx rfl (hb hby d1_0) rfl kz) ?_
  by_cases hc1 : x = (0 : Int32)
  · refine goS (n := 4) (Ls' := #[.val (.int x), .val (.int y), .val (.int z)]) (st' := []) (fun _ kz => XS.ifNo X0.here hx rfl (hb hby d1_1) rfl ((if0 _ _).trans (teq hc1).2) kz) ?_
    refine goS (n := 5) (Ls' := #[.val (.int x), .val (.int y), .val (.int z)]) (st' := [.null]) (fun _ kz => XS.aconstNull X0.here hx rfl (hb hby d1_4) kz) ?_
    exact goRetH X0 hx hlk hS (by rw [e0]; exact hk) hZ hEL (by rw [hh, e0]; exact hC) Bd.returns rfl (Or.inr (Or.inr (Or.inr (Or.inr ⟨rfl, rfl, rfl⟩)))) (hb hby d1_5) (by decide) (by decide) (by rw [e0]; exact ⟨.null, rfl, N0, (Keep.refl h0 []), rfl, ⟨fun _ => rfl, fun _ => hc1⟩⟩)
  · refine goS (n := 6) (Ls' := #[.val (.int x), .val (.int y), .val (.int z)]) (st' := []) (fun _ kz => XS.ifYes X0.here hx rfl (pc0 := 1) (pc' := 6) rfl (hb hby d1_1) rfl ((if0 _ _).trans (feq hc1).2) (by decide) (by decide) kz) ?_
    refine goS (n := 7) (Ls' := #[.val (.int x), .val (.int y), .val (.int z)]) (st' := [(.int y)]) (fun _ kz => XS.iloadN X0.here hx rfl (hb hby d1_6) rfl kz) ?_
    by_cases hc2 : y = (0 : Int32)
    · refine goS (n := 20) (Ls' := #[.val (.int x), .val (.int y), .val (.int z)]) (st' := []) (fun _ kz => XS.ifYes X0.here hx rfl (pc0 := 7) (pc' := 20) rfl (hb hby d1_7) rfl ((if0 _ _).trans (teq hc2).1) (by decide) (by decide) kz) ?_
      obtain ⟨T3, h3, X3, e3, E3, A3, D3, -, st3⟩ := newO X0 hx hZ hown (hw _ (List.mem_of_getElem? (i := 54) rfl)) (hw _ (List.mem_of_getElem? (i := 14) rfl)) (hw _ (List.mem_of_getElem? (i := 6) rfl)) e0 (g := (mkF m 20 #[.val (.int x), .val (.int y), .val (.int z)] [])) rfl (hb hby d1_20) (by decide) (by decide)
      obtain ⟨b3, g3⟩ : ∃ z, z = h0.size := ⟨_, rfl⟩
      rw [← g3] at A3 D3 st3
      have g_b3 : n0 ≤ b3 := Nat.le_trans (O0.1 ▸ O0.2.1) (Nat.le_of_eq g3.symm)
      have z_b3 : h0.size ≤ b3 := Nat.le_trans (Keep.refl h0 []).1 (Nat.le_of_eq g3.symm)
      have SF_b3 : Safe Z own_EL s.vm h0 b3 := Safe.new (Nat.le_of_eq g3.symm)
      have hk := Nat.le_trans hk E3.1
      have SF_b3 := Safe.ext E3 hC.1 SF_b3
      have hC := hC.trans (CHr.ext E3 hC.1)
      have F_value_b3 : Fld Z h3 b3 "java/lang/String" "value" "[B" .null := D3 (Or.inr (hw _ (List.mem_of_getElem? (i := 27) rfl))) (ty := (.array .byte)) (by decide)
      have F_coder_b3 : Fld Z h3 b3 "java/lang/String" "coder" "B" (.int (0 : Int32)) := D3 (Or.inr (hw _ (List.mem_of_getElem? (i := 29) rfl))) (ty := .byte) (by decide)
      have E_b3 : Exa Z h3 b3 "java/lang/String" := A3
      have O3 := O0.ext E3
      have KK3 : Keep h0 h3 [] := (Keep.refl h0 []).ext E3
      refine goS (n := 23) (Ls' := #[.val (.int x), .val (.int y), .val (.int z)]) (st' := [(.ref b3)]) st3 ?_
      refine goS (n := 24) (Ls' := #[.val (.int x), .val (.int y), .val (.int z)]) (st' := [(.ref b3), (.ref b3)]) (fun _ kz => XS.dup X3.here hx rfl (hb hby d1_23) rfl rfl kz) ?_
      refine goS (n := 25) (Ls' := #[.val (.int x), .val (.int y), .val (.int z)]) (st' := [(.int (0 : Int32)), (.ref b3), (.ref b3)]) (fun _ kz => XS.iconst X3.here hx rfl (hb hby d1_24) kz) ?_
      obtain ⟨T4, h4, k4, X4, e4, E4, A4, Ex4, st4⟩ := newPE X3 hx hZ (hw _ (List.mem_of_getElem? (i := 55) rfl)) e3 (g := (mkF m 25 #[.val (.int x), .val (.int y), .val (.int z)] [(.int (0 : Int32)), (.ref b3), (.ref b3)])) rfl (hb hby d1_25) rfl (by decide) (cap := 0) (by decide) (by decide) (by decide) (by decide) (ad := "[C") (by decide +kernel)
      obtain ⟨b4, g4⟩ : ∃ z, z = h3.size := ⟨_, rfl⟩
      rw [← g4] at A4 st4 Ex4
      have g_b4 : n0 ≤ b4 := Nat.le_trans (O3.1 ▸ O3.2.1) (Nat.le_of_eq g4.symm)
      have z_b4 : h0.size ≤ b4 := Nat.le_trans KK3.1 (Nat.le_of_eq g4.symm)
      have SF_b4 : Safe Z own_EL s.vm h3 b4 := Safe.new (Nat.le_of_eq g4.symm)
      have ne_b3_b4 : b3 ≠ b4 := Nat.ne_of_lt (Nat.lt_of_lt_of_le E_b3.lt (Nat.le_of_eq g4.symm))
      have hk := Nat.le_trans hk E4.1
      have SF_b3 := Safe.ext E4 hC.1 SF_b3
      have SF_b4 := Safe.ext E4 hC.1 SF_b4
      have hC := hC.trans (CHr.ext E4 hC.1)
      have F_value_b3 : Fld Z h4 b3 "java/lang/String" "value" "[B" .null := F_value_b3.ext E4
      have F_coder_b3 : Fld Z h4 b3 "java/lang/String" "coder" "B" (.int (0 : Int32)) := F_coder_b3.ext E4
      have E_b3 : Exa Z h4 b3 "java/lang/String" := E_b3.ext E4
      have E_b4 : Exa Z h4 b4 "[C" := Ex4
      have V_b4 : Arv Z h4 b4 k4 .char (0 : Int32) [] (.int (0 : Int32)) := (Arv.new A4 (by decide)).pad (pad_rep [] (.int (0 : Int32)) 0)
      have O4 := O3.ext E4
      have KK4 : Keep h0 h4 [] := KK3.ext E4
      refine goS (n := 27) (Ls' := #[.val (.int x), .val (.int y), .val (.int z)]) (st' := [(.ref b4), (.ref b3), (.ref b3)]) st4 ?_
      obtain ⟨_, _, ⟨T5, L5, k5, n5⟩, -, X5, hS5, hgr5, ⟨Lc5, hQ5, l5, y5, z5, hCr5⟩, st5⟩ := X4.specialBackS hx (y := (⟨"java/lang/String", "<init>", "([C)V"⟩ : MethodName)) rfl hown (mvT hZ (hw _ (List.mem_of_getElem? (i := 56) rfl))) (mvT hZ (hw _ (List.mem_of_getElem? (i := 57) rfl))) (mvT hZ (hw _ (List.mem_of_getElem? (i := 58) rfl))) (by decide) (backOfSH (W := 1) (rm_strE1 l Z a0 hw [] b3 b4 k4 [] h4 n0 O4 E_b3 F_value_b3 F_coder_b3 g_b3 V_b4) hZ (hw _ (List.mem_of_getElem? (i := 58) rfl)) (hw _ (List.mem_of_getElem? (i := 6) rfl)) (by decide) (by decide) hEL hC.1) (g := (mkF m 27 #[.val (.int x), .val (.int y), .val (.int z)] [(.ref b4), (.ref b3), (.ref b3)])) rfl (by rw [hml]; rfl) (Steps.refl _) (a := b3) (argsL := [(.ref b4)]) (rest := [(.ref b3)]) (lenOf pd_4 rfl) rfl (by show 2 * 0 + _ ≤ _; exact Nat.le_of_eq rfl) (hb hby d1_27) (fun _ _ => ⟨rfl, e4, (Nat.le_of_ble_eq_true rfl), (Nat.le_of_ble_eq_true rfl)⟩)
      dsimp only [Pt.U, Pt.locs, Pt.cells, Pt.slots] at X5 l5 y5 z5 st5 hQ5 hS5 hgr5 hCr5
      subst l5 y5 z5
      obtain ⟨X5, hS, hZ, hown⟩ := rebS hS (n1 := T4.heap.size) (by rw [e4]; exact hk) X5 hS5 hgr5 hZ hown
      have hk : T5.heap.size ≤ T5.heap.size := Nat.le_refl _
      obtain ⟨rfl, t5, kt5, N5q, K5, F_value_b3, F_coder_b3, V_t5⟩ := hQ5
      have N5 := Fr.app N0 N5q
      have e5 : T5.heap = T5.heap := rfl
      have O5 := O4.keep K5 (allS g_b3 all0)
      have KK5 : Keep h0 T5.heap [] := KK4.trans K5 (allS (Or.inr z_b3) all0)
      have SF_b3 := CHr.safe hCr5 E_b3.lt SF_b3
      have SF_b4 := CHr.safe hCr5 E_b4.lt SF_b4
      have hC := hC.trans hCr5
      have E_b3 : Exa Z T5.heap b3 "java/lang/String" := E_b3.keep K5
      have E_b4 : Exa Z T5.heap b4 "[C" := E_b4.keep K5
      have V_b4 : Arv Z T5.heap b4 k4 .char (0 : Int32) [] (.int (0 : Int32)) := V_b4.keep K5 (ninS (Ne.symm ne_b3_b4) nin0)
      refine goT (n := 30) (Ls' := #[.val (.int x), .val (.int y), .val (.int z)]) (st' := [(.ref b3)]) st5 ?_
      exact goRetH X5 hx hlk hS (by rw [e5]; exact hk) hZ hEL (by rw [hh, e5]; exact hC) Bd.returns rfl (Or.inr (Or.inr (Or.inr (Or.inr ⟨rfl, rfl, rfl⟩)))) (hb hby d1_30) (by decide) (by decide) (by rw [e5]; exact ⟨.ref b3, rfl, N5, KK5, rfl, ⟨fun q => absurd q hc1, fun q => nomatch q⟩⟩)
    · refine goS (n := 10) (Ls' := #[.val (.int x), .val (.int y), .val (.int z)]) (st' := []) (fun _ kz => XS.ifNo X0.here hx rfl (hb hby d1_7) rfl ((if0 _ _).trans (feq hc2).1) kz) ?_
      refine goS (n := 11) (Ls' := #[.val (.int x), .val (.int y), .val (.int z)]) (st' := [(.int z)]) (fun _ kz => XS.iloadN X0.here hx rfl (hb hby d1_10) rfl kz) ?_
      refine goS (n := 14) (Ls' := #[.val (.int x), .val (.int y), .val (.int z)]) (st' := [(.int (255 : Int32)), (.int z)]) (fun _ kz => XS.sipush X0.here hx rfl (hb hby d1_11) kz) ?_
      refine goS (n := 15) (Ls' := #[.val (.int x), .val (.int y), .val (.int z)]) (st' := [(.int (z &&& (255 : Int32)))]) (fun _ kz => XS.iand X0.here hx rfl (hb hby d1_14) rfl kz) ?_
      refine goS (n := 16) (Ls' := #[.val (.int x), .val (.int y), .val (.int z)]) (st' := [(.int ((z &&& (255 : Int32)).toUInt32.toUInt16.toUInt32.toInt32))]) (fun _ kz => XS.i2c X0.here hx rfl (hb hby d1_15) rfl kz) ?_
      obtain ⟨_, _, ⟨T6, L6, k6, n6⟩, -, X6, ⟨Lc6, hQ6, l6, y6, z6⟩, st6⟩ := Jvm.LawKit.callS X0 hx (y := (⟨"java/lang/String", "valueOf", "(C)Ljava/lang/String;"⟩ : MethodName)) hown (mvT hZ (hw _ (List.mem_of_getElem? (i := 4) rfl))) (mvT hZ (hw _ (List.mem_of_getElem? (i := 5) rfl))) (mvT hZ (hw _ (List.mem_of_getElem? (i := 6) rfl))) (mvT hZ (hw _ (List.mem_of_getElem? (i := 7) rfl))) (by decide) (backOf (W := 0) (rm_valC l Z a0 hw [] ((z &&& (255 : Int32)).toUInt32.toUInt16.toUInt32.toInt32) cs h0 n0 O0 S_CS hcs (own_c255 _)) hZ (hw _ (List.mem_of_getElem? (i := 7) rfl)) (hw _ (List.mem_of_getElem? (i := 6) rfl)) (by decide) (by decide)) (g := (mkF m 16 #[.val (.int x), .val (.int y), .val (.int z)] [(.int ((z &&& (255 : Int32)).toUInt32.toUInt16.toUInt32.toInt32))])) rfl (by rw [hml]; rfl) (argsL := [(.int ((z &&& (255 : Int32)).toUInt32.toUInt16.toUInt32.toInt32))]) (rest := []) (lenOf pd_5 rfl) rfl (by show 2 * 0 + _ ≤ _; exact Nat.le_of_eq rfl) (hb hby d1_16) (fun _ _ => ⟨rfl, e0, (Nat.le_of_ble_eq_true rfl), (Nat.le_of_ble_eq_true rfl)⟩)
      dsimp only [Pt.U, Pt.locs, Pt.cells, Pt.slots] at X6 l6 y6 z6 st6 hQ6
      subst l6 y6 z6
      obtain ⟨a6, t6, kt6, rfl, N6q, K6, g_a6, za6, E_a6, F_value_a6, F_coder_a6, g_t6, V_t6⟩ := hQ6
      have N6 := Fr.app N0 N6q
      have e6 : T6.heap = T6.heap := rfl
      have O6 := O0.keep K6 all0
      have KK6 : Keep h0 T6.heap [] := (Keep.refl h0 []).trans K6 all0
      have hk := Nat.le_trans hk K6.1
      have sfw : ∀ x ∈ [], Safe Z own_EL s.vm h0 x := sf0
      have hC := hC.trans (CHr.keep K6 sfw hC.1)
      refine goS (n := 19) (Ls' := #[.val (.int x), .val (.int y), .val (.int z)]) (st' := [(.ref a6)]) st6 ?_
      exact goRetH X6 hx hlk hS (by rw [e6]; exact hk) hZ hEL (by rw [hh, e6]; exact hC) Bd.returns rfl (Or.inr (Or.inr (Or.inr (Or.inr ⟨rfl, rfl, rfl⟩)))) (hb hby d1_19) (by decide) (by decide) (by rw [e6]; exact ⟨.ref a6, rfl, N6, KK6, rfl, ⟨fun q => absurd q hc1, fun q => nomatch q⟩⟩)
theorem d7_0 : decode prog_12_method_1_code 0 = .ok (.aload_n 0, 1) := by decide +kernel
theorem d7_1 : decode prog_12_method_1_code 1 = .ok (.invokespecial 1, 3) := by decide +kernel
theorem d7_4 : decode prog_12_method_1_code 4 = .ok (.aload_n 0, 1) := by decide +kernel
theorem d7_5 : decode prog_12_method_1_code 5 = .ok (.aload_n 1, 1) := by decide +kernel
theorem d7_6 : decode prog_12_method_1_code 6 = .ok (.putfield 7, 3) := by decide +kernel
theorem d7_9 : decode prog_12_method_1_code 9 = .ok (.aload_n 0, 1) := by decide +kernel
theorem d7_10 : decode prog_12_method_1_code 10 = .ok (.aload_n 2, 1) := by decide +kernel
theorem d7_11 : decode prog_12_method_1_code 11 = .ok (.putfield 13, 3) := by decide +kernel
theorem d7_14 : decode prog_12_method_1_code 14 = .ok (.aload_n 0, 1) := by decide +kernel
theorem d7_15 : decode prog_12_method_1_code 15 = .ok (.aload_n 3, 1) := by decide +kernel
theorem d7_16 : decode prog_12_method_1_code 16 = .ok (.putfield 16, 3) := by decide +kernel
theorem d7_19 : decode prog_12_method_1_code 19 = .ok (.aload_n 0, 1) := by decide +kernel
theorem d7_20 : decode prog_12_method_1_code 20 = .ok (.aload 4, 2) := by decide +kernel
theorem d7_22 : decode prog_12_method_1_code 22 = .ok (.putfield 19, 3) := by decide +kernel
theorem d7_25 : decode prog_12_method_1_code 25 = .ok (.aload_n 0, 1) := by decide +kernel
theorem d7_26 : decode prog_12_method_1_code 26 = .ok (.iload 5, 2) := by decide +kernel
theorem d7_28 : decode prog_12_method_1_code 28 = .ok (.putfield 22, 3) := by decide +kernel
theorem d7_31 : decode prog_12_method_1_code 31 = .ok (.aload_n 0, 1) := by decide +kernel
theorem d7_32 : decode prog_12_method_1_code 32 = .ok (.aload 6, 2) := by decide +kernel
theorem d7_34 : decode prog_12_method_1_code 34 = .ok (.putfield 26, 3) := by decide +kernel
theorem d7_37 : decode prog_12_method_1_code 37 = .ok (.return_, 1) := by decide +kernel
theorem pn_3 : plainName "com/example/sixphase/sixphase/application/NavigationCase" = true := by first | (simp [plainName, overriddenIn]; done) | decide +kernel
theorem ef_init (m : MethodId) (a : Addr) (w1 : Value) (w2 : Value) (w3 : Value) (w4 : Addr) (r : Int32) (hw1 : w1.isRef = true) (hw2 : w2.isRef = true) (hw3 : w3.isRef = true) : entryFrame m #[(.ref a), w1, w2, w3, (.ref w4), (.int r), .null] 7 = mkF m 0 #[.val (.ref a), .val w1, .val w2, .val w3, .val (.ref w4), .val (.int r), .val .null] [] := by rcases ref_cases hw1 with rfl | ⟨_, rfl⟩ <;> rcases ref_cases hw2 with rfl | ⟨_, rfl⟩ <;> rcases ref_cases hw3 with rfl | ⟨_, rfl⟩ <;> first | (simp [entryFrame, mkF, argsToLocals, Value.category]; done) | rfl
abbrev R_init : Room := { frames := 1, cells := 0, slots := 0, locals := 12 }
def Q_init (Z : State) (a : Addr) (w1 : Value) (w2 : Value) (w3 : Value) (w4 : Addr) (r : Int32) (h0 : Heap) (n0 : Nat) (v : Option Value) (h : Heap) (L : List Loc) : Prop := v = none ∧ Fr n0 L ∧ Keep h0 h [a] ∧ Fld Z h a "com/example/sixphase/sixphase/application/NavigationCase" "fromAction" "Ljava/lang/String;" w1 ∧ Fld Z h a "com/example/sixphase/sixphase/application/NavigationCase" "fromOutcome" "Ljava/lang/String;" w2
set_option maxRecDepth 65536 in
set_option maxHeartbeats 40000000 in
theorem rm_init (l : Launch) (Z : State) (a0 : Array Value) (hw : ∀ d ∈ tables_1, d.before a0 Z = true) (ws : List Jvm.Cond) (a : Addr) (w1 : Value) (w2 : Value) (w3 : Value) (w4 : Addr) (r : Int32) (h0 : Heap) (n0 : Nat) (O0 : Old Z n0 h0) (hw1 : w1.isRef = true) (hw2 : w2.isRef = true) (hw3 : w3.isRef = true) (hr01 : r = 0 ∨ r = 1) (E_a : Exa Z h0 a "com/example/sixphase/sixphase/application/NavigationCase") (F_fromAction_a : Fld Z h0 a "com/example/sixphase/sixphase/application/NavigationCase" "fromAction" "Ljava/lang/String;" .null) (F_fromOutcome_a : Fld Z h0 a "com/example/sixphase/sixphase/application/NavigationCase" "fromOutcome" "Ljava/lang/String;" .null) (F_condition_a : Fld Z h0 a "com/example/sixphase/sixphase/application/NavigationCase" "condition" "Ljava/lang/String;" .null) (F_toViewId_a : Fld Z h0 a "com/example/sixphase/sixphase/application/NavigationCase" "toViewId" "Ljava/lang/String;" .null) (F_redirect_a : Fld Z h0 a "com/example/sixphase/sixphase/application/NavigationCase" "redirect" "Z" (.int (0 : Int32))) (F_redirectParameters_a : Fld Z h0 a "com/example/sixphase/sixphase/application/NavigationCase" "redirectParameters" "Ljava/util/Map;" .null) (g_a : n0 ≤ a) :
    MetFree l (⟨"com/example/sixphase/sixphase/application/NavigationCase", "<init>", "(Ljava/lang/String;Ljava/lang/String;Ljava/lang/String;Ljava/lang/String;ZLjava/util/Map;)V"⟩ : MethodName) (head1 (Jvm.Cond.code (⟨"com/example/sixphase/sixphase/application/NavigationCase", "<init>", "(Ljava/lang/String;Ljava/lang/String;Ljava/lang/String;Ljava/lang/String;ZLjava/util/Map;)V"⟩ : MethodName) prog_12_method_1_code 7 none :: ws) R_init) (fun as_ U => as_ = #[(.ref a), w1, w2, w3, (.ref w4), (.int r), .null] ∧ Z.Warmed39 U.vm ∧ U.heap = h0) (fun _ _ _ _ _ => True) (fun _ U o U' => ∃ v L, o = .returned v ∧ Q_init Z a w1 w2 w3 w4 r h0 n0 v U'.heap L ∧ FrameEnd U o U' L R_init.cells R_init.slots) := by
  refine MetFree.of_bodySF (plainFor_of_name pn_3) hisR ?_
  intro p e s m args below meth c s₁ Bd hml0 hP hK
  obtain ⟨rfl, hZ, hh⟩ := hP
  have hx := Bd.exec
  have hby := Bd.bytes
  have hml : c.maxLocals = 7 := hml0
  have hown : s.vm.findClass "com/example/sixphase/sixphase/application/NavigationCase" = some m.cls := findClass_of_methodNamed Bd.named
  have hnm := (name_of_methodNamed Bd.named Bd.method).1
  have hlk : meth.locks = false := BodyLoose.notSynchronized Bd
  have X0 : Stand p l e R_init s m #[(.ref a), w1, w2, w3, (.ref w4), (.int r), .null] below meth c s₁ [] 0 0 := Stand.of_body Bd
  have e0 : s₁.heap = h0 := by rw [← hh, Bd.state]; rfl
  have N0 := Fr.nil n0
  refine enter (P := PQ s R_init.cells R_init.slots (Q_init Z a w1 w2 w3 w4 r h0 n0)) (ef_init m a w1 w2 w3 w4 r hw1 hw2 hw3) ?_
  refine goS (n := 1) (Ls' := #[.val (.ref a), .val w1, .val w2, .val w3, .val (.ref w4), .val (.int r), .val .null]) (st' := [(.ref a)]) (fun _ kz => XS.aloadN X0.here hx rfl (hb hby d7_0) rfl rfl kz) ?_
  obtain ⟨T1, X1, e1, st1⟩ := initO X0 hx hZ hown (hw _ (List.mem_of_getElem? (i := 36) rfl)) (hw _ (List.mem_of_getElem? (i := 24) rfl)) (hw _ (List.mem_of_getElem? (i := 25) rfl)) e0 (g := (mkF m 1 #[.val (.ref a), .val w1, .val w2, .val w3, .val (.ref w4), .val (.int r), .val .null] [(.ref a)])) rfl (by rw [hml]; rfl) rfl (hb hby d7_1) (by decide) (W := 0) (by show 2 * 0 + _ ≤ _; exact Nat.le_of_eq rfl) (by decide)
  refine goS (n := 4) (Ls' := #[.val (.ref a), .val w1, .val w2, .val w3, .val (.ref w4), .val (.int r), .val .null]) (st' := []) st1 ?_
  refine goS (n := 5) (Ls' := #[.val (.ref a), .val w1, .val w2, .val w3, .val (.ref w4), .val (.int r), .val .null]) (st' := [(.ref a)]) (fun _ kz => XS.aloadN X1.here hx rfl (hb hby d7_4) rfl rfl kz) ?_
  refine goS (n := 6) (Ls' := #[.val (.ref a), .val w1, .val w2, .val w3, .val (.ref w4), .val (.int r), .val .null]) (st' := [w1, (.ref a)]) (fun _ kz => XS.aloadN X1.here hx rfl (hb hby d7_5) rfl hw1 kz) ?_
  obtain ⟨T2, h2, X2, e2, W2, st2⟩ := putF X1 hx hZ hown (host := "") (Or.inl (hw _ (List.mem_of_getElem? (i := 37) rfl))) Via.refl e1 F_fromAction_a E_a (Or.inr ⟨(hw _ (List.mem_of_getElem? (i := 38) rfl)), rfl, hnm⟩) (hw _ (List.mem_of_getElem? (i := 31) rfl)) (ty := (.object "java/lang/String")) (v := w1) (by decide) rfl (by rcases ref_cases hw1 with q | ⟨_, q⟩ <;> rw [q] <;> rfl) (g := (mkF m 6 #[.val (.ref a), .val w1, .val w2, .val w3, .val (.ref w4), .val (.int r), .val .null] [w1, (.ref a)])) rfl rfl (hb hby d7_6)
  have Fn2 : Fld Z h2 a "com/example/sixphase/sixphase/application/NavigationCase" "fromAction" "Ljava/lang/String;" w1 := F_fromAction_a.same W2
  have E_a : Exa Z h2 a "com/example/sixphase/sixphase/application/NavigationCase" := E_a.wr W2
  have F_fromOutcome_a : Fld Z h2 a "com/example/sixphase/sixphase/application/NavigationCase" "fromOutcome" "Ljava/lang/String;" .null := F_fromOutcome_a.other W2 (Or.inr (slot_ne (Or.inr (hw _ (List.mem_of_getElem? (i := 40) rfl))) (Or.inr (hw _ (List.mem_of_getElem? (i := 38) rfl))) (by decide) (t := (.object "java/lang/String")) (t' := (.object "java/lang/String")) (by decide) (by decide)))
  have F_condition_a : Fld Z h2 a "com/example/sixphase/sixphase/application/NavigationCase" "condition" "Ljava/lang/String;" .null := F_condition_a.other W2 (Or.inr (slot_ne (Or.inr (hw _ (List.mem_of_getElem? (i := 42) rfl))) (Or.inr (hw _ (List.mem_of_getElem? (i := 38) rfl))) (by decide) (t := (.object "java/lang/String")) (t' := (.object "java/lang/String")) (by decide) (by decide)))
  have F_toViewId_a : Fld Z h2 a "com/example/sixphase/sixphase/application/NavigationCase" "toViewId" "Ljava/lang/String;" .null := F_toViewId_a.other W2 (Or.inr (slot_ne (Or.inr (hw _ (List.mem_of_getElem? (i := 44) rfl))) (Or.inr (hw _ (List.mem_of_getElem? (i := 38) rfl))) (by decide) (t := (.object "java/lang/String")) (t' := (.object "java/lang/String")) (by decide) (by decide)))
  have F_redirect_a : Fld Z h2 a "com/example/sixphase/sixphase/application/NavigationCase" "redirect" "Z" (.int (0 : Int32)) := F_redirect_a.other W2 (Or.inr (slot_ne (Or.inr (hw _ (List.mem_of_getElem? (i := 46) rfl))) (Or.inr (hw _ (List.mem_of_getElem? (i := 38) rfl))) (by decide) (t := .boolean) (t' := (.object "java/lang/String")) (by decide) (by decide)))
  have F_redirectParameters_a : Fld Z h2 a "com/example/sixphase/sixphase/application/NavigationCase" "redirectParameters" "Ljava/util/Map;" .null := F_redirectParameters_a.other W2 (Or.inr (slot_ne (Or.inr (hw _ (List.mem_of_getElem? (i := 48) rfl))) (Or.inr (hw _ (List.mem_of_getElem? (i := 38) rfl))) (by decide) (t := (.object "java/util/Map")) (t' := (.object "java/lang/String")) (by decide) (by decide)))
  have F_fromAction_a := Fn2
  have N2 := Fr.snoc X2 N0 g_a
  have O2 := O0.wr W2 g_a
  have KK2 : Keep h0 h2 [a] := (Keep.refl h0 [a]).wr W2 (Or.inl (List.mem_of_getElem? (i := 0) rfl))
  refine goS (n := 9) (Ls' := #[.val (.ref a), .val w1, .val w2, .val w3, .val (.ref w4), .val (.int r), .val .null]) (st' := []) st2 ?_
  refine goS (n := 10) (Ls' := #[.val (.ref a), .val w1, .val w2, .val w3, .val (.ref w4), .val (.int r), .val .null]) (st' := [(.ref a)]) (fun _ kz => XS.aloadN X2.here hx rfl (hb hby d7_9) rfl rfl kz) ?_
  refine goS (n := 11) (Ls' := #[.val (.ref a), .val w1, .val w2, .val w3, .val (.ref w4), .val (.int r), .val .null]) (st' := [w2, (.ref a)]) (fun _ kz => XS.aloadN X2.here hx rfl (hb hby d7_10) rfl hw2 kz) ?_
  obtain ⟨T3, h3, X3, e3, W3, st3⟩ := putF X2 hx hZ hown (host := "") (Or.inl (hw _ (List.mem_of_getElem? (i := 39) rfl))) Via.refl e2 F_fromOutcome_a E_a (Or.inr ⟨(hw _ (List.mem_of_getElem? (i := 40) rfl)), rfl, hnm⟩) (hw _ (List.mem_of_getElem? (i := 31) rfl)) (ty := (.object "java/lang/String")) (v := w2) (by decide) rfl (by rcases ref_cases hw2 with q | ⟨_, q⟩ <;> rw [q] <;> rfl) (g := (mkF m 11 #[.val (.ref a), .val w1, .val w2, .val w3, .val (.ref w4), .val (.int r), .val .null] [w2, (.ref a)])) rfl rfl (hb hby d7_11)
  have Fn3 : Fld Z h3 a "com/example/sixphase/sixphase/application/NavigationCase" "fromOutcome" "Ljava/lang/String;" w2 := F_fromOutcome_a.same W3
  have E_a : Exa Z h3 a "com/example/sixphase/sixphase/application/NavigationCase" := E_a.wr W3
  have F_condition_a : Fld Z h3 a "com/example/sixphase/sixphase/application/NavigationCase" "condition" "Ljava/lang/String;" .null := F_condition_a.other W3 (Or.inr (slot_ne (Or.inr (hw _ (List.mem_of_getElem? (i := 42) rfl))) (Or.inr (hw _ (List.mem_of_getElem? (i := 40) rfl))) (by decide) (t := (.object "java/lang/String")) (t' := (.object "java/lang/String")) (by decide) (by decide)))
  have F_toViewId_a : Fld Z h3 a "com/example/sixphase/sixphase/application/NavigationCase" "toViewId" "Ljava/lang/String;" .null := F_toViewId_a.other W3 (Or.inr (slot_ne (Or.inr (hw _ (List.mem_of_getElem? (i := 44) rfl))) (Or.inr (hw _ (List.mem_of_getElem? (i := 40) rfl))) (by decide) (t := (.object "java/lang/String")) (t' := (.object "java/lang/String")) (by decide) (by decide)))
  have F_redirect_a : Fld Z h3 a "com/example/sixphase/sixphase/application/NavigationCase" "redirect" "Z" (.int (0 : Int32)) := F_redirect_a.other W3 (Or.inr (slot_ne (Or.inr (hw _ (List.mem_of_getElem? (i := 46) rfl))) (Or.inr (hw _ (List.mem_of_getElem? (i := 40) rfl))) (by decide) (t := .boolean) (t' := (.object "java/lang/String")) (by decide) (by decide)))
  have F_redirectParameters_a : Fld Z h3 a "com/example/sixphase/sixphase/application/NavigationCase" "redirectParameters" "Ljava/util/Map;" .null := F_redirectParameters_a.other W3 (Or.inr (slot_ne (Or.inr (hw _ (List.mem_of_getElem? (i := 48) rfl))) (Or.inr (hw _ (List.mem_of_getElem? (i := 40) rfl))) (by decide) (t := (.object "java/util/Map")) (t' := (.object "java/lang/String")) (by decide) (by decide)))
  have F_fromAction_a : Fld Z h3 a "com/example/sixphase/sixphase/application/NavigationCase" "fromAction" "Ljava/lang/String;" w1 := F_fromAction_a.other W3 (Or.inr (slot_ne (Or.inr (hw _ (List.mem_of_getElem? (i := 38) rfl))) (Or.inr (hw _ (List.mem_of_getElem? (i := 40) rfl))) (by decide) (t := (.object "java/lang/String")) (t' := (.object "java/lang/String")) (by decide) (by decide)))
  have F_fromOutcome_a := Fn3
  have N3 := Fr.snoc X3 N2 g_a
  have O3 := O2.wr W3 g_a
  have KK3 : Keep h0 h3 [a] := KK2.wr W3 (Or.inl (List.mem_of_getElem? (i := 0) rfl))
  refine goS (n := 14) (Ls' := #[.val (.ref a), .val w1, .val w2, .val w3, .val (.ref w4), .val (.int r), .val .null]) (st' := []) st3 ?_
  refine goS (n := 15) (Ls' := #[.val (.ref a), .val w1, .val w2, .val w3, .val (.ref w4), .val (.int r), .val .null]) (st' := [(.ref a)]) (fun _ kz => XS.aloadN X3.here hx rfl (hb hby d7_14) rfl rfl kz) ?_
  refine goS (n := 16) (Ls' := #[.val (.ref a), .val w1, .val w2, .val w3, .val (.ref w4), .val (.int r), .val .null]) (st' := [w3, (.ref a)]) (fun _ kz => XS.aloadN X3.here hx rfl (hb hby d7_15) rfl hw3 kz) ?_
  obtain ⟨T4, h4, X4, e4, W4, st4⟩ := putF X3 hx hZ hown (host := "") (Or.inl (hw _ (List.mem_of_getElem? (i := 41) rfl))) Via.refl e3 F_condition_a E_a (Or.inr ⟨(hw _ (List.mem_of_getElem? (i := 42) rfl)), rfl, hnm⟩) (hw _ (List.mem_of_getElem? (i := 31) rfl)) (ty := (.object "java/lang/String")) (v := w3) (by decide) rfl (by rcases ref_cases hw3 with q | ⟨_, q⟩ <;> rw [q] <;> rfl) (g := (mkF m 16 #[.val (.ref a), .val w1, .val w2, .val w3, .val (.ref w4), .val (.int r), .val .null] [w3, (.ref a)])) rfl rfl (hb hby d7_16)
  have Fn4 : Fld Z h4 a "com/example/sixphase/sixphase/application/NavigationCase" "condition" "Ljava/lang/String;" w3 := F_condition_a.same W4
  have E_a : Exa Z h4 a "com/example/sixphase/sixphase/application/NavigationCase" := E_a.wr W4
  have F_toViewId_a : Fld Z h4 a "com/example/sixphase/sixphase/application/NavigationCase" "toViewId" "Ljava/lang/String;" .null := F_toViewId_a.other W4 (Or.inr (slot_ne (Or.inr (hw _ (List.mem_of_getElem? (i := 44) rfl))) (Or.inr (hw _ (List.mem_of_getElem? (i := 42) rfl))) (by decide) (t := (.object "java/lang/String")) (t' := (.object "java/lang/String")) (by decide) (by decide)))
  have F_redirect_a : Fld Z h4 a "com/example/sixphase/sixphase/application/NavigationCase" "redirect" "Z" (.int (0 : Int32)) := F_redirect_a.other W4 (Or.inr (slot_ne (Or.inr (hw _ (List.mem_of_getElem? (i := 46) rfl))) (Or.inr (hw _ (List.mem_of_getElem? (i := 42) rfl))) (by decide) (t := .boolean) (t' := (.object "java/lang/String")) (by decide) (by decide)))
  have F_redirectParameters_a : Fld Z h4 a "com/example/sixphase/sixphase/application/NavigationCase" "redirectParameters" "Ljava/util/Map;" .null := F_redirectParameters_a.other W4 (Or.inr (slot_ne (Or.inr (hw _ (List.mem_of_getElem? (i := 48) rfl))) (Or.inr (hw _ (List.mem_of_getElem? (i := 42) rfl))) (by decide) (t := (.object "java/util/Map")) (t' := (.object "java/lang/String")) (by decide) (by decide)))
  have F_fromAction_a : Fld Z h4 a "com/example/sixphase/sixphase/application/NavigationCase" "fromAction" "Ljava/lang/String;" w1 := F_fromAction_a.other W4 (Or.inr (slot_ne (Or.inr (hw _ (List.mem_of_getElem? (i := 38) rfl))) (Or.inr (hw _ (List.mem_of_getElem? (i := 42) rfl))) (by decide) (t := (.object "java/lang/String")) (t' := (.object "java/lang/String")) (by decide) (by decide)))
  have F_fromOutcome_a : Fld Z h4 a "com/example/sixphase/sixphase/application/NavigationCase" "fromOutcome" "Ljava/lang/String;" w2 := F_fromOutcome_a.other W4 (Or.inr (slot_ne (Or.inr (hw _ (List.mem_of_getElem? (i := 40) rfl))) (Or.inr (hw _ (List.mem_of_getElem? (i := 42) rfl))) (by decide) (t := (.object "java/lang/String")) (t' := (.object "java/lang/String")) (by decide) (by decide)))
  have F_condition_a := Fn4
  have N4 := Fr.snoc X4 N3 g_a
  have O4 := O3.wr W4 g_a
  have KK4 : Keep h0 h4 [a] := KK3.wr W4 (Or.inl (List.mem_of_getElem? (i := 0) rfl))
  refine goS (n := 19) (Ls' := #[.val (.ref a), .val w1, .val w2, .val w3, .val (.ref w4), .val (.int r), .val .null]) (st' := []) st4 ?_
  refine goS (n := 20) (Ls' := #[.val (.ref a), .val w1, .val w2, .val w3, .val (.ref w4), .val (.int r), .val .null]) (st' := [(.ref a)]) (fun _ kz => XS.aloadN X4.here hx rfl (hb hby d7_19) rfl rfl kz) ?_
  refine goS (n := 22) (Ls' := #[.val (.ref a), .val w1, .val w2, .val w3, .val (.ref w4), .val (.int r), .val .null]) (st' := [(.ref w4), (.ref a)]) (fun _ kz => XS.aload X4.here hx rfl (hb hby d7_20) rfl rfl kz) ?_
  obtain ⟨T5, h5, X5, e5, W5, st5⟩ := putF X4 hx hZ hown (host := "") (Or.inl (hw _ (List.mem_of_getElem? (i := 43) rfl))) Via.refl e4 F_toViewId_a E_a (Or.inr ⟨(hw _ (List.mem_of_getElem? (i := 44) rfl)), rfl, hnm⟩) (hw _ (List.mem_of_getElem? (i := 31) rfl)) (ty := (.object "java/lang/String")) (v := (.ref w4)) (by decide) rfl rfl (g := (mkF m 22 #[.val (.ref a), .val w1, .val w2, .val w3, .val (.ref w4), .val (.int r), .val .null] [(.ref w4), (.ref a)])) rfl rfl (hb hby d7_22)
  have Fn5 : Fld Z h5 a "com/example/sixphase/sixphase/application/NavigationCase" "toViewId" "Ljava/lang/String;" (.ref w4) := F_toViewId_a.same W5
  have E_a : Exa Z h5 a "com/example/sixphase/sixphase/application/NavigationCase" := E_a.wr W5
  have F_redirect_a : Fld Z h5 a "com/example/sixphase/sixphase/application/NavigationCase" "redirect" "Z" (.int (0 : Int32)) := F_redirect_a.other W5 (Or.inr (slot_ne (Or.inr (hw _ (List.mem_of_getElem? (i := 46) rfl))) (Or.inr (hw _ (List.mem_of_getElem? (i := 44) rfl))) (by decide) (t := .boolean) (t' := (.object "java/lang/String")) (by decide) (by decide)))
  have F_redirectParameters_a : Fld Z h5 a "com/example/sixphase/sixphase/application/NavigationCase" "redirectParameters" "Ljava/util/Map;" .null := F_redirectParameters_a.other W5 (Or.inr (slot_ne (Or.inr (hw _ (List.mem_of_getElem? (i := 48) rfl))) (Or.inr (hw _ (List.mem_of_getElem? (i := 44) rfl))) (by decide) (t := (.object "java/util/Map")) (t' := (.object "java/lang/String")) (by decide) (by decide)))
  have F_fromAction_a : Fld Z h5 a "com/example/sixphase/sixphase/application/NavigationCase" "fromAction" "Ljava/lang/String;" w1 := F_fromAction_a.other W5 (Or.inr (slot_ne (Or.inr (hw _ (List.mem_of_getElem? (i := 38) rfl))) (Or.inr (hw _ (List.mem_of_getElem? (i := 44) rfl))) (by decide) (t := (.object "java/lang/String")) (t' := (.object "java/lang/String")) (by decide) (by decide)))
  have F_fromOutcome_a : Fld Z h5 a "com/example/sixphase/sixphase/application/NavigationCase" "fromOutcome" "Ljava/lang/String;" w2 := F_fromOutcome_a.other W5 (Or.inr (slot_ne (Or.inr (hw _ (List.mem_of_getElem? (i := 40) rfl))) (Or.inr (hw _ (List.mem_of_getElem? (i := 44) rfl))) (by decide) (t := (.object "java/lang/String")) (t' := (.object "java/lang/String")) (by decide) (by decide)))
  have F_condition_a : Fld Z h5 a "com/example/sixphase/sixphase/application/NavigationCase" "condition" "Ljava/lang/String;" w3 := F_condition_a.other W5 (Or.inr (slot_ne (Or.inr (hw _ (List.mem_of_getElem? (i := 42) rfl))) (Or.inr (hw _ (List.mem_of_getElem? (i := 44) rfl))) (by decide) (t := (.object "java/lang/String")) (t' := (.object "java/lang/String")) (by decide) (by decide)))
  have F_toViewId_a := Fn5
  have N5 := Fr.snoc X5 N4 g_a
  have O5 := O4.wr W5 g_a
  have KK5 : Keep h0 h5 [a] := KK4.wr W5 (Or.inl (List.mem_of_getElem? (i := 0) rfl))
  refine goS (n := 25) (Ls' := #[.val (.ref a), .val w1, .val w2, .val w3, .val (.ref w4), .val (.int r), .val .null]) (st' := []) st5 ?_
  refine goS (n := 26) (Ls' := #[.val (.ref a), .val w1, .val w2, .val w3, .val (.ref w4), .val (.int r), .val .null]) (st' := [(.ref a)]) (fun _ kz => XS.aloadN X5.here hx rfl (hb hby d7_25) rfl rfl kz) ?_
  refine goS (n := 28) (Ls' := #[.val (.ref a), .val w1, .val w2, .val w3, .val (.ref w4), .val (.int r), .val .null]) (st' := [(.int r), (.ref a)]) (fun _ kz => XS.iload X5.here hx rfl (hb hby d7_26) rfl kz) ?_
  obtain ⟨T6, h6, X6, e6, W6, st6⟩ := putFN X5 hx hZ hown (hw _ (List.mem_of_getElem? (i := 45) rfl)) Via.refl e5 F_redirect_a E_a (Or.inr ⟨(hw _ (List.mem_of_getElem? (i := 46) rfl)), rfl, hnm⟩) (hw _ (List.mem_of_getElem? (i := 31) rfl)) (ty := .boolean) (v' := (.int r)) (by decide) (by rcases hr01 with q | q <;> rw [q] <;> rfl) (by rcases hr01 with q | q <;> rw [q] <;> rfl) (g := (mkF m 28 #[.val (.ref a), .val w1, .val w2, .val w3, .val (.ref w4), .val (.int r), .val .null] [(.int r), (.ref a)])) rfl rfl (hb hby d7_28)
  have Fn6 : Fld Z h6 a "com/example/sixphase/sixphase/application/NavigationCase" "redirect" "Z" (.int r) := F_redirect_a.same W6
  have E_a : Exa Z h6 a "com/example/sixphase/sixphase/application/NavigationCase" := E_a.wr W6
  have F_redirectParameters_a : Fld Z h6 a "com/example/sixphase/sixphase/application/NavigationCase" "redirectParameters" "Ljava/util/Map;" .null := F_redirectParameters_a.other W6 (Or.inr (slot_ne (Or.inr (hw _ (List.mem_of_getElem? (i := 48) rfl))) (Or.inr (hw _ (List.mem_of_getElem? (i := 46) rfl))) (by decide) (t := (.object "java/util/Map")) (t' := .boolean) (by decide) (by decide)))
  have F_fromAction_a : Fld Z h6 a "com/example/sixphase/sixphase/application/NavigationCase" "fromAction" "Ljava/lang/String;" w1 := F_fromAction_a.other W6 (Or.inr (slot_ne (Or.inr (hw _ (List.mem_of_getElem? (i := 38) rfl))) (Or.inr (hw _ (List.mem_of_getElem? (i := 46) rfl))) (by decide) (t := (.object "java/lang/String")) (t' := .boolean) (by decide) (by decide)))
  have F_fromOutcome_a : Fld Z h6 a "com/example/sixphase/sixphase/application/NavigationCase" "fromOutcome" "Ljava/lang/String;" w2 := F_fromOutcome_a.other W6 (Or.inr (slot_ne (Or.inr (hw _ (List.mem_of_getElem? (i := 40) rfl))) (Or.inr (hw _ (List.mem_of_getElem? (i := 46) rfl))) (by decide) (t := (.object "java/lang/String")) (t' := .boolean) (by decide) (by decide)))
  have F_condition_a : Fld Z h6 a "com/example/sixphase/sixphase/application/NavigationCase" "condition" "Ljava/lang/String;" w3 := F_condition_a.other W6 (Or.inr (slot_ne (Or.inr (hw _ (List.mem_of_getElem? (i := 42) rfl))) (Or.inr (hw _ (List.mem_of_getElem? (i := 46) rfl))) (by decide) (t := (.object "java/lang/String")) (t' := .boolean) (by decide) (by decide)))
  have F_toViewId_a : Fld Z h6 a "com/example/sixphase/sixphase/application/NavigationCase" "toViewId" "Ljava/lang/String;" (.ref w4) := F_toViewId_a.other W6 (Or.inr (slot_ne (Or.inr (hw _ (List.mem_of_getElem? (i := 44) rfl))) (Or.inr (hw _ (List.mem_of_getElem? (i := 46) rfl))) (by decide) (t := (.object "java/lang/String")) (t' := .boolean) (by decide) (by decide)))
  have F_redirect_a := Fn6
  have N6 := Fr.snoc X6 N5 g_a
  have O6 := O5.wr W6 g_a
  have KK6 : Keep h0 h6 [a] := KK5.wr W6 (Or.inl (List.mem_of_getElem? (i := 0) rfl))
  refine goS (n := 31) (Ls' := #[.val (.ref a), .val w1, .val w2, .val w3, .val (.ref w4), .val (.int r), .val .null]) (st' := []) st6 ?_
  refine goS (n := 32) (Ls' := #[.val (.ref a), .val w1, .val w2, .val w3, .val (.ref w4), .val (.int r), .val .null]) (st' := [(.ref a)]) (fun _ kz => XS.aloadN X6.here hx rfl (hb hby d7_31) rfl rfl kz) ?_
  refine goS (n := 34) (Ls' := #[.val (.ref a), .val w1, .val w2, .val w3, .val (.ref w4), .val (.int r), .val .null]) (st' := [.null, (.ref a)]) (fun _ kz => XS.aload X6.here hx rfl (hb hby d7_32) rfl rfl kz) ?_
  obtain ⟨T7, h7, X7, e7, W7, st7⟩ := putF X6 hx hZ hown (host := "") (Or.inl (hw _ (List.mem_of_getElem? (i := 47) rfl))) Via.refl e6 F_redirectParameters_a E_a (Or.inr ⟨(hw _ (List.mem_of_getElem? (i := 48) rfl)), rfl, hnm⟩) (hw _ (List.mem_of_getElem? (i := 31) rfl)) (ty := (.object "java/util/Map")) (v := .null) (by decide) rfl rfl (g := (mkF m 34 #[.val (.ref a), .val w1, .val w2, .val w3, .val (.ref w4), .val (.int r), .val .null] [.null, (.ref a)])) rfl rfl (hb hby d7_34)
  have Fn7 : Fld Z h7 a "com/example/sixphase/sixphase/application/NavigationCase" "redirectParameters" "Ljava/util/Map;" .null := F_redirectParameters_a.same W7
  have E_a : Exa Z h7 a "com/example/sixphase/sixphase/application/NavigationCase" := E_a.wr W7
  have F_fromAction_a : Fld Z h7 a "com/example/sixphase/sixphase/application/NavigationCase" "fromAction" "Ljava/lang/String;" w1 := F_fromAction_a.other W7 (Or.inr (slot_ne (Or.inr (hw _ (List.mem_of_getElem? (i := 38) rfl))) (Or.inr (hw _ (List.mem_of_getElem? (i := 48) rfl))) (by decide) (t := (.object "java/lang/String")) (t' := (.object "java/util/Map")) (by decide) (by decide)))
  have F_fromOutcome_a : Fld Z h7 a "com/example/sixphase/sixphase/application/NavigationCase" "fromOutcome" "Ljava/lang/String;" w2 := F_fromOutcome_a.other W7 (Or.inr (slot_ne (Or.inr (hw _ (List.mem_of_getElem? (i := 40) rfl))) (Or.inr (hw _ (List.mem_of_getElem? (i := 48) rfl))) (by decide) (t := (.object "java/lang/String")) (t' := (.object "java/util/Map")) (by decide) (by decide)))
  have F_condition_a : Fld Z h7 a "com/example/sixphase/sixphase/application/NavigationCase" "condition" "Ljava/lang/String;" w3 := F_condition_a.other W7 (Or.inr (slot_ne (Or.inr (hw _ (List.mem_of_getElem? (i := 42) rfl))) (Or.inr (hw _ (List.mem_of_getElem? (i := 48) rfl))) (by decide) (t := (.object "java/lang/String")) (t' := (.object "java/util/Map")) (by decide) (by decide)))
  have F_toViewId_a : Fld Z h7 a "com/example/sixphase/sixphase/application/NavigationCase" "toViewId" "Ljava/lang/String;" (.ref w4) := F_toViewId_a.other W7 (Or.inr (slot_ne (Or.inr (hw _ (List.mem_of_getElem? (i := 44) rfl))) (Or.inr (hw _ (List.mem_of_getElem? (i := 48) rfl))) (by decide) (t := (.object "java/lang/String")) (t' := (.object "java/util/Map")) (by decide) (by decide)))
  have F_redirect_a : Fld Z h7 a "com/example/sixphase/sixphase/application/NavigationCase" "redirect" "Z" (.int r) := F_redirect_a.other W7 (Or.inr (slot_ne (Or.inr (hw _ (List.mem_of_getElem? (i := 46) rfl))) (Or.inr (hw _ (List.mem_of_getElem? (i := 48) rfl))) (by decide) (t := .boolean) (t' := (.object "java/util/Map")) (by decide) (by decide)))
  have F_redirectParameters_a := Fn7
  have N7 := Fr.snoc X7 N6 g_a
  have O7 := O6.wr W7 g_a
  have KK7 : Keep h0 h7 [a] := KK6.wr W7 (Or.inl (List.mem_of_getElem? (i := 0) rfl))
  refine goS (n := 37) (Ls' := #[.val (.ref a), .val w1, .val w2, .val w3, .val (.ref w4), .val (.int r), .val .null]) (st' := []) st7 ?_
  exact goRetV X7 hx hlk Bd.returns (hb hby d7_37) (by decide) (by decide) (by rw [e7]; exact ⟨rfl, N7, KK7, F_fromAction_a, F_fromOutcome_a⟩)
theorem d8_0 : decode prog_12_method_2_code 0 = .ok (.aload_n 0, 1) := by decide +kernel
theorem d8_1 : decode prog_12_method_2_code 1 = .ok (.getfield 7, 3) := by decide +kernel
theorem d8_4 : decode prog_12_method_2_code 4 = .ok (.ifnull 16, 3) := by decide +kernel
theorem d8_20 : decode prog_12_method_2_code 20 = .ok (.aload_n 0, 1) := by decide +kernel
theorem d8_21 : decode prog_12_method_2_code 21 = .ok (.getfield 13, 3) := by decide +kernel
theorem d8_24 : decode prog_12_method_2_code 24 = .ok (.ifnull 7, 3) := by decide +kernel
theorem d8_31 : decode prog_12_method_2_code 31 = .ok (.iconst 3, 1) := by decide +kernel
theorem d8_32 : decode prog_12_method_2_code 32 = .ok (.ireturn, 1) := by decide +kernel
theorem d8_27 : decode prog_12_method_2_code 27 = .ok (.iconst 1, 1) := by decide +kernel
theorem d8_28 : decode prog_12_method_2_code 28 = .ok (.goto 4, 3) := by decide +kernel
theorem d8_7 : decode prog_12_method_2_code 7 = .ok (.aload_n 0, 1) := by decide +kernel
theorem d8_8 : decode prog_12_method_2_code 8 = .ok (.getfield 13, 3) := by decide +kernel
theorem d8_11 : decode prog_12_method_2_code 11 = .ok (.ifnull 7, 3) := by decide +kernel
theorem d8_18 : decode prog_12_method_2_code 18 = .ok (.iconst 2, 1) := by decide +kernel
theorem d8_19 : decode prog_12_method_2_code 19 = .ok (.ireturn, 1) := by decide +kernel
theorem d8_14 : decode prog_12_method_2_code 14 = .ok (.iconst 0, 1) := by decide +kernel
theorem d8_15 : decode prog_12_method_2_code 15 = .ok (.goto 4, 3) := by decide +kernel
theorem ef_prec (m : MethodId) (a : Addr) : entryFrame m #[(.ref a)] 1 = mkF m 0 #[.val (.ref a)] [] := by first | (simp [entryFrame, mkF, argsToLocals, Value.category]; done) | rfl
abbrev R_prec : Room := { frames := 0, cells := 0, slots := 0, locals := 0 }
def Q_prec (Z : State) (a : Addr) (w1 : Value) (w2 : Value) (h0 : Heap) (n0 : Nat) (v : Option Value) (h : Heap) (L : List Loc) : Prop := v = some (.int ((if w1 = .null then (1 : Int32) else 0) + (if w2 = .null then (2 : Int32) else 0))) ∧ Fr n0 L ∧ h = h0
set_option maxRecDepth 65536 in
set_option maxHeartbeats 40000000 in
theorem rm_prec (l : Launch) (Z : State) (a0 : Array Value) (hw : ∀ d ∈ tables_1, d.before a0 Z = true) (ws : List Jvm.Cond) (a : Addr) (w1 : Value) (w2 : Value) (h0 : Heap) (n0 : Nat) (O0 : Old Z n0 h0) (hw1 : w1.isRef = true) (hw2 : w2.isRef = true) (F1 : Fld Z h0 a "com/example/sixphase/sixphase/application/NavigationCase" "fromAction" "Ljava/lang/String;" w1) (F2 : Fld Z h0 a "com/example/sixphase/sixphase/application/NavigationCase" "fromOutcome" "Ljava/lang/String;" w2) :
    MetFree l (⟨"com/example/sixphase/sixphase/application/NavigationCase", "precedence", "()I"⟩ : MethodName) (head1 (Jvm.Cond.code (⟨"com/example/sixphase/sixphase/application/NavigationCase", "precedence", "()I"⟩ : MethodName) prog_12_method_2_code 1 (some .int) :: ws) R_prec) (fun as_ U => as_ = #[(.ref a)] ∧ Z.Warmed39 U.vm ∧ U.heap = h0) (fun _ _ _ _ _ => True) (fun _ U o U' => ∃ v L, o = .returned v ∧ Q_prec Z a w1 w2 h0 n0 v U'.heap L ∧ FrameEnd U o U' L R_prec.cells R_prec.slots) := by
  refine MetFree.of_bodySF (plainFor_of_name pn_3) hisR ?_
  intro p e s m args below meth c s₁ Bd hml0 hP hK
  obtain ⟨rfl, hZ, hh⟩ := hP
  have hx := Bd.exec
  have hby := Bd.bytes
  have hml : c.maxLocals = 1 := hml0
  have hown : s.vm.findClass "com/example/sixphase/sixphase/application/NavigationCase" = some m.cls := findClass_of_methodNamed Bd.named
  have hnm := (name_of_methodNamed Bd.named Bd.method).1
  have hlk : meth.locks = false := BodyLoose.notSynchronized Bd
  have X0 : Stand p l e R_prec s m #[(.ref a)] below meth c s₁ [] 0 0 := Stand.of_body Bd
  have e0 : s₁.heap = h0 := by rw [← hh, Bd.state]; rfl
  have N0 := Fr.nil n0
  refine enter (P := PQ s R_prec.cells R_prec.slots (Q_prec Z a w1 w2 h0 n0)) (ef_prec m a) ?_
  rcases ref_cases hw1 with q1 | ⟨b1, q1⟩ <;> rcases ref_cases hw2 with q2 | ⟨b2, q2⟩ <;> subst q1 <;> subst q2
  · refine goS (n := 1) (Ls' := #[.val (.ref a)]) (st' := [(.ref a)]) (fun _ kz => XS.aloadN X0.here hx rfl (hb hby d8_0) rfl rfl kz) ?_
    obtain ⟨T1, X1, e1, st1⟩ := getF X0 hx hZ hown (host := "") (Or.inl (hw _ (List.mem_of_getElem? (i := 37) rfl))) Via.refl e0 F1 (g := (mkF m 1 #[.val (.ref a)] [(.ref a)])) rfl rfl (hb hby d8_1)
    refine goS (n := 4) (Ls' := #[.val (.ref a)]) (st' := [.null]) st1 ?_
    refine goS (n := 20) (Ls' := #[.val (.ref a)]) (st' := []) (fun _ kz => XS.ifnullYes X1.here hx rfl (pc0 := 4) (pc' := 20) rfl (hb hby d8_4) rfl (by decide) (by decide) kz) ?_
    refine goS (n := 21) (Ls' := #[.val (.ref a)]) (st' := [(.ref a)]) (fun _ kz => XS.aloadN X1.here hx rfl (hb hby d8_20) rfl rfl kz) ?_
    obtain ⟨T2, X2, e2, st2⟩ := getF X1 hx hZ hown (host := "") (Or.inl (hw _ (List.mem_of_getElem? (i := 39) rfl))) Via.refl e1 F2 (g := (mkF m 21 #[.val (.ref a)] [(.ref a)])) rfl rfl (hb hby d8_21)
    refine goS (n := 24) (Ls' := #[.val (.ref a)]) (st' := [.null]) st2 ?_
    refine goS (n := 31) (Ls' := #[.val (.ref a)]) (st' := []) (fun _ kz => XS.ifnullYes X2.here hx rfl (pc0 := 24) (pc' := 31) rfl (hb hby d8_24) rfl (by decide) (by decide) kz) ?_
    refine goS (n := 32) (Ls' := #[.val (.ref a)]) (st' := [(.int (3 : Int32))]) (fun _ kz => XS.iconst X2.here hx rfl (hb hby d8_31) kz) ?_
    exact goRetI X2 hx hlk Bd.returns (hb hby d8_32) (by decide) (by decide) (by rw [e2]; exact ⟨rfl, N0, rfl⟩)
  · refine goS (n := 1) (Ls' := #[.val (.ref a)]) (st' := [(.ref a)]) (fun _ kz => XS.aloadN X0.here hx rfl (hb hby d8_0) rfl rfl kz) ?_
    obtain ⟨T3, X3, e3, st3⟩ := getF X0 hx hZ hown (host := "") (Or.inl (hw _ (List.mem_of_getElem? (i := 37) rfl))) Via.refl e0 F1 (g := (mkF m 1 #[.val (.ref a)] [(.ref a)])) rfl rfl (hb hby d8_1)
    refine goS (n := 4) (Ls' := #[.val (.ref a)]) (st' := [.null]) st3 ?_
    refine goS (n := 20) (Ls' := #[.val (.ref a)]) (st' := []) (fun _ kz => XS.ifnullYes X3.here hx rfl (pc0 := 4) (pc' := 20) rfl (hb hby d8_4) rfl (by decide) (by decide) kz) ?_
    refine goS (n := 21) (Ls' := #[.val (.ref a)]) (st' := [(.ref a)]) (fun _ kz => XS.aloadN X3.here hx rfl (hb hby d8_20) rfl rfl kz) ?_
    obtain ⟨T4, X4, e4, st4⟩ := getF X3 hx hZ hown (host := "") (Or.inl (hw _ (List.mem_of_getElem? (i := 39) rfl))) Via.refl e3 F2 (g := (mkF m 21 #[.val (.ref a)] [(.ref a)])) rfl rfl (hb hby d8_21)
    refine goS (n := 24) (Ls' := #[.val (.ref a)]) (st' := [(.ref b2)]) st4 ?_
    refine goS (n := 27) (Ls' := #[.val (.ref a)]) (st' := []) (fun _ kz => XS.ifnullNo X4.here hx rfl (hb hby d8_24) rfl kz) ?_
    refine goS (n := 28) (Ls' := #[.val (.ref a)]) (st' := [(.int (1 : Int32))]) (fun _ kz => XS.iconst X4.here hx rfl (hb hby d8_27) kz) ?_
    refine goS (n := 32) (Ls' := #[.val (.ref a)]) (st' := [(.int (1 : Int32))]) (fun _ kz => XS.goto X4.here hx rfl (pc0 := 28) (pc' := 32) rfl (hb hby d8_28) (by decide) (by decide) kz) ?_
    exact goRetI X4 hx hlk Bd.returns (hb hby d8_32) (by decide) (by decide) (by rw [e4]; exact ⟨rfl, N0, rfl⟩)
  · refine goS (n := 1) (Ls' := #[.val (.ref a)]) (st' := [(.ref a)]) (fun _ kz => XS.aloadN X0.here hx rfl (hb hby d8_0) rfl rfl kz) ?_
    obtain ⟨T5, X5, e5, st5⟩ := getF X0 hx hZ hown (host := "") (Or.inl (hw _ (List.mem_of_getElem? (i := 37) rfl))) Via.refl e0 F1 (g := (mkF m 1 #[.val (.ref a)] [(.ref a)])) rfl rfl (hb hby d8_1)
    refine goS (n := 4) (Ls' := #[.val (.ref a)]) (st' := [(.ref b1)]) st5 ?_
    refine goS (n := 7) (Ls' := #[.val (.ref a)]) (st' := []) (fun _ kz => XS.ifnullNo X5.here hx rfl (hb hby d8_4) rfl kz) ?_
    refine goS (n := 8) (Ls' := #[.val (.ref a)]) (st' := [(.ref a)]) (fun _ kz => XS.aloadN X5.here hx rfl (hb hby d8_7) rfl rfl kz) ?_
    obtain ⟨T6, X6, e6, st6⟩ := getF X5 hx hZ hown (host := "") (Or.inl (hw _ (List.mem_of_getElem? (i := 39) rfl))) Via.refl e5 F2 (g := (mkF m 8 #[.val (.ref a)] [(.ref a)])) rfl rfl (hb hby d8_8)
    refine goS (n := 11) (Ls' := #[.val (.ref a)]) (st' := [.null]) st6 ?_
    refine goS (n := 18) (Ls' := #[.val (.ref a)]) (st' := []) (fun _ kz => XS.ifnullYes X6.here hx rfl (pc0 := 11) (pc' := 18) rfl (hb hby d8_11) rfl (by decide) (by decide) kz) ?_
    refine goS (n := 19) (Ls' := #[.val (.ref a)]) (st' := [(.int (2 : Int32))]) (fun _ kz => XS.iconst X6.here hx rfl (hb hby d8_18) kz) ?_
    exact goRetI X6 hx hlk Bd.returns (hb hby d8_19) (by decide) (by decide) (by rw [e6]; exact ⟨rfl, N0, rfl⟩)
  · refine goS (n := 1) (Ls' := #[.val (.ref a)]) (st' := [(.ref a)]) (fun _ kz => XS.aloadN X0.here hx rfl (hb hby d8_0) rfl rfl kz) ?_
    obtain ⟨T7, X7, e7, st7⟩ := getF X0 hx hZ hown (host := "") (Or.inl (hw _ (List.mem_of_getElem? (i := 37) rfl))) Via.refl e0 F1 (g := (mkF m 1 #[.val (.ref a)] [(.ref a)])) rfl rfl (hb hby d8_1)
    refine goS (n := 4) (Ls' := #[.val (.ref a)]) (st' := [(.ref b1)]) st7 ?_
    refine goS (n := 7) (Ls' := #[.val (.ref a)]) (st' := []) (fun _ kz => XS.ifnullNo X7.here hx rfl (hb hby d8_4) rfl kz) ?_
    refine goS (n := 8) (Ls' := #[.val (.ref a)]) (st' := [(.ref a)]) (fun _ kz => XS.aloadN X7.here hx rfl (hb hby d8_7) rfl rfl kz) ?_
    obtain ⟨T8, X8, e8, st8⟩ := getF X7 hx hZ hown (host := "") (Or.inl (hw _ (List.mem_of_getElem? (i := 39) rfl))) Via.refl e7 F2 (g := (mkF m 8 #[.val (.ref a)] [(.ref a)])) rfl rfl (hb hby d8_8)
    refine goS (n := 11) (Ls' := #[.val (.ref a)]) (st' := [(.ref b2)]) st8 ?_
    refine goS (n := 14) (Ls' := #[.val (.ref a)]) (st' := []) (fun _ kz => XS.ifnullNo X8.here hx rfl (hb hby d8_11) rfl kz) ?_
    refine goS (n := 15) (Ls' := #[.val (.ref a)]) (st' := [(.int (0 : Int32))]) (fun _ kz => XS.iconst X8.here hx rfl (hb hby d8_14) kz) ?_
    refine goS (n := 19) (Ls' := #[.val (.ref a)]) (st' := [(.int (0 : Int32))]) (fun _ kz => XS.goto X8.here hx rfl (pc0 := 15) (pc' := 19) rfl (hb hby d8_15) (by decide) (by decide) kz) ?_
    exact goRetI X8 hx hlk Bd.returns (hb hby d8_19) (by decide) (by decide) (by rw [e8]; exact ⟨rfl, N0, rfl⟩)
theorem own_01 (m : Int32) : bi (¬ (m = (0 : Int32))) = 0 ↔ m = 0 := by unfold bi; split <;> simp_all
theorem pd_6 : parseMethodDescriptor "(ZZI)Ljava/lang/String;" = some ⟨[.boolean, .boolean, .int], some (.object "java/lang/String")⟩ := by decide +kernel
theorem pd_7 : parseMethodDescriptor "(Ljava/lang/String;Ljava/lang/String;Ljava/lang/String;Ljava/lang/String;ZLjava/util/Map;)V" = some ⟨[(.object "java/lang/String"), (.object "java/lang/String"), (.object "java/lang/String"), (.object "java/lang/String"), .boolean, (.object "java/util/Map")], none⟩ := by decide +kernel
theorem pd_8 : parseMethodDescriptor "()I" = some ⟨[], some .int⟩ := by decide +kernel
theorem ef_law (m : MethodId) (p1 : Int32) (p2 : Int32) (p3 : Int32) (p4 : Int32) : entryFrame m #[(.int p1), (.int p2), (.int p3), (.int p4)] maxLocals = mkF m 0 #[.val (.int p1), .val (.int p2), .val (.int p3), .val (.int p4), .unset, .unset, .unset, .unset, .unset, .unset, .unset, .unset, .unset, .unset] [] := by first | (simp [entryFrame, mkF, argsToLocals, Value.category, maxLocals]; done) | rfl
def Q_law (Z : State) (p1 : Int32) (p2 : Int32) (p3 : Int32) (p4 : Int32) (cs : Int32) (h0 : Heap) (n0 : Nat) (v : Option Value) (h : Heap) (L : List Loc) : Prop := v = some (.int 1) ∧ Fr n0 L
set_option maxRecDepth 65536 in
set_option maxHeartbeats 40000000 in
theorem rm_law (l : Launch) (Z : State) (a0 : Array Value) (hw : ∀ d ∈ tables_1, d.before a0 Z = true) (ws : List Jvm.Cond) (p1 : Int32) (p2 : Int32) (p3 : Int32) (p4 : Int32) (cs : Int32) (h0 : Heap) (n0 : Nat) (O0 : Old Z n0 h0) (S_CS : Sta Z Z.heap "java/lang/String" "COMPACT_STRINGS" "Z" (.int cs)) (hcs : ¬ cs = (0 : Int32)) :
    MetFree l x (head1 (Jvm.Cond.code x code maxLocals ret :: ws) room_1) (fun as_ U => as_ = #[(.int p1), (.int p2), (.int p3), (.int p4)] ∧ Z.Warmed39 U.vm ∧ U.heap = h0 ∧ CHv Z own_EL U.vm h0) (fun _ _ _ _ _ => True) (fun _ U o U' => ∃ v L, o = .returned v ∧ Q_law Z p1 p2 p3 p4 cs h0 n0 v U'.heap L ∧ CHr Z own_EL U.vm U.heap U'.vm U'.heap ∧ ReturnedEndW U o U' L room_1.cells room_1.slots) := by
  refine MetFree.of_bodySF (plainFor_of_name pn_2) hisR ?_
  intro p e s m args below meth c s₁ Bd hml0 hP hK
  obtain ⟨rfl, hZ, hh, hC0⟩ := hP
  have hx := Bd.exec
  have hby := Bd.bytes
  have hml : c.maxLocals = 14 := hml0
  have hown : s.vm.findClass "com/example/sixphase/sixphase/application/NavigationCasePrecedencePinLaw" = some m.cls := findClass_of_methodNamed Bd.named
  have hnm := (name_of_methodNamed Bd.named Bd.method).1
  have hlk : meth.locks = false := BodyLoose.notSynchronized Bd
  have X0 : Stand p l e room_1 (s.setVm s.vm) m #[(.int p1), (.int p2), (.int p3), (.int p4)] below meth c s₁ [] 0 0 := Stand.of_body Bd
  have e0 : s₁.heap = h0 := by rw [← hh, Bd.state]; rfl
  have N0 := Fr.nil n0
  have hS : s.Since s.vm s.heap.size := (State.WarmedH.refl s).since _
  have hk : s.heap.size ≤ h0.size := by rw [← hh]; exact Nat.le_refl _
  have hZ : Z.Warmed39 (s.setVm s.vm).vm := hZ
  have hown : (s.setVm s.vm).vm.findClass "com/example/sixphase/sixphase/application/NavigationCasePrecedencePinLaw" = some m.cls := hown
  have wS := own_wS hw
  have hC : CHr Z own_EL s.vm h0 s.vm h0 := CHr.refl hC0
  have hEL := own_EW hw
  refine enter (P := PQH Z own_EL s room_1.cells room_1.slots (Q_law Z p1 p2 p3 p4 cs h0 n0)) (ef_law m p1 p2 p3 p4) ?_
  refine goS (n := 1) (Ls' := #[.val (.int p1), .val (.int p2), .val (.int p3), .val (.int p4), .unset, .unset, .unset, .unset, .unset, .unset, .unset, .unset, .unset, .unset]) (st' := [(.int p1)]) (fun _ kz => XS.iloadN X0.here hx rfl (hb hby at_0) rfl kz) ?_
  refine goS (n := 2) (Ls' := #[.val (.int p1), .val (.int p2), .val (.int p3), .val (.int p4), .unset, .unset, .unset, .unset, .unset, .unset, .unset, .unset, .unset, .unset]) (st' := [(.int (1 : Int32)), (.int p1)]) (fun _ kz => XS.iconst X0.here hx rfl (hb hby at_1) kz) ?_
  refine goS (n := 3) (Ls' := #[.val (.int p1), .val (.int p2), .val (.int p3), .val (.int p4), .unset, .unset, .unset, .unset, .unset, .unset, .unset, .unset, .unset, .unset]) (st' := [(.int (p1 &&& (1 : Int32)))]) (fun _ kz => XS.iand X0.here hx rfl (hb hby at_2) rfl kz) ?_
  have jn1 : ∀ r1 : Int32, r1 = bi (¬ ((p1 &&& (1 : Int32)) = (0 : Int32))) → Go p e below (PQH Z own_EL s room_1.cells room_1.slots (Q_law Z p1 p2 p3 p4 cs h0 n0)) s₁ (mkF m 11 #[.val (.int p1), .val (.int p2), .val (.int p3), .val (.int p4), .unset, .unset, .unset, .unset, .unset, .unset, .unset, .unset, .unset, .unset] [(.int r1)]) := by
    intro r1 h_r1
    refine goS (n := 13) (Ls' := #[.val (.int p1), .val (.int p2), .val (.int p3), .val (.int p4), .val (.int r1), .unset, .unset, .unset, .unset, .unset, .unset, .unset, .unset, .unset]) (st' := []) (fun _ kz => XS.istore X0.here hx rfl (hb hby at_11) rfl (l' := #[.val (.int p1), .val (.int p2), .val (.int p3), .val (.int p4), .val (.int r1), .unset, .unset, .unset, .unset, .unset, .unset, .unset, .unset, .unset]) rfl kz) ?_
    refine goS (n := 14) (Ls' := #[.val (.int p1), .val (.int p2), .val (.int p3), .val (.int p4), .val (.int r1), .unset, .unset, .unset, .unset, .unset, .unset, .unset, .unset, .unset]) (st' := [(.int p1)]) (fun _ kz => XS.iloadN X0.here hx rfl (hb hby at_13) rfl kz) ?_
    refine goS (n := 15) (Ls' := #[.val (.int p1), .val (.int p2), .val (.int p3), .val (.int p4), .val (.int r1), .unset, .unset, .unset, .unset, .unset, .unset, .unset, .unset, .unset]) (st' := [(.int (2 : Int32)), (.int p1)]) (fun _ kz => XS.iconst X0.here hx rfl (hb hby at_14) kz) ?_
    refine goS (n := 16) (Ls' := #[.val (.int p1), .val (.int p2), .val (.int p3), .val (.int p4), .val (.int r1), .unset, .unset, .unset, .unset, .unset, .unset, .unset, .unset, .unset]) (st' := [(.int (p1 &&& (2 : Int32)))]) (fun _ kz => XS.iand X0.here hx rfl (hb hby at_15) rfl kz) ?_
    have jn2 : ∀ r2 : Int32, r2 = bi (¬ ((p1 &&& (2 : Int32)) = (0 : Int32))) → Go p e below (PQH Z own_EL s room_1.cells room_1.slots (Q_law Z p1 p2 p3 p4 cs h0 n0)) s₁ (mkF m 24 #[.val (.int p1), .val (.int p2), .val (.int p3), .val (.int p4), .val (.int r1), .unset, .unset, .unset, .unset, .unset, .unset, .unset, .unset, .unset] [(.int r2)]) := by
      intro r2 h_r2
      refine goS (n := 26) (Ls' := #[.val (.int p1), .val (.int p2), .val (.int p3), .val (.int p4), .val (.int r1), .val (.int r2), .unset, .unset, .unset, .unset, .unset, .unset, .unset, .unset]) (st' := []) (fun _ kz => XS.istore X0.here hx rfl (hb hby at_24) rfl (l' := #[.val (.int p1), .val (.int p2), .val (.int p3), .val (.int p4), .val (.int r1), .val (.int r2), .unset, .unset, .unset, .unset, .unset, .unset, .unset, .unset]) rfl kz) ?_
      refine goS (n := 27) (Ls' := #[.val (.int p1), .val (.int p2), .val (.int p3), .val (.int p4), .val (.int r1), .val (.int r2), .unset, .unset, .unset, .unset, .unset, .unset, .unset, .unset]) (st' := [(.int p1)]) (fun _ kz => XS.iloadN X0.here hx rfl (hb hby at_26) rfl kz) ?_
      refine goS (n := 28) (Ls' := #[.val (.int p1), .val (.int p2), .val (.int p3), .val (.int p4), .val (.int r1), .val (.int r2), .unset, .unset, .unset, .unset, .unset, .unset, .unset, .unset]) (st' := [(.int (4 : Int32)), (.int p1)]) (fun _ kz => XS.iconst X0.here hx rfl (hb hby at_27) kz) ?_
      refine goS (n := 29) (Ls' := #[.val (.int p1), .val (.int p2), .val (.int p3), .val (.int p4), .val (.int r1), .val (.int r2), .unset, .unset, .unset, .unset, .unset, .unset, .unset, .unset]) (st' := [(.int (p1 &&& (4 : Int32)))]) (fun _ kz => XS.iand X0.here hx rfl (hb hby at_28) rfl kz) ?_
      have jn3 : ∀ r3 : Int32, r3 = bi (¬ ((p1 &&& (4 : Int32)) = (0 : Int32))) → Go p e below (PQH Z own_EL s room_1.cells room_1.slots (Q_law Z p1 p2 p3 p4 cs h0 n0)) s₁ (mkF m 37 #[.val (.int p1), .val (.int p2), .val (.int p3), .val (.int p4), .val (.int r1), .val (.int r2), .unset, .unset, .unset, .unset, .unset, .unset, .unset, .unset] [(.int r3)]) := by
        intro r3 h_r3
        refine goS (n := 39) (Ls' := #[.val (.int p1), .val (.int p2), .val (.int p3), .val (.int p4), .val (.int r1), .val (.int r2), .val (.int r3), .unset, .unset, .unset, .unset, .unset, .unset, .unset]) (st' := []) (fun _ kz => XS.istore X0.here hx rfl (hb hby at_37) rfl (l' := #[.val (.int p1), .val (.int p2), .val (.int p3), .val (.int p4), .val (.int r1), .val (.int r2), .val (.int r3), .unset, .unset, .unset, .unset, .unset, .unset, .unset]) rfl kz) ?_
        refine goS (n := 40) (Ls' := #[.val (.int p1), .val (.int p2), .val (.int p3), .val (.int p4), .val (.int r1), .val (.int r2), .val (.int r3), .unset, .unset, .unset, .unset, .unset, .unset, .unset]) (st' := [(.int p1)]) (fun _ kz => XS.iloadN X0.here hx rfl (hb hby at_39) rfl kz) ?_
        refine goS (n := 42) (Ls' := #[.val (.int p1), .val (.int p2), .val (.int p3), .val (.int p4), .val (.int r1), .val (.int r2), .val (.int r3), .unset, .unset, .unset, .unset, .unset, .unset, .unset]) (st' := [(.int (8 : Int32)), (.int p1)]) (fun _ kz => XS.bipush X0.here hx rfl (hb hby at_40) kz) ?_
        refine goS (n := 43) (Ls' := #[.val (.int p1), .val (.int p2), .val (.int p3), .val (.int p4), .val (.int r1), .val (.int r2), .val (.int r3), .unset, .unset, .unset, .unset, .unset, .unset, .unset]) (st' := [(.int (p1 &&& (8 : Int32)))]) (fun _ kz => XS.iand X0.here hx rfl (hb hby at_42) rfl kz) ?_
        have jn4 : ∀ r4 : Int32, r4 = bi (¬ ((p1 &&& (8 : Int32)) = (0 : Int32))) → Go p e below (PQH Z own_EL s room_1.cells room_1.slots (Q_law Z p1 p2 p3 p4 cs h0 n0)) s₁ (mkF m 51 #[.val (.int p1), .val (.int p2), .val (.int p3), .val (.int p4), .val (.int r1), .val (.int r2), .val (.int r3), .unset, .unset, .unset, .unset, .unset, .unset, .unset] [(.int r4)]) := by
          intro r4 h_r4
          refine goS (n := 53) (Ls' := #[.val (.int p1), .val (.int p2), .val (.int p3), .val (.int p4), .val (.int r1), .val (.int r2), .val (.int r3), .val (.int r4), .unset, .unset, .unset, .unset, .unset, .unset]) (st' := []) (fun _ kz => XS.istore X0.here hx rfl (hb hby at_51) rfl (l' := #[.val (.int p1), .val (.int p2), .val (.int p3), .val (.int p4), .val (.int r1), .val (.int r2), .val (.int r3), .val (.int r4), .unset, .unset, .unset, .unset, .unset, .unset]) rfl kz) ?_
          refine goS (n := 55) (Ls' := #[.val (.int p1), .val (.int p2), .val (.int p3), .val (.int p4), .val (.int r1), .val (.int r2), .val (.int r3), .val (.int r4), .unset, .unset, .unset, .unset, .unset, .unset]) (st' := [(.int r1)]) (fun _ kz => XS.iload X0.here hx rfl (hb hby at_53) rfl kz) ?_
          refine goS (n := 56) (Ls' := #[.val (.int p1), .val (.int p2), .val (.int p3), .val (.int p4), .val (.int r1), .val (.int r2), .val (.int r3), .val (.int r4), .unset, .unset, .unset, .unset, .unset, .unset]) (st' := [(.int p1), (.int r1)]) (fun _ kz => XS.iloadN X0.here hx rfl (hb hby at_55) rfl kz) ?_
          refine goS (n := 58) (Ls' := #[.val (.int p1), .val (.int p2), .val (.int p3), .val (.int p4), .val (.int r1), .val (.int r2), .val (.int r3), .val (.int r4), .unset, .unset, .unset, .unset, .unset, .unset]) (st' := [(.int (16 : Int32)), (.int p1), (.int r1)]) (fun _ kz => XS.bipush X0.here hx rfl (hb hby at_56) kz) ?_
          refine goS (n := 59) (Ls' := #[.val (.int p1), .val (.int p2), .val (.int p3), .val (.int p4), .val (.int r1), .val (.int r2), .val (.int r3), .val (.int r4), .unset, .unset, .unset, .unset, .unset, .unset]) (st' := [(.int (p1 &&& (16 : Int32))), (.int r1)]) (fun _ kz => XS.iand X0.here hx rfl (hb hby at_58) rfl kz) ?_
          have jn5 : ∀ r5 : Int32, r5 = bi (¬ ((p1 &&& (16 : Int32)) = (0 : Int32))) → Go p e below (PQH Z own_EL s room_1.cells room_1.slots (Q_law Z p1 p2 p3 p4 cs h0 n0)) s₁ (mkF m 67 #[.val (.int p1), .val (.int p2), .val (.int p3), .val (.int p4), .val (.int r1), .val (.int r2), .val (.int r3), .val (.int r4), .unset, .unset, .unset, .unset, .unset, .unset] [(.int r5), (.int r1)]) := by
            intro r5 h_r5
            refine goS (n := 68) (Ls' := #[.val (.int p1), .val (.int p2), .val (.int p3), .val (.int p4), .val (.int r1), .val (.int r2), .val (.int r3), .val (.int r4), .unset, .unset, .unset, .unset, .unset, .unset]) (st' := [(.int p2), (.int r5), (.int r1)]) (fun _ kz => XS.iloadN X0.here hx rfl (hb hby at_67) rfl kz) ?_
            obtain ⟨_, _, ⟨T6, L6, k6, n6⟩, -, X6, hS6, hgr6, ⟨Lc6, hQ6, l6, y6, z6, hCr6⟩, st6⟩ := callSS X0 hx (y := (⟨"com/example/sixphase/sixphase/application/NavigationCasePrecedencePinLaw", "draw", "(ZZI)Ljava/lang/String;"⟩ : MethodName)) hown (mvT hZ (hw _ (List.mem_of_getElem? (i := 0) rfl))) (mvT hZ (hw _ (List.mem_of_getElem? (i := 1) rfl))) (mvT hZ (hw _ (List.mem_of_getElem? (i := 2) rfl))) (mvT hZ (hw _ (List.mem_of_getElem? (i := 3) rfl))) (by decide) (backOfSH (W := 0) (rm_draw l Z a0 hw [] r1 r5 p2 cs h0 n0 O0 S_CS hcs) hZ (hw _ (List.mem_of_getElem? (i := 3) rfl)) (hw _ (List.mem_of_getElem? (i := 2) rfl)) (by decide) (by decide) hEL hC.1) (g := (mkF m 68 #[.val (.int p1), .val (.int p2), .val (.int p3), .val (.int p4), .val (.int r1), .val (.int r2), .val (.int r3), .val (.int r4), .unset, .unset, .unset, .unset, .unset, .unset] [(.int p2), (.int r5), (.int r1)])) rfl (by rw [hml]; rfl) (argsL := [(.int r1), (.int r5), (.int p2)]) (rest := []) (lenOf pd_6 rfl) rfl (by show 2 * 0 + _ ≤ _; exact Nat.le_of_eq rfl) (hb hby at_68) (fun _ _ => ⟨rfl, e0, (Nat.le_of_ble_eq_true rfl), (Nat.le_of_ble_eq_true rfl)⟩)
            dsimp only [Pt.U, Pt.locs, Pt.cells, Pt.slots] at X6 l6 y6 z6 st6 hQ6 hS6 hgr6 hCr6
            subst l6 y6 z6
            obtain ⟨X6, hS, hZ, hown⟩ := rebS hS (n1 := s₁.heap.size) (by rw [e0]; exact hk) X6 hS6 hgr6 hZ hown
            have hk : T6.heap.size ≤ T6.heap.size := Nat.le_refl _
            obtain ⟨w1, rfl, N6q, K6, hw1, iw1⟩ := hQ6
            have N6 := Fr.app N0 N6q
            have e6 : T6.heap = T6.heap := rfl
            have O6 := O0.keep K6 all0
            have hC := hC.trans hCr6
            refine goT (n := 71) (Ls' := #[.val (.int p1), .val (.int p2), .val (.int p3), .val (.int p4), .val (.int r1), .val (.int r2), .val (.int r3), .val (.int r4), .unset, .unset, .unset, .unset, .unset, .unset]) (st' := [w1]) st6 ?_
            refine goS (n := 73) (Ls' := #[.val (.int p1), .val (.int p2), .val (.int p3), .val (.int p4), .val (.int r1), .val (.int r2), .val (.int r3), .val (.int r4), .val w1, .unset, .unset, .unset, .unset, .unset]) (st' := []) (fun _ kz => XS.astore X6.here hx rfl (hb hby at_71) rfl hw1 (l' := #[.val (.int p1), .val (.int p2), .val (.int p3), .val (.int p4), .val (.int r1), .val (.int r2), .val (.int r3), .val (.int r4), .val w1, .unset, .unset, .unset, .unset, .unset]) (by rcases ref_cases hw1 with q | ⟨_, q⟩ <;> rw [q] <;> rfl) kz) ?_
            refine goS (n := 75) (Ls' := #[.val (.int p1), .val (.int p2), .val (.int p3), .val (.int p4), .val (.int r1), .val (.int r2), .val (.int r3), .val (.int r4), .val w1, .unset, .unset, .unset, .unset, .unset]) (st' := [(.int r2)]) (fun _ kz => XS.iload X6.here hx rfl (hb hby at_73) rfl kz) ?_
            refine goS (n := 76) (Ls' := #[.val (.int p1), .val (.int p2), .val (.int p3), .val (.int p4), .val (.int r1), .val (.int r2), .val (.int r3), .val (.int r4), .val w1, .unset, .unset, .unset, .unset, .unset]) (st' := [(.int p1), (.int r2)]) (fun _ kz => XS.iloadN X6.here hx rfl (hb hby at_75) rfl kz) ?_
            refine goS (n := 78) (Ls' := #[.val (.int p1), .val (.int p2), .val (.int p3), .val (.int p4), .val (.int r1), .val (.int r2), .val (.int r3), .val (.int r4), .val w1, .unset, .unset, .unset, .unset, .unset]) (st' := [(.int (32 : Int32)), (.int p1), (.int r2)]) (fun _ kz => XS.bipush X6.here hx rfl (hb hby at_76) kz) ?_
            refine goS (n := 79) (Ls' := #[.val (.int p1), .val (.int p2), .val (.int p3), .val (.int p4), .val (.int r1), .val (.int r2), .val (.int r3), .val (.int r4), .val w1, .unset, .unset, .unset, .unset, .unset]) (st' := [(.int (p1 &&& (32 : Int32))), (.int r2)]) (fun _ kz => XS.iand X6.here hx rfl (hb hby at_78) rfl kz) ?_
            have jn7 : ∀ r6 : Int32, r6 = bi (¬ ((p1 &&& (32 : Int32)) = (0 : Int32))) → Go p e below (PQH Z own_EL s room_1.cells room_1.slots (Q_law Z p1 p2 p3 p4 cs h0 n0)) T6 (mkF m 87 #[.val (.int p1), .val (.int p2), .val (.int p3), .val (.int p4), .val (.int r1), .val (.int r2), .val (.int r3), .val (.int r4), .val w1, .unset, .unset, .unset, .unset, .unset] [(.int r6), (.int r2)]) := by
              intro r6 h_r6
              refine goS (n := 88) (Ls' := #[.val (.int p1), .val (.int p2), .val (.int p3), .val (.int p4), .val (.int r1), .val (.int r2), .val (.int r3), .val (.int r4), .val w1, .unset, .unset, .unset, .unset, .unset]) (st' := [(.int p3), (.int r6), (.int r2)]) (fun _ kz => XS.iloadN X6.here hx rfl (hb hby at_87) rfl kz) ?_
              obtain ⟨_, _, ⟨T8, L8, k8, n8⟩, -, X8, hS8, hgr8, ⟨Lc8, hQ8, l8, y8, z8, hCr8⟩, st8⟩ := callSS X6 hx (y := (⟨"com/example/sixphase/sixphase/application/NavigationCasePrecedencePinLaw", "draw", "(ZZI)Ljava/lang/String;"⟩ : MethodName)) hown (mvT hZ (hw _ (List.mem_of_getElem? (i := 0) rfl))) (mvT hZ (hw _ (List.mem_of_getElem? (i := 1) rfl))) (mvT hZ (hw _ (List.mem_of_getElem? (i := 2) rfl))) (mvT hZ (hw _ (List.mem_of_getElem? (i := 3) rfl))) (by decide) (backOfSH (W := 0) (rm_draw l Z a0 hw [] r2 r6 p3 cs T6.heap n0 O6 S_CS hcs) hZ (hw _ (List.mem_of_getElem? (i := 3) rfl)) (hw _ (List.mem_of_getElem? (i := 2) rfl)) (by decide) (by decide) hEL hC.1) (g := (mkF m 88 #[.val (.int p1), .val (.int p2), .val (.int p3), .val (.int p4), .val (.int r1), .val (.int r2), .val (.int r3), .val (.int r4), .val w1, .unset, .unset, .unset, .unset, .unset] [(.int p3), (.int r6), (.int r2)])) rfl (by rw [hml]; rfl) (argsL := [(.int r2), (.int r6), (.int p3)]) (rest := []) (lenOf pd_6 rfl) rfl (by show 2 * 0 + _ ≤ _; exact Nat.le_of_eq rfl) (hb hby at_88) (fun _ _ => ⟨rfl, e6, (Nat.le_of_ble_eq_true rfl), (Nat.le_of_ble_eq_true rfl)⟩)
              dsimp only [Pt.U, Pt.locs, Pt.cells, Pt.slots] at X8 l8 y8 z8 st8 hQ8 hS8 hgr8 hCr8
              subst l8 y8 z8
              obtain ⟨X8, hS, hZ, hown⟩ := rebS hS (n1 := T6.heap.size) (by rw [e6]; exact hk) X8 hS8 hgr8 hZ hown
              have hk : T8.heap.size ≤ T8.heap.size := Nat.le_refl _
              obtain ⟨w2, rfl, N8q, K8, hw2, iw2⟩ := hQ8
              have N8 := Fr.app N6 N8q
              have e8 : T8.heap = T8.heap := rfl
              have O8 := O6.keep K8 all0
              have hC := hC.trans hCr8
              refine goT (n := 91) (Ls' := #[.val (.int p1), .val (.int p2), .val (.int p3), .val (.int p4), .val (.int r1), .val (.int r2), .val (.int r3), .val (.int r4), .val w1, .unset, .unset, .unset, .unset, .unset]) (st' := [w2]) st8 ?_
              refine goS (n := 93) (Ls' := #[.val (.int p1), .val (.int p2), .val (.int p3), .val (.int p4), .val (.int r1), .val (.int r2), .val (.int r3), .val (.int r4), .val w1, .val w2, .unset, .unset, .unset, .unset]) (st' := []) (fun _ kz => XS.astore X8.here hx rfl (hb hby at_91) rfl hw2 (l' := #[.val (.int p1), .val (.int p2), .val (.int p3), .val (.int p4), .val (.int r1), .val (.int r2), .val (.int r3), .val (.int r4), .val w1, .val w2, .unset, .unset, .unset, .unset]) (by rcases ref_cases hw2 with q | ⟨_, q⟩ <;> rw [q] <;> rfl) kz) ?_
              refine goS (n := 95) (Ls' := #[.val (.int p1), .val (.int p2), .val (.int p3), .val (.int p4), .val (.int r1), .val (.int r2), .val (.int r3), .val (.int r4), .val w1, .val w2, .unset, .unset, .unset, .unset]) (st' := [(.int r3)]) (fun _ kz => XS.iload X8.here hx rfl (hb hby at_93) rfl kz) ?_
              refine goS (n := 96) (Ls' := #[.val (.int p1), .val (.int p2), .val (.int p3), .val (.int p4), .val (.int r1), .val (.int r2), .val (.int r3), .val (.int r4), .val w1, .val w2, .unset, .unset, .unset, .unset]) (st' := [(.int p1), (.int r3)]) (fun _ kz => XS.iloadN X8.here hx rfl (hb hby at_95) rfl kz) ?_
              refine goS (n := 98) (Ls' := #[.val (.int p1), .val (.int p2), .val (.int p3), .val (.int p4), .val (.int r1), .val (.int r2), .val (.int r3), .val (.int r4), .val w1, .val w2, .unset, .unset, .unset, .unset]) (st' := [(.int (64 : Int32)), (.int p1), (.int r3)]) (fun _ kz => XS.bipush X8.here hx rfl (hb hby at_96) kz) ?_
              refine goS (n := 99) (Ls' := #[.val (.int p1), .val (.int p2), .val (.int p3), .val (.int p4), .val (.int r1), .val (.int r2), .val (.int r3), .val (.int r4), .val w1, .val w2, .unset, .unset, .unset, .unset]) (st' := [(.int (p1 &&& (64 : Int32))), (.int r3)]) (fun _ kz => XS.iand X8.here hx rfl (hb hby at_98) rfl kz) ?_
              have jn9 : ∀ r7 : Int32, r7 = bi (¬ ((p1 &&& (64 : Int32)) = (0 : Int32))) → Go p e below (PQH Z own_EL s room_1.cells room_1.slots (Q_law Z p1 p2 p3 p4 cs h0 n0)) T8 (mkF m 107 #[.val (.int p1), .val (.int p2), .val (.int p3), .val (.int p4), .val (.int r1), .val (.int r2), .val (.int r3), .val (.int r4), .val w1, .val w2, .unset, .unset, .unset, .unset] [(.int r7), (.int r3)]) := by
                intro r7 h_r7
                refine goS (n := 108) (Ls' := #[.val (.int p1), .val (.int p2), .val (.int p3), .val (.int p4), .val (.int r1), .val (.int r2), .val (.int r3), .val (.int r4), .val w1, .val w2, .unset, .unset, .unset, .unset]) (st' := [(.int p4), (.int r7), (.int r3)]) (fun _ kz => XS.iloadN X8.here hx rfl (hb hby at_107) rfl kz) ?_
                obtain ⟨_, _, ⟨T10, L10, k10, n10⟩, -, X10, hS10, hgr10, ⟨Lc10, hQ10, l10, y10, z10, hCr10⟩, st10⟩ := callSS X8 hx (y := (⟨"com/example/sixphase/sixphase/application/NavigationCasePrecedencePinLaw", "draw", "(ZZI)Ljava/lang/String;"⟩ : MethodName)) hown (mvT hZ (hw _ (List.mem_of_getElem? (i := 0) rfl))) (mvT hZ (hw _ (List.mem_of_getElem? (i := 1) rfl))) (mvT hZ (hw _ (List.mem_of_getElem? (i := 2) rfl))) (mvT hZ (hw _ (List.mem_of_getElem? (i := 3) rfl))) (by decide) (backOfSH (W := 0) (rm_draw l Z a0 hw [] r3 r7 p4 cs T8.heap n0 O8 S_CS hcs) hZ (hw _ (List.mem_of_getElem? (i := 3) rfl)) (hw _ (List.mem_of_getElem? (i := 2) rfl)) (by decide) (by decide) hEL hC.1) (g := (mkF m 108 #[.val (.int p1), .val (.int p2), .val (.int p3), .val (.int p4), .val (.int r1), .val (.int r2), .val (.int r3), .val (.int r4), .val w1, .val w2, .unset, .unset, .unset, .unset] [(.int p4), (.int r7), (.int r3)])) rfl (by rw [hml]; rfl) (argsL := [(.int r3), (.int r7), (.int p4)]) (rest := []) (lenOf pd_6 rfl) rfl (by show 2 * 0 + _ ≤ _; exact Nat.le_of_eq rfl) (hb hby at_108) (fun _ _ => ⟨rfl, e8, (Nat.le_of_ble_eq_true rfl), (Nat.le_of_ble_eq_true rfl)⟩)
                dsimp only [Pt.U, Pt.locs, Pt.cells, Pt.slots] at X10 l10 y10 z10 st10 hQ10 hS10 hgr10 hCr10
                subst l10 y10 z10
                obtain ⟨X10, hS, hZ, hown⟩ := rebS hS (n1 := T8.heap.size) (by rw [e8]; exact hk) X10 hS10 hgr10 hZ hown
                have hk : T10.heap.size ≤ T10.heap.size := Nat.le_refl _
                obtain ⟨w3, rfl, N10q, K10, hw3, iw3⟩ := hQ10
                have N10 := Fr.app N8 N10q
                have e10 : T10.heap = T10.heap := rfl
                have O10 := O8.keep K10 all0
                have hC := hC.trans hCr10
                refine goT (n := 111) (Ls' := #[.val (.int p1), .val (.int p2), .val (.int p3), .val (.int p4), .val (.int r1), .val (.int r2), .val (.int r3), .val (.int r4), .val w1, .val w2, .unset, .unset, .unset, .unset]) (st' := [w3]) st10 ?_
                refine goS (n := 113) (Ls' := #[.val (.int p1), .val (.int p2), .val (.int p3), .val (.int p4), .val (.int r1), .val (.int r2), .val (.int r3), .val (.int r4), .val w1, .val w2, .val w3, .unset, .unset, .unset]) (st' := []) (fun _ kz => XS.astore X10.here hx rfl (hb hby at_111) rfl hw3 (l' := #[.val (.int p1), .val (.int p2), .val (.int p3), .val (.int p4), .val (.int r1), .val (.int r2), .val (.int r3), .val (.int r4), .val w1, .val w2, .val w3, .unset, .unset, .unset]) (by rcases ref_cases hw3 with q | ⟨_, q⟩ <;> rw [q] <;> rfl) kz) ?_
                refine goS (n := 114) (Ls' := #[.val (.int p1), .val (.int p2), .val (.int p3), .val (.int p4), .val (.int r1), .val (.int r2), .val (.int r3), .val (.int r4), .val w1, .val w2, .val w3, .unset, .unset, .unset]) (st' := [(.int p4)]) (fun _ kz => XS.iloadN X10.here hx rfl (hb hby at_113) rfl kz) ?_
                refine goS (n := 116) (Ls' := #[.val (.int p1), .val (.int p2), .val (.int p3), .val (.int p4), .val (.int r1), .val (.int r2), .val (.int r3), .val (.int r4), .val w1, .val w2, .val w3, .unset, .unset, .unset]) (st' := [(.int (8 : Int32)), (.int p4)]) (fun _ kz => XS.bipush X10.here hx rfl (hb hby at_114) kz) ?_
                refine goS (n := 117) (Ls' := #[.val (.int p1), .val (.int p2), .val (.int p3), .val (.int p4), .val (.int r1), .val (.int r2), .val (.int r3), .val (.int r4), .val w1, .val w2, .val w3, .unset, .unset, .unset]) (st' := [(.int ((p4.toUInt32 >>> ((8 : Int32) &&& 31).toUInt32).toInt32))]) (fun _ kz => XS.iushr X10.here hx rfl (hb hby at_116) rfl kz) ?_
                refine goS (n := 120) (Ls' := #[.val (.int p1), .val (.int p2), .val (.int p3), .val (.int p4), .val (.int r1), .val (.int r2), .val (.int r3), .val (.int r4), .val w1, .val w2, .val w3, .unset, .unset, .unset]) (st' := [(.int (255 : Int32)), (.int ((p4.toUInt32 >>> ((8 : Int32) &&& 31).toUInt32).toInt32))]) (fun _ kz => XS.sipush X10.here hx rfl (hb hby at_117) kz) ?_
                refine goS (n := 121) (Ls' := #[.val (.int p1), .val (.int p2), .val (.int p3), .val (.int p4), .val (.int r1), .val (.int r2), .val (.int r3), .val (.int r4), .val w1, .val w2, .val w3, .unset, .unset, .unset]) (st' := [(.int (((p4.toUInt32 >>> ((8 : Int32) &&& 31).toUInt32).toInt32) &&& (255 : Int32)))]) (fun _ kz => XS.iand X10.here hx rfl (hb hby at_120) rfl kz) ?_
                refine goS (n := 122) (Ls' := #[.val (.int p1), .val (.int p2), .val (.int p3), .val (.int p4), .val (.int r1), .val (.int r2), .val (.int r3), .val (.int r4), .val w1, .val w2, .val w3, .unset, .unset, .unset]) (st' := [(.int ((((p4.toUInt32 >>> ((8 : Int32) &&& 31).toUInt32).toInt32) &&& (255 : Int32)).toUInt32.toUInt16.toUInt32.toInt32))]) (fun _ kz => XS.i2c X10.here hx rfl (hb hby at_121) rfl kz) ?_
                obtain ⟨_, _, ⟨T11, L11, k11, n11⟩, -, X11, ⟨Lc11, hQ11, l11, y11, z11⟩, st11⟩ := Jvm.LawKit.callS X10 hx (y := (⟨"java/lang/String", "valueOf", "(C)Ljava/lang/String;"⟩ : MethodName)) hown (mvT hZ (hw _ (List.mem_of_getElem? (i := 4) rfl))) (mvT hZ (hw _ (List.mem_of_getElem? (i := 5) rfl))) (mvT hZ (hw _ (List.mem_of_getElem? (i := 6) rfl))) (mvT hZ (hw _ (List.mem_of_getElem? (i := 7) rfl))) (by decide) (backOf (W := 0) (rm_valC l Z a0 hw [] ((((p4.toUInt32 >>> ((8 : Int32) &&& 31).toUInt32).toInt32) &&& (255 : Int32)).toUInt32.toUInt16.toUInt32.toInt32) cs T10.heap n0 O10 S_CS hcs (own_c255 _)) hZ (hw _ (List.mem_of_getElem? (i := 7) rfl)) (hw _ (List.mem_of_getElem? (i := 6) rfl)) (by decide) (by decide)) (g := (mkF m 122 #[.val (.int p1), .val (.int p2), .val (.int p3), .val (.int p4), .val (.int r1), .val (.int r2), .val (.int r3), .val (.int r4), .val w1, .val w2, .val w3, .unset, .unset, .unset] [(.int ((((p4.toUInt32 >>> ((8 : Int32) &&& 31).toUInt32).toInt32) &&& (255 : Int32)).toUInt32.toUInt16.toUInt32.toInt32))])) rfl (by rw [hml]; rfl) (argsL := [(.int ((((p4.toUInt32 >>> ((8 : Int32) &&& 31).toUInt32).toInt32) &&& (255 : Int32)).toUInt32.toUInt16.toUInt32.toInt32))]) (rest := []) (lenOf pd_5 rfl) rfl (by show 2 * 0 + _ ≤ _; exact Nat.le_of_eq rfl) (hb hby at_122) (fun _ _ => ⟨rfl, e10, (Nat.le_of_ble_eq_true rfl), (Nat.le_of_ble_eq_true rfl)⟩)
                dsimp only [Pt.U, Pt.locs, Pt.cells, Pt.slots] at X11 l11 y11 z11 st11 hQ11
                subst l11 y11 z11
                obtain ⟨a11, t11, kt11, rfl, N11q, K11, g_a11, za11, E_a11, F_value_a11, F_coder_a11, g_t11, V_t11⟩ := hQ11
                have N11 := Fr.app N10 N11q
                have e11 : T11.heap = T11.heap := rfl
                have O11 := O10.keep K11 all0
                have hk := Nat.le_trans hk K11.1
                have sfw : ∀ x ∈ [], Safe Z own_EL T10.vm T10.heap x := sf0
                have hC := hC.trans (CHr.keep K11 sfw hC.1)
                refine goS (n := 125) (Ls' := #[.val (.int p1), .val (.int p2), .val (.int p3), .val (.int p4), .val (.int r1), .val (.int r2), .val (.int r3), .val (.int r4), .val w1, .val w2, .val w3, .unset, .unset, .unset]) (st' := [(.ref a11)]) st11 ?_
                refine goS (n := 127) (Ls' := #[.val (.int p1), .val (.int p2), .val (.int p3), .val (.int p4), .val (.int r1), .val (.int r2), .val (.int r3), .val (.int r4), .val w1, .val w2, .val w3, .val (.ref a11), .unset, .unset]) (st' := []) (fun _ kz => XS.astore X11.here hx rfl (hb hby at_125) rfl rfl (l' := #[.val (.int p1), .val (.int p2), .val (.int p3), .val (.int p4), .val (.int r1), .val (.int r2), .val (.int r3), .val (.int r4), .val w1, .val w2, .val w3, .val (.ref a11), .unset, .unset]) rfl kz) ?_
                obtain ⟨T12, h12, X12, e12, E12, A12, D12, -, st12⟩ := newO X11 hx hZ hown (hw _ (List.mem_of_getElem? (i := 30) rfl)) (hw _ (List.mem_of_getElem? (i := 31) rfl)) (hw _ (List.mem_of_getElem? (i := 32) rfl)) e11 (g := (mkF m 127 #[.val (.int p1), .val (.int p2), .val (.int p3), .val (.int p4), .val (.int r1), .val (.int r2), .val (.int r3), .val (.int r4), .val w1, .val w2, .val w3, .val (.ref a11), .unset, .unset] [])) rfl (hb hby at_127) (by decide) (by decide)
                obtain ⟨b12, g12⟩ : ∃ z, z = T11.heap.size := ⟨_, rfl⟩
                rw [← g12] at A12 D12 st12
                have g_b12 : n0 ≤ b12 := Nat.le_trans (O11.1 ▸ O11.2.1) (Nat.le_of_eq g12.symm)
                have SF_b12 : Safe Z own_EL T10.vm T11.heap b12 := Safe.new (Nat.le_of_eq g12.symm)
                have ne_a11_b12 : a11 ≠ b12 := Nat.ne_of_lt (Nat.lt_of_lt_of_le E_a11.lt (Nat.le_of_eq g12.symm))
                have ne_t11_b12 : t11 ≠ b12 := Nat.ne_of_lt (Nat.lt_of_lt_of_le V_t11.lt (Nat.le_of_eq g12.symm))
                have hk := Nat.le_trans hk E12.1
                have SF_b12 := Safe.ext E12 hC.1 SF_b12
                have hC := hC.trans (CHr.ext E12 hC.1)
                have E_a11 : Exa Z h12 a11 "java/lang/String" := E_a11.ext E12
                have F_value_a11 : Fld Z h12 a11 "java/lang/String" "value" "[B" (.ref t11) := F_value_a11.ext E12
                have F_coder_a11 : Fld Z h12 a11 "java/lang/String" "coder" "B" (.int (0 : Int32)) := F_coder_a11.ext E12
                have V_t11 : Arv Z h12 t11 kt11 .byte (1 : Int32) [(.int (nar .byte (((((p4.toUInt32 >>> ((8 : Int32) &&& 31).toUInt32).toInt32) &&& (255 : Int32)).toUInt32.toUInt16.toUInt32.toInt32)).toInt8.toInt32))] (.int (0 : Int32)) := V_t11.ext E12
                have F_fromAction_b12 : Fld Z h12 b12 "com/example/sixphase/sixphase/application/NavigationCase" "fromAction" "Ljava/lang/String;" .null := D12 (Or.inr (hw _ (List.mem_of_getElem? (i := 38) rfl))) (ty := (.object "java/lang/String")) (by decide)
                have F_fromOutcome_b12 : Fld Z h12 b12 "com/example/sixphase/sixphase/application/NavigationCase" "fromOutcome" "Ljava/lang/String;" .null := D12 (Or.inr (hw _ (List.mem_of_getElem? (i := 40) rfl))) (ty := (.object "java/lang/String")) (by decide)
                have F_condition_b12 : Fld Z h12 b12 "com/example/sixphase/sixphase/application/NavigationCase" "condition" "Ljava/lang/String;" .null := D12 (Or.inr (hw _ (List.mem_of_getElem? (i := 42) rfl))) (ty := (.object "java/lang/String")) (by decide)
                have F_toViewId_b12 : Fld Z h12 b12 "com/example/sixphase/sixphase/application/NavigationCase" "toViewId" "Ljava/lang/String;" .null := D12 (Or.inr (hw _ (List.mem_of_getElem? (i := 44) rfl))) (ty := (.object "java/lang/String")) (by decide)
                have F_redirect_b12 : Fld Z h12 b12 "com/example/sixphase/sixphase/application/NavigationCase" "redirect" "Z" (.int (0 : Int32)) := D12 (Or.inr (hw _ (List.mem_of_getElem? (i := 46) rfl))) (ty := .boolean) (by decide)
                have F_redirectParameters_b12 : Fld Z h12 b12 "com/example/sixphase/sixphase/application/NavigationCase" "redirectParameters" "Ljava/util/Map;" .null := D12 (Or.inr (hw _ (List.mem_of_getElem? (i := 48) rfl))) (ty := (.object "java/util/Map")) (by decide)
                have E_b12 : Exa Z h12 b12 "com/example/sixphase/sixphase/application/NavigationCase" := A12
                have O12 := O11.ext E12
                refine goS (n := 130) (Ls' := #[.val (.int p1), .val (.int p2), .val (.int p3), .val (.int p4), .val (.int r1), .val (.int r2), .val (.int r3), .val (.int r4), .val w1, .val w2, .val w3, .val (.ref a11), .unset, .unset]) (st' := [(.ref b12)]) st12 ?_
                refine goS (n := 131) (Ls' := #[.val (.int p1), .val (.int p2), .val (.int p3), .val (.int p4), .val (.int r1), .val (.int r2), .val (.int r3), .val (.int r4), .val w1, .val w2, .val w3, .val (.ref a11), .unset, .unset]) (st' := [(.ref b12), (.ref b12)]) (fun _ kz => XS.dup X12.here hx rfl (hb hby at_130) rfl rfl kz) ?_
                refine goS (n := 133) (Ls' := #[.val (.int p1), .val (.int p2), .val (.int p3), .val (.int p4), .val (.int r1), .val (.int r2), .val (.int r3), .val (.int r4), .val w1, .val w2, .val w3, .val (.ref a11), .unset, .unset]) (st' := [w1, (.ref b12), (.ref b12)]) (fun _ kz => XS.aload X12.here hx rfl (hb hby at_131) rfl hw1 kz) ?_
                refine goS (n := 135) (Ls' := #[.val (.int p1), .val (.int p2), .val (.int p3), .val (.int p4), .val (.int r1), .val (.int r2), .val (.int r3), .val (.int r4), .val w1, .val w2, .val w3, .val (.ref a11), .unset, .unset]) (st' := [w2, w1, (.ref b12), (.ref b12)]) (fun _ kz => XS.aload X12.here hx rfl (hb hby at_133) rfl hw2 kz) ?_
                refine goS (n := 137) (Ls' := #[.val (.int p1), .val (.int p2), .val (.int p3), .val (.int p4), .val (.int r1), .val (.int r2), .val (.int r3), .val (.int r4), .val w1, .val w2, .val w3, .val (.ref a11), .unset, .unset]) (st' := [w3, w2, w1, (.ref b12), (.ref b12)]) (fun _ kz => XS.aload X12.here hx rfl (hb hby at_135) rfl hw3 kz) ?_
                refine goS (n := 139) (Ls' := #[.val (.int p1), .val (.int p2), .val (.int p3), .val (.int p4), .val (.int r1), .val (.int r2), .val (.int r3), .val (.int r4), .val w1, .val w2, .val w3, .val (.ref a11), .unset, .unset]) (st' := [(.ref a11), w3, w2, w1, (.ref b12), (.ref b12)]) (fun _ kz => XS.aload X12.here hx rfl (hb hby at_137) rfl rfl kz) ?_
                refine goS (n := 141) (Ls' := #[.val (.int p1), .val (.int p2), .val (.int p3), .val (.int p4), .val (.int r1), .val (.int r2), .val (.int r3), .val (.int r4), .val w1, .val w2, .val w3, .val (.ref a11), .unset, .unset]) (st' := [(.int r4), (.ref a11), w3, w2, w1, (.ref b12), (.ref b12)]) (fun _ kz => XS.iload X12.here hx rfl (hb hby at_139) rfl kz) ?_
                refine goS (n := 142) (Ls' := #[.val (.int p1), .val (.int p2), .val (.int p3), .val (.int p4), .val (.int r1), .val (.int r2), .val (.int r3), .val (.int r4), .val w1, .val w2, .val w3, .val (.ref a11), .unset, .unset]) (st' := [.null, (.int r4), (.ref a11), w3, w2, w1, (.ref b12), (.ref b12)]) (fun _ kz => XS.aconstNull X12.here hx rfl (hb hby at_141) kz) ?_
                obtain ⟨_, _, ⟨T13, L13, k13, n13⟩, -, X13, ⟨Lc13, hQ13, l13, y13, z13⟩, st13⟩ := X12.specialBack hx (y := (⟨"com/example/sixphase/sixphase/application/NavigationCase", "<init>", "(Ljava/lang/String;Ljava/lang/String;Ljava/lang/String;Ljava/lang/String;ZLjava/util/Map;)V"⟩ : MethodName)) rfl hown (mvT hZ (hw _ (List.mem_of_getElem? (i := 33) rfl))) (mvT hZ (hw _ (List.mem_of_getElem? (i := 34) rfl))) (mvT hZ (hw _ (List.mem_of_getElem? (i := 35) rfl))) (by decide) (backOf (W := 1) (rm_init l Z a0 hw [] b12 w1 w2 w3 a11 r4 h12 n0 O12 hw1 hw2 hw3 (by rw [h_r4]; exact bi01 _) E_b12 F_fromAction_b12 F_fromOutcome_b12 F_condition_b12 F_toViewId_b12 F_redirect_b12 F_redirectParameters_b12 g_b12) hZ (hw _ (List.mem_of_getElem? (i := 35) rfl)) (hw _ (List.mem_of_getElem? (i := 32) rfl)) (by decide) (by decide)) (g := (mkF m 142 #[.val (.int p1), .val (.int p2), .val (.int p3), .val (.int p4), .val (.int r1), .val (.int r2), .val (.int r3), .val (.int r4), .val w1, .val w2, .val w3, .val (.ref a11), .unset, .unset] [.null, (.int r4), (.ref a11), w3, w2, w1, (.ref b12), (.ref b12)])) rfl (by rw [hml]; rfl) (Steps.refl _) (a := b12) (argsL := [w1, w2, w3, (.ref a11), (.int r4), .null]) (rest := [(.ref b12)]) (lenOf pd_7 rfl) rfl (by show 2 * 0 + _ ≤ _; exact Nat.le_of_eq rfl) (hb hby at_142) (fun _ _ => ⟨rfl, e12, (Nat.le_of_ble_eq_true rfl), (Nat.le_of_ble_eq_true rfl)⟩)
                dsimp only [Pt.U, Pt.locs, Pt.cells, Pt.slots] at X13 l13 y13 z13 st13 hQ13
                subst l13 y13 z13
                obtain ⟨rfl, N13q, K13, F_fromAction_b12, F_fromOutcome_b12⟩ := hQ13
                have N13 := Fr.app N11 N13q
                have e13 : T13.heap = T13.heap := rfl
                have O13 := O12.keep K13 (allS g_b12 all0)
                have hk := Nat.le_trans hk K13.1
                have sfw : ∀ x ∈ [b12], Safe Z own_EL T10.vm h12 x := (sfS SF_b12 sf0)
                have SF_b12 := Safe.keep K13 sfw hC.1 SF_b12
                have hC := hC.trans (CHr.keep K13 sfw hC.1)
                have E_a11 : Exa Z T13.heap a11 "java/lang/String" := E_a11.keep K13
                have F_value_a11 : Fld Z T13.heap a11 "java/lang/String" "value" "[B" (.ref t11) := F_value_a11.keep K13 (ninS ne_a11_b12 nin0)
                have F_coder_a11 : Fld Z T13.heap a11 "java/lang/String" "coder" "B" (.int (0 : Int32)) := F_coder_a11.keep K13 (ninS ne_a11_b12 nin0)
                have V_t11 : Arv Z T13.heap t11 kt11 .byte (1 : Int32) [(.int (nar .byte (((((p4.toUInt32 >>> ((8 : Int32) &&& 31).toUInt32).toInt32) &&& (255 : Int32)).toUInt32.toUInt16.toUInt32.toInt32)).toInt8.toInt32))] (.int (0 : Int32)) := V_t11.keep K13 (ninS ne_t11_b12 nin0)
                have E_b12 : Exa Z T13.heap b12 "com/example/sixphase/sixphase/application/NavigationCase" := E_b12.keep K13
                refine goT (n := 145) (Ls' := #[.val (.int p1), .val (.int p2), .val (.int p3), .val (.int p4), .val (.int r1), .val (.int r2), .val (.int r3), .val (.int r4), .val w1, .val w2, .val w3, .val (.ref a11), .unset, .unset]) (st' := [(.ref b12)]) st13 ?_
                refine goS (n := 147) (Ls' := #[.val (.int p1), .val (.int p2), .val (.int p3), .val (.int p4), .val (.int r1), .val (.int r2), .val (.int r3), .val (.int r4), .val w1, .val w2, .val w3, .val (.ref a11), .val (.ref b12), .unset]) (st' := []) (fun _ kz => XS.astore X13.here hx rfl (hb hby at_145) rfl rfl (l' := #[.val (.int p1), .val (.int p2), .val (.int p3), .val (.int p4), .val (.int r1), .val (.int r2), .val (.int r3), .val (.int r4), .val w1, .val w2, .val w3, .val (.ref a11), .val (.ref b12), .unset]) rfl kz) ?_
                refine goS (n := 149) (Ls' := #[.val (.int p1), .val (.int p2), .val (.int p3), .val (.int p4), .val (.int r1), .val (.int r2), .val (.int r3), .val (.int r4), .val w1, .val w2, .val w3, .val (.ref a11), .val (.ref b12), .unset]) (st' := [(.int r1)]) (fun _ kz => XS.iload X13.here hx rfl (hb hby at_147) rfl kz) ?_
                have jn14 : ∀ e1 : Int32, e1 = (if r1 = (0 : Int32) then (1 : Int32) else 0) → Go p e below (PQH Z own_EL s room_1.cells room_1.slots (Q_law Z p1 p2 p3 p4 cs h0 n0)) T13 (mkF m 157 #[.val (.int p1), .val (.int p2), .val (.int p3), .val (.int p4), .val (.int r1), .val (.int r2), .val (.int r3), .val (.int r4), .val w1, .val w2, .val w3, .val (.ref a11), .val (.ref b12), .unset] [(.int e1)]) := by
                  intro e1 h_e1
                  refine goS (n := 159) (Ls' := #[.val (.int p1), .val (.int p2), .val (.int p3), .val (.int p4), .val (.int r1), .val (.int r2), .val (.int r3), .val (.int r4), .val w1, .val w2, .val w3, .val (.ref a11), .val (.ref b12), .unset]) (st' := [(.int r2), (.int e1)]) (fun _ kz => XS.iload X13.here hx rfl (hb hby at_157) rfl kz) ?_
                  have jn15 : ∀ e2 : Int32, e2 = (if r2 = (0 : Int32) then (2 : Int32) else 0) → Go p e below (PQH Z own_EL s room_1.cells room_1.slots (Q_law Z p1 p2 p3 p4 cs h0 n0)) T13 (mkF m 167 #[.val (.int p1), .val (.int p2), .val (.int p3), .val (.int p4), .val (.int r1), .val (.int r2), .val (.int r3), .val (.int r4), .val w1, .val w2, .val w3, .val (.ref a11), .val (.ref b12), .unset] [(.int e2), (.int e1)]) := by
                    intro e2 h_e2
                    refine goS (n := 168) (Ls' := #[.val (.int p1), .val (.int p2), .val (.int p3), .val (.int p4), .val (.int r1), .val (.int r2), .val (.int r3), .val (.int r4), .val w1, .val w2, .val w3, .val (.ref a11), .val (.ref b12), .unset]) (st' := [(.int (e1 + e2))]) (fun _ kz => XS.iadd X13.here hx rfl (hb hby at_167) rfl kz) ?_
                    refine goS (n := 170) (Ls' := #[.val (.int p1), .val (.int p2), .val (.int p3), .val (.int p4), .val (.int r1), .val (.int r2), .val (.int r3), .val (.int r4), .val w1, .val w2, .val w3, .val (.ref a11), .val (.ref b12), .val (.int (e1 + e2))]) (st' := []) (fun _ kz => XS.istore X13.here hx rfl (hb hby at_168) rfl (l' := #[.val (.int p1), .val (.int p2), .val (.int p3), .val (.int p4), .val (.int r1), .val (.int r2), .val (.int r3), .val (.int r4), .val w1, .val w2, .val w3, .val (.ref a11), .val (.ref b12), .val (.int (e1 + e2))]) rfl kz) ?_
                    refine goS (n := 172) (Ls' := #[.val (.int p1), .val (.int p2), .val (.int p3), .val (.int p4), .val (.int r1), .val (.int r2), .val (.int r3), .val (.int r4), .val w1, .val w2, .val w3, .val (.ref a11), .val (.ref b12), .val (.int (e1 + e2))]) (st' := [(.ref b12)]) (fun _ kz => XS.aload X13.here hx rfl (hb hby at_170) rfl rfl kz) ?_
                    obtain ⟨cq16, kq16, q16a, q16b, q16c⟩ := isOf hZ e13 E_b12
                    obtain ⟨_, _, ⟨T16, L16, k16, n16⟩, -, X16, ⟨Lc16, hQ16, l16, y16, z16⟩, st16⟩ := X13.virtualBack hx (y := (⟨"com/example/sixphase/sixphase/application/NavigationCase", "precedence", "()I"⟩ : MethodName)) (z := (⟨"com/example/sixphase/sixphase/application/NavigationCase", "precedence", "()I"⟩ : MethodName)) hown (mvT hZ (hw _ (List.mem_of_getElem? (i := 49) rfl))) (mvT hZ (hw _ (List.mem_of_getElem? (i := 50) rfl))) (notFace_of_selects (args := #[]) (mvT hZ (hw _ (List.mem_of_getElem? (i := 52) rfl)))) (mvT hZ (hw _ (List.mem_of_getElem? (i := 52) rfl))) (mvT hZ (hw _ (List.mem_of_getElem? (i := 51) rfl))) (by decide) (backOf (W := 0) (rm_prec l Z a0 hw [] b12 w1 w2 T13.heap n0 O13 hw1 hw2 F_fromAction_b12 F_fromOutcome_b12) hZ (hw _ (List.mem_of_getElem? (i := 53) rfl)) (hw _ (List.mem_of_getElem? (i := 32) rfl)) (by decide) (by decide)) q16a q16c (g := (mkF m 172 #[.val (.int p1), .val (.int p2), .val (.int p3), .val (.int p4), .val (.int r1), .val (.int r2), .val (.int r3), .val (.int r4), .val w1, .val w2, .val w3, .val (.ref a11), .val (.ref b12), .val (.int (e1 + e2))] [(.ref b12)])) rfl (by rw [hml]; rfl) (Steps.refl _) (argsL := []) (rest := []) (lenOf pd_8 rfl) rfl (by show 2 * 0 + _ ≤ _; exact Nat.le_of_eq rfl) (hb hby at_172) (fun _ _ => ⟨rfl, e13, (Nat.le_of_ble_eq_true rfl), (Nat.le_of_ble_eq_true rfl)⟩)
                    dsimp only [Pt.U, Pt.locs, Pt.cells, Pt.slots] at X16 l16 y16 z16 st16 hQ16
                    subst l16 y16 z16
                    obtain ⟨v16, N16q, e16⟩ := hQ16
                    obtain ⟨rp, qp⟩ : ∃ r : Int32, r = ((if w1 = .null then (1 : Int32) else 0) + (if w2 = .null then (2 : Int32) else 0)) := ⟨_, rfl⟩
                    rw [← qp] at v16
                    subst v16
                    have hrp : rp = (e1 + e2) := by rw [qp, h_e1, h_e2]; simp only [iw1, iw2]
                    have N16 := Fr.app N13 N16q
                    refine goT (n := 175) (Ls' := #[.val (.int p1), .val (.int p2), .val (.int p3), .val (.int p4), .val (.int r1), .val (.int r2), .val (.int r3), .val (.int r4), .val w1, .val w2, .val w3, .val (.ref a11), .val (.ref b12), .val (.int (e1 + e2))]) (st' := [(.int rp)]) st16 ?_
                    refine goS (n := 177) (Ls' := #[.val (.int p1), .val (.int p2), .val (.int p3), .val (.int p4), .val (.int r1), .val (.int r2), .val (.int r3), .val (.int r4), .val w1, .val w2, .val w3, .val (.ref a11), .val (.ref b12), .val (.int (e1 + e2))]) (st' := [(.int (e1 + e2)), (.int rp)]) (fun _ kz => XS.iload X16.here hx rfl (hb hby at_175) rfl kz) ?_
                    refine goS (n := 180) (Ls' := #[.val (.int p1), .val (.int p2), .val (.int p3), .val (.int p4), .val (.int r1), .val (.int r2), .val (.int r3), .val (.int r4), .val w1, .val w2, .val w3, .val (.ref a11), .val (.ref b12), .val (.int (e1 + e2))]) (st' := []) (fun _ kz => XS.icmpNo X16.here hx rfl (hb hby at_177) rfl (teq hrp).2 kz) ?_
                    refine goS (n := 181) (Ls' := #[.val (.int p1), .val (.int p2), .val (.int p3), .val (.int p4), .val (.int r1), .val (.int r2), .val (.int r3), .val (.int r4), .val w1, .val w2, .val w3, .val (.ref a11), .val (.ref b12), .val (.int (e1 + e2))]) (st' := [(.int (1 : Int32))]) (fun _ kz => XS.iconst X16.here hx rfl (hb hby at_180) kz) ?_
                    refine goS (n := 185) (Ls' := #[.val (.int p1), .val (.int p2), .val (.int p3), .val (.int p4), .val (.int r1), .val (.int r2), .val (.int r3), .val (.int r4), .val w1, .val w2, .val w3, .val (.ref a11), .val (.ref b12), .val (.int (e1 + e2))]) (st' := [(.int (1 : Int32))]) (fun _ kz => XS.goto X16.here hx rfl (pc0 := 181) (pc' := 185) rfl (hb hby at_181) (by decide) (by decide) kz) ?_
                    exact goRetH X16 hx hlk hS (by rw [e16]; exact hk) hZ hEL (by rw [hh, e16]; exact hC) Bd.returns (narZ (Or.inr rfl)) (Or.inl ⟨rfl, Or.inr (Or.inl rfl), _, rfl⟩) (hb hby at_185) (by decide) (by decide) (by rw [e16]; exact ⟨rfl, N16⟩)
                  by_cases hc17 : r2 = (0 : Int32)
                  · refine goS (n := 166) (Ls' := #[.val (.int p1), .val (.int p2), .val (.int p3), .val (.int p4), .val (.int r1), .val (.int r2), .val (.int r3), .val (.int r4), .val w1, .val w2, .val w3, .val (.ref a11), .val (.ref b12), .unset]) (st' := [(.int e1)]) (fun _ kz => XS.ifYes X13.here hx rfl (pc0 := 159) (pc' := 166) rfl (hb hby at_159) rfl ((if0 _ _).trans (teq hc17).1) (by decide) (by decide) kz) ?_
                    refine goS (n := 167) (Ls' := #[.val (.int p1), .val (.int p2), .val (.int p3), .val (.int p4), .val (.int r1), .val (.int r2), .val (.int r3), .val (.int r4), .val w1, .val w2, .val w3, .val (.ref a11), .val (.ref b12), .unset]) (st' := [(.int (2 : Int32)), (.int e1)]) (fun _ kz => XS.iconst X13.here hx rfl (hb hby at_166) kz) ?_
                    exact jn15 _ ((if_pos hc17).symm)
                  · refine goS (n := 162) (Ls' := #[.val (.int p1), .val (.int p2), .val (.int p3), .val (.int p4), .val (.int r1), .val (.int r2), .val (.int r3), .val (.int r4), .val w1, .val w2, .val w3, .val (.ref a11), .val (.ref b12), .unset]) (st' := [(.int e1)]) (fun _ kz => XS.ifNo X13.here hx rfl (hb hby at_159) rfl ((if0 _ _).trans (feq hc17).1) kz) ?_
                    refine goS (n := 163) (Ls' := #[.val (.int p1), .val (.int p2), .val (.int p3), .val (.int p4), .val (.int r1), .val (.int r2), .val (.int r3), .val (.int r4), .val w1, .val w2, .val w3, .val (.ref a11), .val (.ref b12), .unset]) (st' := [(.int (0 : Int32)), (.int e1)]) (fun _ kz => XS.iconst X13.here hx rfl (hb hby at_162) kz) ?_
                    refine goS (n := 167) (Ls' := #[.val (.int p1), .val (.int p2), .val (.int p3), .val (.int p4), .val (.int r1), .val (.int r2), .val (.int r3), .val (.int r4), .val w1, .val w2, .val w3, .val (.ref a11), .val (.ref b12), .unset]) (st' := [(.int (0 : Int32)), (.int e1)]) (fun _ kz => XS.goto X13.here hx rfl (pc0 := 163) (pc' := 167) rfl (hb hby at_163) (by decide) (by decide) kz) ?_
                    exact jn15 _ ((if_neg hc17).symm)
                by_cases hc18 : r1 = (0 : Int32)
                · refine goS (n := 156) (Ls' := #[.val (.int p1), .val (.int p2), .val (.int p3), .val (.int p4), .val (.int r1), .val (.int r2), .val (.int r3), .val (.int r4), .val w1, .val w2, .val w3, .val (.ref a11), .val (.ref b12), .unset]) (st' := []) (fun _ kz => XS.ifYes X13.here hx rfl (pc0 := 149) (pc' := 156) rfl (hb hby at_149) rfl ((if0 _ _).trans (teq hc18).1) (by decide) (by decide) kz) ?_
                  refine goS (n := 157) (Ls' := #[.val (.int p1), .val (.int p2), .val (.int p3), .val (.int p4), .val (.int r1), .val (.int r2), .val (.int r3), .val (.int r4), .val w1, .val w2, .val w3, .val (.ref a11), .val (.ref b12), .unset]) (st' := [(.int (1 : Int32))]) (fun _ kz => XS.iconst X13.here hx rfl (hb hby at_156) kz) ?_
                  exact jn14 _ ((if_pos hc18).symm)
                · refine goS (n := 152) (Ls' := #[.val (.int p1), .val (.int p2), .val (.int p3), .val (.int p4), .val (.int r1), .val (.int r2), .val (.int r3), .val (.int r4), .val w1, .val w2, .val w3, .val (.ref a11), .val (.ref b12), .unset]) (st' := []) (fun _ kz => XS.ifNo X13.here hx rfl (hb hby at_149) rfl ((if0 _ _).trans (feq hc18).1) kz) ?_
                  refine goS (n := 153) (Ls' := #[.val (.int p1), .val (.int p2), .val (.int p3), .val (.int p4), .val (.int r1), .val (.int r2), .val (.int r3), .val (.int r4), .val w1, .val w2, .val w3, .val (.ref a11), .val (.ref b12), .unset]) (st' := [(.int (0 : Int32))]) (fun _ kz => XS.iconst X13.here hx rfl (hb hby at_152) kz) ?_
                  refine goS (n := 157) (Ls' := #[.val (.int p1), .val (.int p2), .val (.int p3), .val (.int p4), .val (.int r1), .val (.int r2), .val (.int r3), .val (.int r4), .val w1, .val w2, .val w3, .val (.ref a11), .val (.ref b12), .unset]) (st' := [(.int (0 : Int32))]) (fun _ kz => XS.goto X13.here hx rfl (pc0 := 153) (pc' := 157) rfl (hb hby at_153) (by decide) (by decide) kz) ?_
                  exact jn14 _ ((if_neg hc18).symm)
              by_cases hc19 : (p1 &&& (64 : Int32)) = (0 : Int32)
              · refine goS (n := 106) (Ls' := #[.val (.int p1), .val (.int p2), .val (.int p3), .val (.int p4), .val (.int r1), .val (.int r2), .val (.int r3), .val (.int r4), .val w1, .val w2, .unset, .unset, .unset, .unset]) (st' := [(.int r3)]) (fun _ kz => XS.ifYes X8.here hx rfl (pc0 := 99) (pc' := 106) rfl (hb hby at_99) rfl ((if0 _ _).trans (teq hc19).1) (by decide) (by decide) kz) ?_
                refine goS (n := 107) (Ls' := #[.val (.int p1), .val (.int p2), .val (.int p3), .val (.int p4), .val (.int r1), .val (.int r2), .val (.int r3), .val (.int r4), .val w1, .val w2, .unset, .unset, .unset, .unset]) (st' := [(.int (0 : Int32)), (.int r3)]) (fun _ kz => XS.iconst X8.here hx rfl (hb hby at_106) kz) ?_
                exact jn9 _ (bi_f (fun q => q hc19)).symm
              · refine goS (n := 102) (Ls' := #[.val (.int p1), .val (.int p2), .val (.int p3), .val (.int p4), .val (.int r1), .val (.int r2), .val (.int r3), .val (.int r4), .val w1, .val w2, .unset, .unset, .unset, .unset]) (st' := [(.int r3)]) (fun _ kz => XS.ifNo X8.here hx rfl (hb hby at_99) rfl ((if0 _ _).trans (feq hc19).1) kz) ?_
                refine goS (n := 103) (Ls' := #[.val (.int p1), .val (.int p2), .val (.int p3), .val (.int p4), .val (.int r1), .val (.int r2), .val (.int r3), .val (.int r4), .val w1, .val w2, .unset, .unset, .unset, .unset]) (st' := [(.int (1 : Int32)), (.int r3)]) (fun _ kz => XS.iconst X8.here hx rfl (hb hby at_102) kz) ?_
                refine goS (n := 107) (Ls' := #[.val (.int p1), .val (.int p2), .val (.int p3), .val (.int p4), .val (.int r1), .val (.int r2), .val (.int r3), .val (.int r4), .val w1, .val w2, .unset, .unset, .unset, .unset]) (st' := [(.int (1 : Int32)), (.int r3)]) (fun _ kz => XS.goto X8.here hx rfl (pc0 := 103) (pc' := 107) rfl (hb hby at_103) (by decide) (by decide) kz) ?_
                exact jn9 _ (bi_t hc19).symm
            by_cases hc20 : (p1 &&& (32 : Int32)) = (0 : Int32)
            · refine goS (n := 86) (Ls' := #[.val (.int p1), .val (.int p2), .val (.int p3), .val (.int p4), .val (.int r1), .val (.int r2), .val (.int r3), .val (.int r4), .val w1, .unset, .unset, .unset, .unset, .unset]) (st' := [(.int r2)]) (fun _ kz => XS.ifYes X6.here hx rfl (pc0 := 79) (pc' := 86) rfl (hb hby at_79) rfl ((if0 _ _).trans (teq hc20).1) (by decide) (by decide) kz) ?_
              refine goS (n := 87) (Ls' := #[.val (.int p1), .val (.int p2), .val (.int p3), .val (.int p4), .val (.int r1), .val (.int r2), .val (.int r3), .val (.int r4), .val w1, .unset, .unset, .unset, .unset, .unset]) (st' := [(.int (0 : Int32)), (.int r2)]) (fun _ kz => XS.iconst X6.here hx rfl (hb hby at_86) kz) ?_
              exact jn7 _ (bi_f (fun q => q hc20)).symm
            · refine goS (n := 82) (Ls' := #[.val (.int p1), .val (.int p2), .val (.int p3), .val (.int p4), .val (.int r1), .val (.int r2), .val (.int r3), .val (.int r4), .val w1, .unset, .unset, .unset, .unset, .unset]) (st' := [(.int r2)]) (fun _ kz => XS.ifNo X6.here hx rfl (hb hby at_79) rfl ((if0 _ _).trans (feq hc20).1) kz) ?_
              refine goS (n := 83) (Ls' := #[.val (.int p1), .val (.int p2), .val (.int p3), .val (.int p4), .val (.int r1), .val (.int r2), .val (.int r3), .val (.int r4), .val w1, .unset, .unset, .unset, .unset, .unset]) (st' := [(.int (1 : Int32)), (.int r2)]) (fun _ kz => XS.iconst X6.here hx rfl (hb hby at_82) kz) ?_
              refine goS (n := 87) (Ls' := #[.val (.int p1), .val (.int p2), .val (.int p3), .val (.int p4), .val (.int r1), .val (.int r2), .val (.int r3), .val (.int r4), .val w1, .unset, .unset, .unset, .unset, .unset]) (st' := [(.int (1 : Int32)), (.int r2)]) (fun _ kz => XS.goto X6.here hx rfl (pc0 := 83) (pc' := 87) rfl (hb hby at_83) (by decide) (by decide) kz) ?_
              exact jn7 _ (bi_t hc20).symm
          by_cases hc21 : (p1 &&& (16 : Int32)) = (0 : Int32)
          · refine goS (n := 66) (Ls' := #[.val (.int p1), .val (.int p2), .val (.int p3), .val (.int p4), .val (.int r1), .val (.int r2), .val (.int r3), .val (.int r4), .unset, .unset, .unset, .unset, .unset, .unset]) (st' := [(.int r1)]) (fun _ kz => XS.ifYes X0.here hx rfl (pc0 := 59) (pc' := 66) rfl (hb hby at_59) rfl ((if0 _ _).trans (teq hc21).1) (by decide) (by decide) kz) ?_
            refine goS (n := 67) (Ls' := #[.val (.int p1), .val (.int p2), .val (.int p3), .val (.int p4), .val (.int r1), .val (.int r2), .val (.int r3), .val (.int r4), .unset, .unset, .unset, .unset, .unset, .unset]) (st' := [(.int (0 : Int32)), (.int r1)]) (fun _ kz => XS.iconst X0.here hx rfl (hb hby at_66) kz) ?_
            exact jn5 _ (bi_f (fun q => q hc21)).symm
          · refine goS (n := 62) (Ls' := #[.val (.int p1), .val (.int p2), .val (.int p3), .val (.int p4), .val (.int r1), .val (.int r2), .val (.int r3), .val (.int r4), .unset, .unset, .unset, .unset, .unset, .unset]) (st' := [(.int r1)]) (fun _ kz => XS.ifNo X0.here hx rfl (hb hby at_59) rfl ((if0 _ _).trans (feq hc21).1) kz) ?_
            refine goS (n := 63) (Ls' := #[.val (.int p1), .val (.int p2), .val (.int p3), .val (.int p4), .val (.int r1), .val (.int r2), .val (.int r3), .val (.int r4), .unset, .unset, .unset, .unset, .unset, .unset]) (st' := [(.int (1 : Int32)), (.int r1)]) (fun _ kz => XS.iconst X0.here hx rfl (hb hby at_62) kz) ?_
            refine goS (n := 67) (Ls' := #[.val (.int p1), .val (.int p2), .val (.int p3), .val (.int p4), .val (.int r1), .val (.int r2), .val (.int r3), .val (.int r4), .unset, .unset, .unset, .unset, .unset, .unset]) (st' := [(.int (1 : Int32)), (.int r1)]) (fun _ kz => XS.goto X0.here hx rfl (pc0 := 63) (pc' := 67) rfl (hb hby at_63) (by decide) (by decide) kz) ?_
            exact jn5 _ (bi_t hc21).symm
        by_cases hc22 : (p1 &&& (8 : Int32)) = (0 : Int32)
        · refine goS (n := 50) (Ls' := #[.val (.int p1), .val (.int p2), .val (.int p3), .val (.int p4), .val (.int r1), .val (.int r2), .val (.int r3), .unset, .unset, .unset, .unset, .unset, .unset, .unset]) (st' := []) (fun _ kz => XS.ifYes X0.here hx rfl (pc0 := 43) (pc' := 50) rfl (hb hby at_43) rfl ((if0 _ _).trans (teq hc22).1) (by decide) (by decide) kz) ?_
          refine goS (n := 51) (Ls' := #[.val (.int p1), .val (.int p2), .val (.int p3), .val (.int p4), .val (.int r1), .val (.int r2), .val (.int r3), .unset, .unset, .unset, .unset, .unset, .unset, .unset]) (st' := [(.int (0 : Int32))]) (fun _ kz => XS.iconst X0.here hx rfl (hb hby at_50) kz) ?_
          exact jn4 _ (bi_f (fun q => q hc22)).symm
        · refine goS (n := 46) (Ls' := #[.val (.int p1), .val (.int p2), .val (.int p3), .val (.int p4), .val (.int r1), .val (.int r2), .val (.int r3), .unset, .unset, .unset, .unset, .unset, .unset, .unset]) (st' := []) (fun _ kz => XS.ifNo X0.here hx rfl (hb hby at_43) rfl ((if0 _ _).trans (feq hc22).1) kz) ?_
          refine goS (n := 47) (Ls' := #[.val (.int p1), .val (.int p2), .val (.int p3), .val (.int p4), .val (.int r1), .val (.int r2), .val (.int r3), .unset, .unset, .unset, .unset, .unset, .unset, .unset]) (st' := [(.int (1 : Int32))]) (fun _ kz => XS.iconst X0.here hx rfl (hb hby at_46) kz) ?_
          refine goS (n := 51) (Ls' := #[.val (.int p1), .val (.int p2), .val (.int p3), .val (.int p4), .val (.int r1), .val (.int r2), .val (.int r3), .unset, .unset, .unset, .unset, .unset, .unset, .unset]) (st' := [(.int (1 : Int32))]) (fun _ kz => XS.goto X0.here hx rfl (pc0 := 47) (pc' := 51) rfl (hb hby at_47) (by decide) (by decide) kz) ?_
          exact jn4 _ (bi_t hc22).symm
      by_cases hc23 : (p1 &&& (4 : Int32)) = (0 : Int32)
      · refine goS (n := 36) (Ls' := #[.val (.int p1), .val (.int p2), .val (.int p3), .val (.int p4), .val (.int r1), .val (.int r2), .unset, .unset, .unset, .unset, .unset, .unset, .unset, .unset]) (st' := []) (fun _ kz => XS.ifYes X0.here hx rfl (pc0 := 29) (pc' := 36) rfl (hb hby at_29) rfl ((if0 _ _).trans (teq hc23).1) (by decide) (by decide) kz) ?_
        refine goS (n := 37) (Ls' := #[.val (.int p1), .val (.int p2), .val (.int p3), .val (.int p4), .val (.int r1), .val (.int r2), .unset, .unset, .unset, .unset, .unset, .unset, .unset, .unset]) (st' := [(.int (0 : Int32))]) (fun _ kz => XS.iconst X0.here hx rfl (hb hby at_36) kz) ?_
        exact jn3 _ (bi_f (fun q => q hc23)).symm
      · refine goS (n := 32) (Ls' := #[.val (.int p1), .val (.int p2), .val (.int p3), .val (.int p4), .val (.int r1), .val (.int r2), .unset, .unset, .unset, .unset, .unset, .unset, .unset, .unset]) (st' := []) (fun _ kz => XS.ifNo X0.here hx rfl (hb hby at_29) rfl ((if0 _ _).trans (feq hc23).1) kz) ?_
        refine goS (n := 33) (Ls' := #[.val (.int p1), .val (.int p2), .val (.int p3), .val (.int p4), .val (.int r1), .val (.int r2), .unset, .unset, .unset, .unset, .unset, .unset, .unset, .unset]) (st' := [(.int (1 : Int32))]) (fun _ kz => XS.iconst X0.here hx rfl (hb hby at_32) kz) ?_
        refine goS (n := 37) (Ls' := #[.val (.int p1), .val (.int p2), .val (.int p3), .val (.int p4), .val (.int r1), .val (.int r2), .unset, .unset, .unset, .unset, .unset, .unset, .unset, .unset]) (st' := [(.int (1 : Int32))]) (fun _ kz => XS.goto X0.here hx rfl (pc0 := 33) (pc' := 37) rfl (hb hby at_33) (by decide) (by decide) kz) ?_
        exact jn3 _ (bi_t hc23).symm
    by_cases hc24 : (p1 &&& (2 : Int32)) = (0 : Int32)
    · refine goS (n := 23) (Ls' := #[.val (.int p1), .val (.int p2), .val (.int p3), .val (.int p4), .val (.int r1), .unset, .unset, .unset, .unset, .unset, .unset, .unset, .unset, .unset]) (st' := []) (fun _ kz => XS.ifYes X0.here hx rfl (pc0 := 16) (pc' := 23) rfl (hb hby at_16) rfl ((if0 _ _).trans (teq hc24).1) (by decide) (by decide) kz) ?_
      refine goS (n := 24) (Ls' := #[.val (.int p1), .val (.int p2), .val (.int p3), .val (.int p4), .val (.int r1), .unset, .unset, .unset, .unset, .unset, .unset, .unset, .unset, .unset]) (st' := [(.int (0 : Int32))]) (fun _ kz => XS.iconst X0.here hx rfl (hb hby at_23) kz) ?_
      exact jn2 _ (bi_f (fun q => q hc24)).symm
    · refine goS (n := 19) (Ls' := #[.val (.int p1), .val (.int p2), .val (.int p3), .val (.int p4), .val (.int r1), .unset, .unset, .unset, .unset, .unset, .unset, .unset, .unset, .unset]) (st' := []) (fun _ kz => XS.ifNo X0.here hx rfl (hb hby at_16) rfl ((if0 _ _).trans (feq hc24).1) kz) ?_
      refine goS (n := 20) (Ls' := #[.val (.int p1), .val (.int p2), .val (.int p3), .val (.int p4), .val (.int r1), .unset, .unset, .unset, .unset, .unset, .unset, .unset, .unset, .unset]) (st' := [(.int (1 : Int32))]) (fun _ kz => XS.iconst X0.here hx rfl (hb hby at_19) kz) ?_
      refine goS (n := 24) (Ls' := #[.val (.int p1), .val (.int p2), .val (.int p3), .val (.int p4), .val (.int r1), .unset, .unset, .unset, .unset, .unset, .unset, .unset, .unset, .unset]) (st' := [(.int (1 : Int32))]) (fun _ kz => XS.goto X0.here hx rfl (pc0 := 20) (pc' := 24) rfl (hb hby at_20) (by decide) (by decide) kz) ?_
      exact jn2 _ (bi_t hc24).symm
  by_cases hc25 : (p1 &&& (1 : Int32)) = (0 : Int32)
  · refine goS (n := 10) (Ls' := #[.val (.int p1), .val (.int p2), .val (.int p3), .val (.int p4), .unset, .unset, .unset, .unset, .unset, .unset, .unset, .unset, .unset, .unset]) (st' := []) (fun _ kz => XS.ifYes X0.here hx rfl (pc0 := 3) (pc' := 10) rfl (hb hby at_3) rfl ((if0 _ _).trans (teq hc25).1) (by decide) (by decide) kz) ?_
    refine goS (n := 11) (Ls' := #[.val (.int p1), .val (.int p2), .val (.int p3), .val (.int p4), .unset, .unset, .unset, .unset, .unset, .unset, .unset, .unset, .unset, .unset]) (st' := [(.int (0 : Int32))]) (fun _ kz => XS.iconst X0.here hx rfl (hb hby at_10) kz) ?_
    exact jn1 _ (bi_f (fun q => q hc25)).symm
  · refine goS (n := 6) (Ls' := #[.val (.int p1), .val (.int p2), .val (.int p3), .val (.int p4), .unset, .unset, .unset, .unset, .unset, .unset, .unset, .unset, .unset, .unset]) (st' := []) (fun _ kz => XS.ifNo X0.here hx rfl (hb hby at_3) rfl ((if0 _ _).trans (feq hc25).1) kz) ?_
    refine goS (n := 7) (Ls' := #[.val (.int p1), .val (.int p2), .val (.int p3), .val (.int p4), .unset, .unset, .unset, .unset, .unset, .unset, .unset, .unset, .unset, .unset]) (st' := [(.int (1 : Int32))]) (fun _ kz => XS.iconst X0.here hx rfl (hb hby at_6) kz) ?_
    refine goS (n := 11) (Ls' := #[.val (.int p1), .val (.int p2), .val (.int p3), .val (.int p4), .unset, .unset, .unset, .unset, .unset, .unset, .unset, .unset, .unset, .unset]) (st' := [(.int (1 : Int32))]) (fun _ kz => XS.goto X0.here hx rfl (pc0 := 7) (pc' := 11) rfl (hb hby at_7) (by decide) (by decide) kz) ?_
    exact jn1 _ (bi_t hc25).symm
set_option maxRecDepth 65536 in
set_option maxHeartbeats 40000000 in
theorem comes_1 {Post : Tables → Env → Array Value → State → Outcome → State → Prop} (hpost : ∀ tb e args s v u, (limb_1_1.after args s (.returned v) u = true ∧ limb_1_2.after args s (.returned v) u = true ∧ True) → ReturnedEndW s (.returned v) u (Jvm.fieldLocs frame_1_writes args s ++ Jvm.arrayLocs frame_1_arrays args s ++ Jvm.staticLocs frame_1_statics s) 32 1152 → Post tb e args s (.returned v) u) :
    ArmFor flags0 classFile x code maxLocals ret World_1 tables_1 room_1 Calls_1 rest_1 Pre_1 Post := by
  intro l hfl _ _ p e ha hc hk s m args below hf hA hF happ hP
  obtain ⟨hcalls, hrest, hpre⟩ := hP
  obtain ⟨-, -, -, hnamed, -, -, -, hat⟩ := (Spec.applies_iff hf).mp happ
  obtain ⟨hg, hn⟩ := and_e (Cond.before_iff.mp (show (Jvm.Cond.and given_1 narrow_1).before args s = true from hpre))
  obtain ⟨g1, g2⟩ := and_e hg
  obtain ⟨g3, g4⟩ := and_e g2
  obtain ⟨g5, g6⟩ := and_e g4
  obtain ⟨g7, g8⟩ := and_e g6
  obtain ⟨w0, w1, w2, w3, rfl⟩ : ∃ w0 w1 w2 w3 : Value, args = #[w0, w1, w2, w3] := by
    have hs : args.size = 4 := by simpa [Cond.value, given_1] using g1
    obtain ⟨L⟩ := args
    match L, hs with
    | [w0, w1, w2, w3], _ => exact ⟨w0, w1, w2, w3, rfl⟩
  have hw := fun d (hd : d ∈ tables_1) => atoms_spec (ws := Jvm.Cond.code x code maxLocals ret :: tables_1) hat d (List.mem_cons_of_mem _ hd)
  have hfit : Fit s := fun {y c} hc i hi => by
    obtain ⟨ha, rfl⟩ := Array.getElem?_eq_some_iff.mp hc
    have q := List.all_eq_true.mp ((Array.all_eq_true_iff_forall_mem.mp hF) _ (Array.getElem_mem ha)) i (List.mem_range.mpr hi)
    simpa [Array.getElem?_eq_getElem hi] using q
  obtain ⟨hsets, hown0⟩ := atoms_of _ (rest_1_c_eq ▸ (show rest_1_c.before _ s = true from hrest))
  have hr0 := Cond.before_iff.mp hown0
  obtain ⟨i0, ei0⟩ := is_v g3
  obtain rfl : w0 = (.int i0) := Option.some.inj ei0
  obtain ⟨i1, ei1⟩ := is_v g5
  obtain rfl : w1 = (.int i1) := Option.some.inj ei1
  obtain ⟨i2, ei2⟩ := is_v g7
  obtain rfl : w2 = (.int i2) := Option.some.inj ei2
  obtain ⟨i3, ei3⟩ := is_v g8
  obtain rfl : w3 = (.int i3) := Option.some.inj ei3
  obtain ⟨cs, ecs⟩ := is_v (Cond.before_iff.mp (hsets _ (List.mem_of_getElem? (i := 1) rfl)))
  have S_CS : Sta s s.heap "java/lang/String" "COMPACT_STRINGS" "Z" (.int cs) := Sta.start ecs (Or.inl (hsets _ (List.mem_of_getElem? (i := 0) rfl)))
  have hcs : ¬ cs = (0 : Int32) := gotF (Cond.eq_ints ecs (Term.int_eval _)) (not_v (Cond.before_iff.mp (hsets _ (List.mem_of_getElem? (i := 2) rfl))))
  have hCs : CHv s own_EL s.vm s.heap := CHv.start (own_EW hw) (fun p hp => hcalls.1 p hp) (by exact (hsets _ (List.mem_of_getElem? (i := 2) rfl))) (hw _ (List.mem_of_getElem? (i := 18) rfl)) (hw _ (List.mem_of_getElem? (i := 14) rfl))
  obtain ⟨n, o, h1, h2, h3, _, L, rfl, ⟨rfl, N⟩, -, hq⟩ := rm_law l s _ hw tables_1 i0 i1 i2 i3 cs s.heap s.heap.size (Old.start s) S_CS hcs p e ha hc hk s m _ below hf ((Spec.applies_iff_loose hf).mp happ).1 ⟨rfl, State.Warmed39.refl s, rfl, hCs⟩ trivial
  refine ⟨n, _, h1, h2, h3, hpost _ _ _ _ _ _ ⟨Cond.after_iff.mpr rfl, Cond.after_iff.mpr (eq_i res_at (Term.int_eval (1)) rfl), trivial⟩ ⟨hq.1, hq.2.1, hq.2.2.1, (hq.2.2.2.sift fun y hy => Or.inr (N y hy)).mono (by decide) (by decide)⟩⟩
theorem main_1_1 : Claimed_1_1 := comes_1 fun _ _ _ _ _ _ h hF => ⟨h.1, hF⟩
theorem main_1_2 : Claimed_1_2 := comes_1 fun _ _ _ _ _ _ h hF => ⟨h.2.1, hF⟩
end Jvm.Pilot.@@N@@
namespace Jvm.Pilot.@@N@@
open Jvm Jvm.ClassFile Sem Op Lib Jvm.Free Jvm.Stand Jvm.Pilot.@@N@@.Jvm.D
/-! MADE BY PROGRAM (witnessworld.py) out of the Statement's table words and the real class files: 19 classes; the members and pool entries that the words name. The judged class is class 1, her method 2. -/
namespace start1
open Jvm.ClassFile
def u (s : String) : CpInfo := .utf8 (stringToUtf16 s)
/-- a pool by its gaps: so many unusable entries, then the entry; so many at the end -/
def gap : Nat → List CpInfo → List CpInfo
  | 0, r => r
  | n + 1, r => .unusable :: gap n r
def poolList (es : List (Nat × CpInfo)) (last : Nat) : List CpInfo := es.foldr (fun e r => gap e.1 (e.2 :: r)) (gap last [])
def pool (es : List (Nat × CpInfo)) (last : Nat) : Array CpInfo := ⟨poolList es last⟩
def fileOf (pool : Array CpInfo) (this : Nat) (attrs : Array Attribute := #[]) (ms : Array MethodInfo := #[]) (fl : Nat := 33) (sup : Nat := 0) (ifs : Array Nat := #[]) (fds : Array FieldInfo := #[]) : ClassFile where
  minorVersion := 0
  majorVersion := 65
  constantPool := pool
  accessFlags := fl
  thisClass := this
  superClass := sup
  interfaces := ifs
  fields := fds
  methods := ms
  attributes := attrs
def plain (name : String) (sup : Option ClassId) : Class where
  name := name
  kind := .ordinary
  loader := none
  accessFlags := 33
  super := sup
  interfaces := #[]
  cf := none
  fields := #[]
  methods := #[]
  instanceTypes := #[]
  staticTypes := #[]
  resolved := #[]
  callSites := []
  init := .initialized
  statics := none
  mirror := none

def pool0 : Array CpInfo := pool [(5, u "<init>"), (0, u "()V"), (1, .class_ 10), (1, u "java/lang/Object")] 113

def k0c0 : Code := { maxStack := 0, maxLocals := 1, code := object_method_1_code, exceptionTable := #[], attributes := #[] }
def k0m0 : Method := { name := "<init>", desc := "()V", sig := { parameters := [], returnType := none }, accessFlags := 1, code := some k0c0 }
/-- java/lang/Object -/
def k0 : Class := { plain "java/lang/Object" none with
  accessFlags := 33
  interfaces := #[]
  cf := some (fileOf pool0 8 #[] #[{ accessFlags := 1, nameIndex := 5, descriptorIndex := 6, attributes := #[] }] 33 0 #[] #[])
  fields := #[]
  methods := #[k0m0]
  instanceTypes := #[]
  staticTypes := #[]
  resolved := Array.replicate 124 none
  statics := none }

def pool1 : Array CpInfo := pool [(2, .class_ 4), (1, u "java/lang/Object"), (0, u "<init>"), (0, u "()V"), (0, .methodref 8 9), (0, .class_ 10), (0, .nameAndType 11 12), (0, u "java/lang/String"), (0, u "valueOf"), (0, u "(C)Ljava/lang/String;"), (0, .methodref 8 14), (0, .nameAndType 5 15), (0, u "([C)V"), (0, .methodref 17 18), (0, .class_ 19), (0, .nameAndType 20 21), (0, u "com/example/sixphase/sixphase/application/NavigationCasePrecedencePinLaw"), (0, u "draw"), (0, u "(ZZI)Ljava/lang/String;"), (0, .class_ 23), (0, u "com/example/sixphase/sixphase/application/NavigationCase"), (0, .methodref 22 25), (0, .nameAndType 5 26), (0, u "(Ljava/lang/String;Ljava/lang/String;Ljava/lang/String;Ljava/lang/String;ZLjava/util/Map;)V"), (0, .methodref 22 28), (0, .nameAndType 29 30), (0, u "precedence"), (0, u "()I"), (3, u "law"), (0, u "(IIII)Z")] 2

def k1m0 : Method := { name := "<init>", desc := "()V", sig := { parameters := [], returnType := none }, accessFlags := 2, code := none }
def k1c1 : Code := { maxStack := 3, maxLocals := 3, code := method_2_code, exceptionTable := #[], attributes := #[] }
def k1m1 : Method := { name := "draw", desc := "(ZZI)Ljava/lang/String;", sig := { parameters := [.boolean, .boolean, .int], returnType := some (.object "java/lang/String") }, accessFlags := 10, code := some k1c1 }
def k1c2 : Code := { maxStack := 8, maxLocals := 14, code := code, exceptionTable := #[], attributes := #[] }
def k1m2 : Method := { name := "law", desc := "(IIII)Z", sig := { parameters := [.int, .int, .int, .int], returnType := some .boolean }, accessFlags := 9, code := some k1c2 }
/-- com/example/sixphase/sixphase/application/NavigationCasePrecedencePinLaw -/
def k1 : Class := { plain "com/example/sixphase/sixphase/application/NavigationCasePrecedencePinLaw" (some 0) with
  accessFlags := 49
  interfaces := #[]
  cf := some (fileOf pool1 17 #[] #[{ accessFlags := 2, nameIndex := 5, descriptorIndex := 6, attributes := #[] }, { accessFlags := 10, nameIndex := 20, descriptorIndex := 21, attributes := #[] }, { accessFlags := 9, nameIndex := 34, descriptorIndex := 35, attributes := #[] }] 49 2 #[] #[])
  fields := #[]
  methods := #[k1m0, k1m1, k1m2]
  instanceTypes := #[]
  staticTypes := #[]
  resolved := Array.replicate 38 none
  statics := none }

def pool2 : Array CpInfo := pool [(1, .class_ 2), (0, u "java/io/Serializable"), (0, .class_ 4), (0, u "java/lang/Object")] 2

/-- java/io/Serializable -/
def k2 : Class := { plain "java/io/Serializable" (some 0) with
  accessFlags := 1537
  interfaces := #[]
  cf := some (fileOf pool2 1 #[] #[] 1537 3 #[] #[])
  fields := #[]
  methods := #[]
  instanceTypes := #[]
  staticTypes := #[]
  resolved := Array.replicate 7 none
  statics := none }

def pool3 : Array CpInfo := pool [(1, .class_ 2), (0, u "java/lang/Comparable"), (0, .class_ 4), (0, u "java/lang/Object")] 7

/-- java/lang/Comparable -/
def k3 : Class := { plain "java/lang/Comparable" (some 0) with
  accessFlags := 1537
  interfaces := #[]
  cf := some (fileOf pool3 1 #[] #[] 1537 3 #[] #[])
  fields := #[]
  methods := #[]
  instanceTypes := #[]
  staticTypes := #[]
  resolved := Array.replicate 12 none
  statics := none }

def pool4 : Array CpInfo := pool [(2, .class_ 4), (1, u "java/lang/CharSequence"), (42, .class_ 48), (0, u "java/lang/CharSequence$1CodePointIterator"), (10, .class_ 60), (0, u "java/lang/CharSequence$1CharIterator"), (5, .class_ 67), (0, u "java/lang/Object")] 63

/-- java/lang/CharSequence -/
def k4 : Class := { plain "java/lang/CharSequence" (some 0) with
  accessFlags := 1537
  interfaces := #[]
  cf := some (fileOf pool4 2 #[.nestMembers #[47, 59]] #[] 1537 66 #[] #[])
  fields := #[]
  methods := #[]
  instanceTypes := #[]
  staticTypes := #[]
  resolved := Array.replicate 131 none
  statics := none }

def pool5 : Array CpInfo := pool [(1, .class_ 2), (0, u "java/lang/constant/Constable"), (0, .class_ 4), (0, u "java/lang/Object")] 6

/-- java/lang/constant/Constable -/
def k5 : Class := { plain "java/lang/constant/Constable" (some 0) with
  accessFlags := 1537
  interfaces := #[]
  cf := some (fileOf pool5 1 #[] #[] 1537 3 #[] #[])
  fields := #[]
  methods := #[]
  instanceTypes := #[]
  staticTypes := #[]
  resolved := Array.replicate 11 none
  statics := none }

def pool6 : Array CpInfo := pool [(1, .class_ 2), (0, u "java/lang/constant/ConstantDesc"), (0, .class_ 4), (0, u "java/lang/Object")] 32

/-- java/lang/constant/ConstantDesc -/
def k6 : Class := { plain "java/lang/constant/ConstantDesc" (some 0) with
  accessFlags := 1537
  interfaces := #[]
  cf := some (fileOf pool6 1 #[] #[] 1537 3 #[] #[])
  fields := #[]
  methods := #[]
  instanceTypes := #[]
  staticTypes := #[]
  resolved := Array.replicate 37 none
  statics := none }

def pool7 : Array CpInfo := pool [(1, .methodref 2 3), (0, .class_ 4), (0, .nameAndType 5 6), (0, u "java/lang/Object"), (0, u "<init>"), (0, u "()V"), (0, .string 8), (0, u ""), (0, .fieldref 10 11), (0, .class_ 12), (0, .nameAndType 13 14), (0, u "java/lang/String"), (0, u "value"), (0, u "[B"), (0, .fieldref 10 16), (0, .nameAndType 17 18), (0, u "coder"), (0, u "B"), (2, u "hash"), (0, u "I"), (2, u "hashIsZero"), (0, u "Z"), (0, .methodref 10 28), (0, .nameAndType 5 29), (0, u "([CIILjava/lang/Void;)V"), (8, .fieldref 10 39), (0, .nameAndType 40 26), (0, u "COMPACT_STRINGS"), (12, u "toBytes"), (53, .class_ 109), (1, u "java/lang/StringLatin1"), (99, .methodref 10 210), (0, .nameAndType 5 211), (0, u "([BB)V"), (157, u "(C)Z"), (205, .class_ 576), (0, u "java/lang/CharSequence"), (22, u "CASE_INSENSITIVE_ORDER"), (0, u "Ljava/util/Comparator;"), (181, u "valueOf"), (0, u "(C)Ljava/lang/String;"), (226, u "([C)V"), (4, .methodref 107 1016), (0, .nameAndType 1017 369), (0, u "canEncode"), (0, .methodref 107 1019), (0, .nameAndType 53 1020), (0, u "(C)[B"), (80, u "serialPersistentFields"), (0, u "[Ljava/io/ObjectStreamField;"), (0, .class_ 1104), (0, u "java/lang/String$CaseInsensitiveComparator"), (1, .class_ 1107), (0, u "java/io/Serializable"), (0, .class_ 1109), (0, u "java/lang/Comparable"), (0, .class_ 1111), (0, u "java/lang/constant/Constable"), (0, .class_ 1113), (0, u "java/lang/constant/ConstantDesc"), (2, u "serialVersionUID"), (0, u "J"), (3, u "REPL"), (0, u "C"), (2, u "LATIN1"), (1, u "UTF16")] 323

def k7m0 : Method := { name := "<init>", desc := "()V", sig := { parameters := [], returnType := none }, accessFlags := 1, code := none }
def k7c1 : Code := { maxStack := 5, maxLocals := 2, code := jdk_42_method_3_code, exceptionTable := #[], attributes := #[] }
def k7m1 : Method := { name := "<init>", desc := "([C)V", sig := { parameters := [(.array .char)], returnType := none }, accessFlags := 1, code := some k7c1 }
def k7c2 : Code := { maxStack := 4, maxLocals := 1, code := jdk_42_method_139_code, exceptionTable := #[], attributes := #[] }
def k7m2 : Method := { name := "valueOf", desc := "(C)Ljava/lang/String;", sig := { parameters := [.char], returnType := some (.object "java/lang/String") }, accessFlags := 9, code := some k7c2 }
def k7c3 : Code := { maxStack := 4, maxLocals := 6, code := jdk_42_method_149_code, exceptionTable := #[], attributes := #[] }
def k7m3 : Method := { name := "<init>", desc := "([CIILjava/lang/Void;)V", sig := { parameters := [(.array .char), .int, .int, (.object "java/lang/Void")], returnType := none }, accessFlags := 2, code := some k7c3 }
def k7c4 : Code := { maxStack := 2, maxLocals := 3, code := jdk_42_method_151_code, exceptionTable := #[], attributes := #[] }
def k7m4 : Method := { name := "<init>", desc := "([BB)V", sig := { parameters := [(.array .byte), .byte], returnType := none }, accessFlags := 0, code := some k7c4 }
/-- java/lang/String -/
def k7 : Class := { plain "java/lang/String" (some 0) with
  accessFlags := 49
  interfaces := #[2, 3, 4, 5, 6]
  cf := some (fileOf pool7 10 #[.nestMembers #[1103]] #[{ accessFlags := 1, nameIndex := 5, descriptorIndex := 6, attributes := #[] }, { accessFlags := 1, nameIndex := 5, descriptorIndex := 1010, attributes := #[] }, { accessFlags := 9, nameIndex := 782, descriptorIndex := 783, attributes := #[] }, { accessFlags := 2, nameIndex := 5, descriptorIndex := 29, attributes := #[] }, { accessFlags := 0, nameIndex := 5, descriptorIndex := 211, attributes := #[] }] 49 2 #[1106, 1108, 575, 1110, 1112] #[{ accessFlags := 18, nameIndex := 13, descriptorIndex := 14, attributes := #[] }, { accessFlags := 18, nameIndex := 17, descriptorIndex := 18, attributes := #[] }, { accessFlags := 2, nameIndex := 21, descriptorIndex := 22, attributes := #[] }, { accessFlags := 2, nameIndex := 25, descriptorIndex := 26, attributes := #[] }, { accessFlags := 26, nameIndex := 1116, descriptorIndex := 1117, attributes := #[] }, { accessFlags := 24, nameIndex := 40, descriptorIndex := 26, attributes := #[] }, { accessFlags := 26, nameIndex := 1101, descriptorIndex := 1102, attributes := #[] }, { accessFlags := 26, nameIndex := 1121, descriptorIndex := 1122, attributes := #[] }, { accessFlags := 25, nameIndex := 599, descriptorIndex := 600, attributes := #[] }, { accessFlags := 24, nameIndex := 1125, descriptorIndex := 18, attributes := #[] }, { accessFlags := 24, nameIndex := 1127, descriptorIndex := 18, attributes := #[] }])
  fields := #[{ name := "value", type := (.array .byte), accessFlags := 18, slot := 0, constantValue := 0 }, { name := "coder", type := .byte, accessFlags := 18, slot := 1, constantValue := 0 }, { name := "hash", type := .int, accessFlags := 2, slot := 2, constantValue := 0 }, { name := "hashIsZero", type := .boolean, accessFlags := 2, slot := 3, constantValue := 0 }, { name := "serialVersionUID", type := .long, accessFlags := 26, slot := 0, constantValue := 0 }, { name := "COMPACT_STRINGS", type := .boolean, accessFlags := 24, slot := 1, constantValue := 0 }, { name := "serialPersistentFields", type := (.array (.object "java/io/ObjectStreamField")), accessFlags := 26, slot := 2, constantValue := 0 }, { name := "REPL", type := .char, accessFlags := 26, slot := 3, constantValue := 0 }, { name := "CASE_INSENSITIVE_ORDER", type := (.object "java/util/Comparator"), accessFlags := 25, slot := 4, constantValue := 0 }, { name := "LATIN1", type := .byte, accessFlags := 24, slot := 5, constantValue := 0 }, { name := "UTF16", type := .byte, accessFlags := 24, slot := 6, constantValue := 0 }]
  methods := #[k7m0, k7m1, k7m2, k7m3, k7m4]
  instanceTypes := #[(.array .byte), .byte, .int, .boolean]
  staticTypes := #[.long, .boolean, (.array (.object "java/io/ObjectStreamField")), .char, (.object "java/util/Comparator"), .byte, .byte]
  resolved := Array.replicate 1451 none
  statics := some 0 }

def pool8 : Array CpInfo := pool [(4, .class_ 6), (1, u "java/lang/Object"), (0, u "<init>"), (0, u "()V"), (5, .class_ 16), (1, u "java/lang/StringLatin1"), (73, u "canEncode"), (14, u "(C)Z"), (15, u "$assertionsDisabled"), (0, u "Z"), (98, .class_ 223), (1, u "java/lang/StringLatin1$LinesSpliterator"), (156, u "toBytes"), (1, u "(C)[B"), (7, .class_ 391), (0, u "java/lang/StringLatin1$CharsSpliterator")] 3

def k8m0 : Method := { name := "<init>", desc := "()V", sig := { parameters := [], returnType := none }, accessFlags := 0, code := none }
def k8c1 : Code := { maxStack := 2, maxLocals := 1, code := jdk_43_method_3_code, exceptionTable := #[], attributes := #[] }
def k8m1 : Method := { name := "canEncode", desc := "(C)Z", sig := { parameters := [.char], returnType := some .boolean }, accessFlags := 9, code := some k8c1 }
def k8c2 : Code := { maxStack := 4, maxLocals := 1, code := jdk_43_method_46_code, exceptionTable := #[], attributes := #[] }
def k8m2 : Method := { name := "toBytes", desc := "(C)[B", sig := { parameters := [.char], returnType := some (.array .byte) }, accessFlags := 9, code := some k8c2 }
/-- java/lang/StringLatin1 -/
def k8 : Class := { plain "java/lang/StringLatin1" (some 0) with
  accessFlags := 48
  interfaces := #[]
  cf := some (fileOf pool8 14 #[.nestMembers #[390, 221]] #[{ accessFlags := 0, nameIndex := 7, descriptorIndex := 8, attributes := #[] }, { accessFlags := 9, nameIndex := 90, descriptorIndex := 105, attributes := #[] }, { accessFlags := 9, nameIndex := 380, descriptorIndex := 382, attributes := #[] }] 48 4 #[] #[{ accessFlags := 4120, nameIndex := 121, descriptorIndex := 122, attributes := #[] }])
  fields := #[{ name := "$assertionsDisabled", type := .boolean, accessFlags := 4120, slot := 0, constantValue := 0 }]
  methods := #[k8m0, k8m1, k8m2]
  instanceTypes := #[]
  staticTypes := #[.boolean]
  resolved := Array.replicate 395 none
  statics := none }

def pool9 : Array CpInfo := pool [(1, .methodref 2 3), (0, .class_ 4), (0, .nameAndType 5 6), (0, u "java/lang/Object"), (0, u "<init>"), (0, u "()V"), (0, .fieldref 8 9), (0, .class_ 10), (0, .nameAndType 11 12), (0, u "com/example/sixphase/sixphase/application/NavigationCase"), (0, u "fromAction"), (0, u "Ljava/lang/String;"), (0, .fieldref 8 14), (0, .nameAndType 15 12), (0, u "fromOutcome"), (0, .fieldref 8 17), (0, .nameAndType 18 12), (0, u "condition"), (0, .fieldref 8 20), (0, .nameAndType 21 12), (0, u "toViewId"), (0, .fieldref 8 23), (0, .nameAndType 24 25), (0, u "redirect"), (0, u "Z"), (0, .fieldref 8 27), (0, .nameAndType 28 29), (0, u "redirectParameters"), (0, u "Ljava/util/Map;"), (13, u "(Ljava/lang/String;Ljava/lang/String;Ljava/lang/String;Ljava/lang/String;ZLjava/util/Map;)V"), (3, u "precedence"), (0, u "()I")] 13

def k9c0 : Code := { maxStack := 2, maxLocals := 7, code := prog_12_method_1_code, exceptionTable := #[], attributes := #[] }
def k9m0 : Method := { name := "<init>", desc := "(Ljava/lang/String;Ljava/lang/String;Ljava/lang/String;Ljava/lang/String;ZLjava/util/Map;)V", sig := { parameters := [(.object "java/lang/String"), (.object "java/lang/String"), (.object "java/lang/String"), (.object "java/lang/String"), .boolean, (.object "java/util/Map")], returnType := none }, accessFlags := 0, code := some k9c0 }
def k9c1 : Code := { maxStack := 1, maxLocals := 1, code := prog_12_method_2_code, exceptionTable := #[], attributes := #[] }
def k9m1 : Method := { name := "precedence", desc := "()I", sig := { parameters := [], returnType := some .int }, accessFlags := 0, code := some k9c1 }
/-- com/example/sixphase/sixphase/application/NavigationCase -/
def k9 : Class := { plain "com/example/sixphase/sixphase/application/NavigationCase" (some 0) with
  accessFlags := 48
  interfaces := #[]
  cf := some (fileOf pool9 8 #[] #[{ accessFlags := 0, nameIndex := 5, descriptorIndex := 43, attributes := #[] }, { accessFlags := 0, nameIndex := 47, descriptorIndex := 48, attributes := #[] }] 48 2 #[] #[{ accessFlags := 18, nameIndex := 11, descriptorIndex := 12, attributes := #[] }, { accessFlags := 18, nameIndex := 15, descriptorIndex := 12, attributes := #[] }, { accessFlags := 18, nameIndex := 18, descriptorIndex := 12, attributes := #[] }, { accessFlags := 18, nameIndex := 21, descriptorIndex := 12, attributes := #[] }, { accessFlags := 18, nameIndex := 24, descriptorIndex := 25, attributes := #[] }, { accessFlags := 18, nameIndex := 28, descriptorIndex := 29, attributes := #[] }])
  fields := #[{ name := "fromAction", type := (.object "java/lang/String"), accessFlags := 18, slot := 0, constantValue := 0 }, { name := "fromOutcome", type := (.object "java/lang/String"), accessFlags := 18, slot := 1, constantValue := 0 }, { name := "condition", type := (.object "java/lang/String"), accessFlags := 18, slot := 2, constantValue := 0 }, { name := "toViewId", type := (.object "java/lang/String"), accessFlags := 18, slot := 3, constantValue := 0 }, { name := "redirect", type := .boolean, accessFlags := 18, slot := 4, constantValue := 0 }, { name := "redirectParameters", type := (.object "java/util/Map"), accessFlags := 18, slot := 5, constantValue := 0 }]
  methods := #[k9m0, k9m1]
  instanceTypes := #[(.object "java/lang/String"), (.object "java/lang/String"), (.object "java/lang/String"), (.object "java/lang/String"), .boolean, (.object "java/util/Map")]
  staticTypes := #[]
  resolved := Array.replicate 62 none
  statics := none }

def pool10 : Array CpInfo := pool [(2, .class_ 4), (1, u "java/lang/Object"), (0, u "<init>"), (0, u "()V"), (17, .class_ 26), (1, u "jdk/internal/util/Preconditions"), (28, .class_ 56), (0, u "jdk/internal/util/Preconditions$4"), (57, .class_ 115), (0, u "jdk/internal/util/Preconditions$1"), (7, u "SIOOBE_FORMATTER"), (0, u "Ljava/util/function/BiFunction;"), (0, .class_ 126), (0, u "jdk/internal/util/Preconditions$2"), (3, u "AIOOBE_FORMATTER"), (0, .class_ 132), (0, u "jdk/internal/util/Preconditions$3"), (3, u "IOOBE_FORMATTER")] 57

def k10m0 : Method := { name := "<init>", desc := "()V", sig := { parameters := [], returnType := none }, accessFlags := 1, code := none }
/-- jdk/internal/util/Preconditions -/
def k10 : Class := { plain "jdk/internal/util/Preconditions" (some 0) with
  accessFlags := 33
  interfaces := #[]
  cf := some (fileOf pool10 24 #[.nestMembers #[55, 131, 125, 114]] #[{ accessFlags := 1, nameIndex := 5, descriptorIndex := 6, attributes := #[] }] 33 2 #[] #[{ accessFlags := 25, nameIndex := 123, descriptorIndex := 124, attributes := #[] }, { accessFlags := 25, nameIndex := 130, descriptorIndex := 124, attributes := #[] }, { accessFlags := 25, nameIndex := 136, descriptorIndex := 124, attributes := #[] }])
  fields := #[{ name := "SIOOBE_FORMATTER", type := (.object "java/util/function/BiFunction"), accessFlags := 25, slot := 0, constantValue := 0 }, { name := "AIOOBE_FORMATTER", type := (.object "java/util/function/BiFunction"), accessFlags := 25, slot := 1, constantValue := 0 }, { name := "IOOBE_FORMATTER", type := (.object "java/util/function/BiFunction"), accessFlags := 25, slot := 2, constantValue := 0 }]
  methods := #[k10m0]
  instanceTypes := #[]
  staticTypes := #[(.object "java/util/function/BiFunction"), (.object "java/util/function/BiFunction"), (.object "java/util/function/BiFunction")]
  resolved := Array.replicate 194 none
  statics := some 1 }

def pool11 : Array CpInfo := pool [(9, u "<init>"), (6, .class_ 18), (1, u "java/lang/Object"), (0, u "()V"), (1, .class_ 23), (1, u "jdk/internal/util/ArraysSupport"), (0, u "LOG2_ARRAY_LONG_INDEX_SCALE"), (0, u "I"), (2, u "U"), (0, u "Ljdk/internal/misc/Unsafe;"), (8, u "BIG_ENDIAN"), (0, u "Z"), (8, u "LOG2_BYTE_BIT_SIZE"), (4, u "LOG2_ARRAY_INT_INDEX_SCALE"), (54, u "JLA"), (0, u "Ljdk/internal/access/JavaLangAccess;"), (11, u "LOG2_ARRAY_BOOLEAN_INDEX_SCALE"), (9, u "LOG2_ARRAY_BYTE_INDEX_SCALE"), (5, u "LOG2_ARRAY_CHAR_INDEX_SCALE"), (5, u "LOG2_ARRAY_SHORT_INDEX_SCALE"), (18, u "LOG2_ARRAY_FLOAT_INDEX_SCALE"), (24, u "LOG2_ARRAY_DOUBLE_INDEX_SCALE"), (89, u "T_BOOLEAN"), (2, u "T_CHAR"), (1, u "T_FLOAT"), (1, u "T_DOUBLE"), (1, u "T_BYTE"), (1, u "T_SHORT"), (1, u "T_INT"), (1, u "T_LONG"), (1, u "SOFT_MAX_ARRAY_LENGTH")] 83

def k11m0 : Method := { name := "<init>", desc := "()V", sig := { parameters := [], returnType := none }, accessFlags := 2, code := none }
/-- jdk/internal/util/ArraysSupport -/
def k11 : Class := { plain "jdk/internal/util/ArraysSupport" (some 0) with
  accessFlags := 33
  interfaces := #[]
  cf := some (fileOf pool11 21 #[] #[{ accessFlags := 2, nameIndex := 9, descriptorIndex := 19, attributes := #[] }] 33 16 #[] #[{ accessFlags := 24, nameIndex := 28, descriptorIndex := 29, attributes := #[] }, { accessFlags := 26, nameIndex := 38, descriptorIndex := 39, attributes := #[] }, { accessFlags := 25, nameIndex := 121, descriptorIndex := 25, attributes := #[] }, { accessFlags := 25, nameIndex := 131, descriptorIndex := 25, attributes := #[] }, { accessFlags := 25, nameIndex := 137, descriptorIndex := 25, attributes := #[] }, { accessFlags := 25, nameIndex := 143, descriptorIndex := 25, attributes := #[] }, { accessFlags := 25, nameIndex := 53, descriptorIndex := 25, attributes := #[] }, { accessFlags := 25, nameIndex := 24, descriptorIndex := 25, attributes := #[] }, { accessFlags := 25, nameIndex := 162, descriptorIndex := 25, attributes := #[] }, { accessFlags := 25, nameIndex := 187, descriptorIndex := 25, attributes := #[] }, { accessFlags := 26, nameIndex := 48, descriptorIndex := 25, attributes := #[] }, { accessFlags := 25, nameIndex := 277, descriptorIndex := 25, attributes := #[] }, { accessFlags := 25, nameIndex := 280, descriptorIndex := 25, attributes := #[] }, { accessFlags := 25, nameIndex := 282, descriptorIndex := 25, attributes := #[] }, { accessFlags := 25, nameIndex := 284, descriptorIndex := 25, attributes := #[] }, { accessFlags := 25, nameIndex := 286, descriptorIndex := 25, attributes := #[] }, { accessFlags := 25, nameIndex := 288, descriptorIndex := 25, attributes := #[] }, { accessFlags := 25, nameIndex := 290, descriptorIndex := 25, attributes := #[] }, { accessFlags := 25, nameIndex := 292, descriptorIndex := 25, attributes := #[] }, { accessFlags := 26, nameIndex := 108, descriptorIndex := 109, attributes := #[] }, { accessFlags := 25, nameIndex := 294, descriptorIndex := 25, attributes := #[] }])
  fields := #[{ name := "U", type := (.object "jdk/internal/misc/Unsafe"), accessFlags := 24, slot := 0, constantValue := 0 }, { name := "BIG_ENDIAN", type := .boolean, accessFlags := 26, slot := 1, constantValue := 0 }, { name := "LOG2_ARRAY_BOOLEAN_INDEX_SCALE", type := .int, accessFlags := 25, slot := 2, constantValue := 0 }, { name := "LOG2_ARRAY_BYTE_INDEX_SCALE", type := .int, accessFlags := 25, slot := 3, constantValue := 0 }, { name := "LOG2_ARRAY_CHAR_INDEX_SCALE", type := .int, accessFlags := 25, slot := 4, constantValue := 0 }, { name := "LOG2_ARRAY_SHORT_INDEX_SCALE", type := .int, accessFlags := 25, slot := 5, constantValue := 0 }, { name := "LOG2_ARRAY_INT_INDEX_SCALE", type := .int, accessFlags := 25, slot := 6, constantValue := 0 }, { name := "LOG2_ARRAY_LONG_INDEX_SCALE", type := .int, accessFlags := 25, slot := 7, constantValue := 0 }, { name := "LOG2_ARRAY_FLOAT_INDEX_SCALE", type := .int, accessFlags := 25, slot := 8, constantValue := 0 }, { name := "LOG2_ARRAY_DOUBLE_INDEX_SCALE", type := .int, accessFlags := 25, slot := 9, constantValue := 0 }, { name := "LOG2_BYTE_BIT_SIZE", type := .int, accessFlags := 26, slot := 10, constantValue := 0 }, { name := "T_BOOLEAN", type := .int, accessFlags := 25, slot := 11, constantValue := 0 }, { name := "T_CHAR", type := .int, accessFlags := 25, slot := 12, constantValue := 0 }, { name := "T_FLOAT", type := .int, accessFlags := 25, slot := 13, constantValue := 0 }, { name := "T_DOUBLE", type := .int, accessFlags := 25, slot := 14, constantValue := 0 }, { name := "T_BYTE", type := .int, accessFlags := 25, slot := 15, constantValue := 0 }, { name := "T_SHORT", type := .int, accessFlags := 25, slot := 16, constantValue := 0 }, { name := "T_INT", type := .int, accessFlags := 25, slot := 17, constantValue := 0 }, { name := "T_LONG", type := .int, accessFlags := 25, slot := 18, constantValue := 0 }, { name := "JLA", type := (.object "jdk/internal/access/JavaLangAccess"), accessFlags := 26, slot := 19, constantValue := 0 }, { name := "SOFT_MAX_ARRAY_LENGTH", type := .int, accessFlags := 25, slot := 20, constantValue := 0 }]
  methods := #[k11m0]
  instanceTypes := #[]
  staticTypes := #[(.object "jdk/internal/misc/Unsafe"), .boolean, .int, .int, .int, .int, .int, .int, .int, .int, .int, .int, .int, .int, .int, .int, .int, .int, .int, (.object "jdk/internal/access/JavaLangAccess"), .int]
  resolved := Array.replicate 378 none
  statics := none }

def pool12 : Array CpInfo := pool [(1, u "java/lang/Cloneable"), (0, .class_ 1), (0, u "java/lang/Object"), (0, .class_ 3)] 3

/-- java/lang/Cloneable -/
def k12 : Class := { plain "java/lang/Cloneable" (some 0) with
  accessFlags := 1537
  interfaces := #[]
  cf := some (fileOf pool12 2 #[] #[] 1537 4 #[] #[])
  fields := #[]
  methods := #[]
  instanceTypes := #[]
  staticTypes := #[]
  resolved := Array.replicate 8 none
  statics := none }

/-- the primitive byte -/
def k13 : Class := { plain "byte" none with kind := .primitive 'B', accessFlags := 0x411 }
/-- [B -/
def k14 : Class := { plain "[B" (some 0) with kind := .array 13 .byte, interfaces := #[12, 2], accessFlags := 1041 }

/-- the primitive char -/
def k15 : Class := { plain "char" none with kind := .primitive 'C', accessFlags := 0x411 }
/-- [C -/
def k16 : Class := { plain "[C" (some 0) with kind := .array 15 .char, interfaces := #[12, 2], accessFlags := 1041 }

/-- the primitive int -/
def k17 : Class := { plain "int" none with kind := .primitive 'I', accessFlags := 0x411 }
/-- [I -/
def k18 : Class := { plain "[I" (some 0) with kind := .array 17 .int, interfaces := #[12, 2], accessFlags := 1041 }

def heap : Heap := #[{ cls := 7, slots := #[.long 0, .int 1, .null, .int 0, .null, .int 0, .int 0], vm := .statics 7 },
  { cls := 10, slots := #[.null, .null, .null], vm := .statics 10 }]
def classes : Array Class := #[k0, k1, k2, k3, k4, k5, k6, k7, k8, k9, k10, k11, k12, k13, k14, k15, k16, k17, k18]
def interned : List (Array UInt16 × Addr) := []
def slotsUsed : Nat := 10
def theMethod : MethodId := ⟨1, 2⟩
def args0 : Array Value := #[.int 5, .int 9, .int 3, .int 7]
def aboutOver (below : List Frame) : State where
  vm := { classes := classes, interned := interned.toArray }
  heap := heap
  slotsUsed := slotsUsed
  threads := #[{ frames := .invoking theMethod args0 :: below }]
def below0 : List Frame := [.native { method := ⟨0, 0⟩, args := #[] }]
def about1 : State := aboutOver below0
def p0 : Program := .bare "" "" ""
def e0 : Env := launch0.env 0 0 0
theorem w_frames : about1.frames = Frame.invoking theMethod args0 :: below0 := rfl
set_option maxRecDepth 65536 in
theorem w_args : argsFit about1.vm theMethod args0 = true := by decide +kernel
set_option maxRecDepth 65536 in
theorem w_heap : heapFits about1 = true := by decide +kernel
set_option maxRecDepth 65536 in
theorem w_runnable : about1.curStatus? = some .runnable := by decide +kernel
set_option maxRecDepth 65536 in
theorem w_alone : about1.alone = true := by decide +kernel
set_option maxRecDepth 65536 in
theorem w_named : about1.methodNamed? x = some theMethod := by decide +kernel
set_option maxRecDepth 65536 in
theorem w_hears : about1.hears theMethod below0 = true := by decide +kernel
set_option maxRecDepth 65536 in
theorem w_ripe : about1.ripe theMethod args0 below0 = true := by decide +kernel
theorem w_running : about1.status = .running := rfl
set_option maxRecDepth 65536 in
theorem w_room : about1.hasRoom e0.platform room_1 = true :=
  launch0.hasRoom_least _ room_1 (by decide +kernel) (by decide +kernel) (by decide +kernel) (by decide +kernel) (by decide +kernel) (by decide +kernel)
theorem allAtoms_all (ts : List Jvm.Cond) (a : Array Jvm.Value) (st : Jvm.State) : (allAtoms ts).before a st = ts.all (fun c => c.before a st) := by
  induction ts with
  | nil => rfl
  | cons c t ih =>
    show (Jvm.Cond.and c (allAtoms t)).before a st = _
    rw [Jvm.Cond.before_and, ih, List.all_cons]
def words1 : List Jvm.Cond := Jvm.Cond.code x code maxLocals ret :: tables_1
/-- a 'code' word, met by the world's own term for the bytes: nothing is compared byte by byte -/
theorem code_word {y : MethodName} {bytes : ByteArray} {mx : Nat} {rt : Option FieldType} {a : Array Value} {s : State} {m : MethodId} {meth : Method} {c : Code} (h1 : s.methodNamed? y = some m) (h2 : s.vm.method? m = some meth) (h3 : meth.code = some c) (h4 : c.code = bytes)
    (h5 : (c.maxLocals == mx && c.exceptionTable.isEmpty && decide (c.maxStack ≤ mostOperands) && decide (meth.sig.returnType = rt) && !meth.locks && decide (parseMethodDescriptor y.desc = some meth.sig)) = true) : (Jvm.Cond.code y bytes mx rt).before a s = true := by
  simp only [Bool.and_eq_true, beq_iff_eq, Bool.not_eq_true', decide_eq_true_eq] at h5
  obtain ⟨⟨⟨⟨⟨g1, g2⟩, g3⟩, g4⟩, g5⟩, g6⟩ := h5
  simp [Cond.before, Cond.holds, Cond.value, h1, h2, h3, h4, g1, g2, g3, g4, g5, g6]
def isCode : Jvm.Cond → Bool
  | .code _ _ _ _ => true
  | _ => false
theorem all_split {L : List Jvm.Cond} {P : Jvm.Cond → Bool} (h1 : L.all (fun c => isCode c || P c) = true) (h2 : ∀ c ∈ L.filter isCode, P c = true) : L.all P = true := by
  refine List.all_eq_true.mpr fun c hc => ?_
  have h := List.all_eq_true.mp h1 c hc
  rcases Bool.eq_false_or_eq_true (isCode c) with hi | hi
  · exact h2 c (List.mem_filter.mpr ⟨hc, hi⟩)
  · simpa [hi] using h
set_option maxRecDepth 65536 in
theorem w_c0 : (Jvm.Cond.code x code maxLocals ret).before args0 about1 = true := code_word (m := ⟨1, 2⟩) (meth := k1m2) (c := k1c2) (by decide +kernel) rfl rfl rfl (by decide +kernel)
set_option maxRecDepth 65536 in
theorem w_c1 : (Jvm.Cond.code ({ cls := "com/example/sixphase/sixphase/application/NavigationCasePrecedencePinLaw", name := "draw", desc := "(ZZI)Ljava/lang/String;" } : Jvm.MethodName) method_2_code (3 : Nat) (Option.some (Jvm.ClassFile.FieldType.object "java/lang/String"))).before args0 about1 = true := code_word (m := ⟨1, 1⟩) (meth := k1m1) (c := k1c1) (by decide +kernel) rfl rfl rfl (by decide +kernel)
set_option maxRecDepth 65536 in
theorem w_c2 : (Jvm.Cond.code ({ cls := "java/lang/String", name := "valueOf", desc := "(C)Ljava/lang/String;" } : Jvm.MethodName) jdk_42_method_139_code (1 : Nat) (Option.some (Jvm.ClassFile.FieldType.object "java/lang/String"))).before args0 about1 = true := code_word (m := ⟨7, 2⟩) (meth := k7m2) (c := k7c2) (by decide +kernel) rfl rfl rfl (by decide +kernel)
set_option maxRecDepth 65536 in
theorem w_c3 : (Jvm.Cond.code ({ cls := "java/lang/StringLatin1", name := "canEncode", desc := "(C)Z" } : Jvm.MethodName) jdk_43_method_3_code (1 : Nat) (Option.some Jvm.ClassFile.FieldType.boolean)).before args0 about1 = true := code_word (m := ⟨8, 1⟩) (meth := k8m1) (c := k8c1) (by decide +kernel) rfl rfl rfl (by decide +kernel)
set_option maxRecDepth 65536 in
theorem w_c4 : (Jvm.Cond.code ({ cls := "java/lang/StringLatin1", name := "toBytes", desc := "(C)[B" } : Jvm.MethodName) jdk_43_method_46_code (1 : Nat) (Option.some (Jvm.ClassFile.FieldType.array Jvm.ClassFile.FieldType.byte))).before args0 about1 = true := code_word (m := ⟨8, 2⟩) (meth := k8m2) (c := k8c2) (by decide +kernel) rfl rfl rfl (by decide +kernel)
set_option maxRecDepth 65536 in
theorem w_c5 : (Jvm.Cond.code ({ cls := "java/lang/String", name := "<init>", desc := "([BB)V" } : Jvm.MethodName) jdk_42_method_151_code (3 : Nat) (Option.none : Option Jvm.ClassFile.FieldType)).before args0 about1 = true := code_word (m := ⟨7, 4⟩) (meth := k7m4) (c := k7c4) (by decide +kernel) rfl rfl rfl (by decide +kernel)
set_option maxRecDepth 65536 in
theorem w_c6 : (Jvm.Cond.code ({ cls := "java/lang/Object", name := "<init>", desc := "()V" } : Jvm.MethodName) object_method_1_code (1 : Nat) (Option.none : Option Jvm.ClassFile.FieldType)).before args0 about1 = true := code_word (m := ⟨0, 0⟩) (meth := k0m0) (c := k0c0) (by decide +kernel) rfl rfl rfl (by decide +kernel)
set_option maxRecDepth 65536 in
theorem w_c7 : (Jvm.Cond.code ({ cls := "com/example/sixphase/sixphase/application/NavigationCase", name := "<init>", desc := "(Ljava/lang/String;Ljava/lang/String;Ljava/lang/String;Ljava/lang/String;ZLjava/util/Map;)V" } : Jvm.MethodName) prog_12_method_1_code (7 : Nat) (Option.none : Option Jvm.ClassFile.FieldType)).before args0 about1 = true := code_word (m := ⟨9, 0⟩) (meth := k9m0) (c := k9c0) (by decide +kernel) rfl rfl rfl (by decide +kernel)
set_option maxRecDepth 65536 in
theorem w_c8 : (Jvm.Cond.code ({ cls := "com/example/sixphase/sixphase/application/NavigationCase", name := "precedence", desc := "()I" } : Jvm.MethodName) prog_12_method_2_code (1 : Nat) (Option.some Jvm.ClassFile.FieldType.int)).before args0 about1 = true := code_word (m := ⟨9, 1⟩) (meth := k9m1) (c := k9c1) (by decide +kernel) rfl rfl rfl (by decide +kernel)
set_option maxRecDepth 65536 in
theorem w_c9 : (Jvm.Cond.code ({ cls := "java/lang/String", name := "<init>", desc := "([C)V" } : Jvm.MethodName) jdk_42_method_3_code (2 : Nat) (Option.none : Option Jvm.ClassFile.FieldType)).before args0 about1 = true := code_word (m := ⟨7, 1⟩) (meth := k7m1) (c := k7c1) (by decide +kernel) rfl rfl rfl (by decide +kernel)
set_option maxRecDepth 65536 in
theorem w_c10 : (Jvm.Cond.code ({ cls := "java/lang/String", name := "<init>", desc := "([CIILjava/lang/Void;)V" } : Jvm.MethodName) jdk_42_method_149_code (6 : Nat) (Option.none : Option Jvm.ClassFile.FieldType)).before args0 about1 = true := code_word (m := ⟨7, 3⟩) (meth := k7m3) (c := k7c3) (by decide +kernel) rfl rfl rfl (by decide +kernel)
def codes1 : List Jvm.Cond := [Jvm.Cond.code x code maxLocals ret, Jvm.Cond.code ({ cls := "com/example/sixphase/sixphase/application/NavigationCasePrecedencePinLaw", name := "draw", desc := "(ZZI)Ljava/lang/String;" } : Jvm.MethodName) method_2_code (3 : Nat) (Option.some (Jvm.ClassFile.FieldType.object "java/lang/String")), Jvm.Cond.code ({ cls := "java/lang/String", name := "valueOf", desc := "(C)Ljava/lang/String;" } : Jvm.MethodName) jdk_42_method_139_code (1 : Nat) (Option.some (Jvm.ClassFile.FieldType.object "java/lang/String")), Jvm.Cond.code ({ cls := "java/lang/StringLatin1", name := "canEncode", desc := "(C)Z" } : Jvm.MethodName) jdk_43_method_3_code (1 : Nat) (Option.some Jvm.ClassFile.FieldType.boolean), Jvm.Cond.code ({ cls := "java/lang/StringLatin1", name := "toBytes", desc := "(C)[B" } : Jvm.MethodName) jdk_43_method_46_code (1 : Nat) (Option.some (Jvm.ClassFile.FieldType.array Jvm.ClassFile.FieldType.byte)), Jvm.Cond.code ({ cls := "java/lang/String", name := "<init>", desc := "([BB)V" } : Jvm.MethodName) jdk_42_method_151_code (3 : Nat) (Option.none : Option Jvm.ClassFile.FieldType), Jvm.Cond.code ({ cls := "java/lang/Object", name := "<init>", desc := "()V" } : Jvm.MethodName) object_method_1_code (1 : Nat) (Option.none : Option Jvm.ClassFile.FieldType), Jvm.Cond.code ({ cls := "com/example/sixphase/sixphase/application/NavigationCase", name := "<init>", desc := "(Ljava/lang/String;Ljava/lang/String;Ljava/lang/String;Ljava/lang/String;ZLjava/util/Map;)V" } : Jvm.MethodName) prog_12_method_1_code (7 : Nat) (Option.none : Option Jvm.ClassFile.FieldType), Jvm.Cond.code ({ cls := "com/example/sixphase/sixphase/application/NavigationCase", name := "precedence", desc := "()I" } : Jvm.MethodName) prog_12_method_2_code (1 : Nat) (Option.some Jvm.ClassFile.FieldType.int), Jvm.Cond.code ({ cls := "java/lang/String", name := "<init>", desc := "([C)V" } : Jvm.MethodName) jdk_42_method_3_code (2 : Nat) (Option.none : Option Jvm.ClassFile.FieldType), Jvm.Cond.code ({ cls := "java/lang/String", name := "<init>", desc := "([CIILjava/lang/Void;)V" } : Jvm.MethodName) jdk_42_method_149_code (6 : Nat) (Option.none : Option Jvm.ClassFile.FieldType)]
set_option maxRecDepth 65536 in
theorem codes_eq : words1.filter isCode = codes1 := rfl
theorem w_codes : ∀ c ∈ words1.filter isCode, c.before args0 about1 = true := by
  rw [codes_eq]
  intro c hc
  simp only [codes1, List.mem_cons, List.not_mem_nil, or_false] at hc
  rcases hc with rfl | rfl | rfl | rfl | rfl | rfl | rfl | rfl | rfl | rfl | rfl
  · exact w_c0
  · exact w_c1
  · exact w_c2
  · exact w_c3
  · exact w_c4
  · exact w_c5
  · exact w_c6
  · exact w_c7
  · exact w_c8
  · exact w_c9
  · exact w_c10
set_option maxRecDepth 65536 in
theorem w_t1 : (words1.take 24).all (fun c => isCode c || c.before args0 about1) = true := by decide +kernel
set_option maxRecDepth 65536 in
theorem w_t2 : ((words1.drop 24).take 24).all (fun c => isCode c || c.before args0 about1) = true := by decide +kernel
set_option maxRecDepth 65536 in
theorem w_t3 : ((words1.drop 24).drop 24).all (fun c => isCode c || c.before args0 about1) = true := by decide +kernel
theorem w_tables : (allAtoms (Jvm.Cond.code x code maxLocals ret :: tables_1)).before args0 about1 = true := by
  rw [allAtoms_all]
  show words1.all (fun c => c.before args0 about1) = true
  refine all_split ?_ w_codes
  rw [← List.take_append_drop 24 words1, List.all_append, w_t1, ← List.take_append_drop 24 (words1.drop 24), List.all_append, w_t2, w_t3]
  rfl
set_option maxRecDepth 65536 in
theorem w_rest : rest_1_c.before args0 about1 = true := by decide +kernel
set_option maxRecDepth 65536 in
theorem w_case : (Jvm.Cond.and given_1 narrow_1).before args0 about1 = true := by decide +kernel
set_option maxRecDepth 65536 in
theorem w_consts : constsHeld consts_1 about1 := Jvm.Lit.constsHeldB_iff.mp (by decide +kernel)
theorem w_applies : (headSpec (Jvm.Cond.code x code maxLocals ret :: tables_1) room_1).applies x e0.platform about1 = true :=
  (Spec.applies_iff w_frames).mpr ⟨w_running, w_runnable, w_alone, w_named, w_hears, w_ripe, w_room, w_tables⟩
theorem atStart : AtStart classFile x code maxLocals ret World_1 tables_1 room_1 Calls_1 rest_1 Pre_1 launch0 p0 e0 about1 theMethod args0 below0 :=
  ⟨lists_1, trivial, launch0.admits_env _ _ _, launch0.least_env, fairChoices_fair.cas, fairChoices_fair.clock, w_frames, w_args, w_heap, w_applies, ⟨w_consts, trivial⟩, w_rest, w_case⟩
end start1
theorem witness_1 : WitnessClaimed_1 := ⟨start1.p0, start1.e0, start1.about1, start1.theMethod, start1.args0, start1.below0, start1.atStart⟩
end Jvm.Pilot.@@N@@
