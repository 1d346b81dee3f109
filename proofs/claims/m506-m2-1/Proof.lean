import JvmDerived
import JvmDerived.Pilot.@@N@@Statement
import JvmDerived.Pilot.@@N@@Code
set_option linter.unusedVariables false
set_option linter.unusedSimpArgs false
namespace Jvm.OwnGo
open Sem ClassFile Op Lib Jvm.Stand Jvm.Free Jvm.LawKit Jvm.RoadKit
section Own
variable {p : Program} {l : Launch} {e : Env} {R : Room} {s : State} {m : MethodId} {args : Array Value} {below : List Frame} {meth : Method} {c : Code} {T T' : State} {locs : List Loc} {cells slots : Nat} {P : Outcome → State → Prop} {g g' : JFrame} {Z : State} {h : Heap}
/-- from where the walk stands (the state T, the frame g) it ends well -/
def Go (p : Program) (e : Env) (below : List Frame) (P : Outcome → State → Prop) (T : State) (g : JFrame) : Prop :=
  ∃ s₂ o, Steps p.tables e below (T.setTop g) s₂ ∧ s₂.status = .running ∧ Ended s₂ below o ∧ P o s₂
/-- what a contract asks of the end -/
abbrev PQ (s : State) (C S : Nat) (Q : Option Value → Heap → List Loc → Prop) : Outcome → State → Prop := fun o U' => ∃ v L, o = .returned v ∧ Q v U'.heap L ∧ FrameEnd s o U' L C S
theorem goS {n : Nat} {Ls' : Array Slot} {st' : List Value} (k : ∀ t, Steps p.tables e below (T'.setTop (mkF m n Ls' st')) t → Steps p.tables e below (T.setTop g) t) (h : Go p e below P T' (mkF m n Ls' st')) : Go p e below P T g := by
  obtain ⟨s2, o, h1, h2⟩ := h; exact ⟨s2, o, k _ h1, h2⟩
theorem goT {n : Nat} {Ls' : Array Slot} {st' : List Value} (k : Steps p.tables e below (T.setTop g) (T'.setTop (mkF m n Ls' st'))) (h : Go p e below P T' (mkF m n Ls' st')) : Go p e below P T g := by
  obtain ⟨s2, o, h1, h2⟩ := h; exact ⟨s2, o, k.trans h1, h2⟩
theorem enter (q : entryFrame m args n = g) (h : Go p e below P T g) : ∃ s₂ o, Steps p.tables e below (T.setTop (entryFrame m args n)) s₂ ∧ s₂.status = .running ∧ Ended s₂ below o ∧ P o s₂ := by
  rw [q]; exact h
theorem goRet {Q : Option Value → Heap → List Loc → Prop} {C S : Nat} (X : Stand p l e R s m args below meth c T locs cells slots) (hx : p.tables.exec = Jvm.exec) (hlk : meth.locks = false) {pc : Nat} {Ls : Array Slot} {w : Value} {t : FieldType} {i : Instr} {rest : List Value} (hret : meth.sig.returnType = some t) (hn : narrow t w = w)
    (hi : (i = .ireturn ∧ (t = .int ∨ t = .boolean ∨ t = .byte ∨ t = .char ∨ t = .short) ∧ ∃ z, w = .int z) ∨ (i = .lreturn ∧ t = .long ∧ ∃ z, w = .long z) ∨ (i = .dreturn ∧ t = .double ∧ ∃ z, w = .double z) ∨ (i = .freturn ∧ t = .float ∧ ∃ z, w = .float z) ∨ (i = .areturn ∧ t.isReference = true ∧ w.isRef = true))
    (hd : decode c.code pc = .ok (i, 1)) (hC : cells ≤ C) (hS : slots ≤ S) (hQ : Q (some w) T.heap locs) : Go p e below (PQ s C S Q) T (mkF m pc Ls (w :: rest)) := by
  obtain ⟨fs, hr, hrun, hended, hW, hsame⟩ := X.leave (v := some w) (fun h => by rw [hret] at h; cases h) hlk
  exact ⟨_, _, retOut X hx hret hn hi hd hr, hrun, hended, _, _, rfl, hQ, ⟨_, rfl⟩, hW, hsame.mono hC hS⟩
theorem goRetI {Q : Option Value → Heap → List Loc → Prop} {C S : Nat} (X : Stand p l e R s m args below meth c T locs cells slots) (hx : p.tables.exec = Jvm.exec) (hlk : meth.locks = false) {pc : Nat} {Ls : Array Slot} {z : Int32} {rest : List Value} (hret : meth.sig.returnType = some .int) (hd : decode c.code pc = .ok (.ireturn, 1)) (hC : cells ≤ C) (hS : slots ≤ S) (hQ : Q (some (.int z)) T.heap locs) : Go p e below (PQ s C S Q) T (mkF m pc Ls (.int z :: rest)) :=
  goRet X hx hlk hret rfl (Or.inl ⟨rfl, Or.inl rfl, _, rfl⟩) hd hC hS hQ
theorem goRetZ {Q : Option Value → Heap → List Loc → Prop} {C S : Nat} (X : Stand p l e R s m args below meth c T locs cells slots) (hx : p.tables.exec = Jvm.exec) (hlk : meth.locks = false) {pc : Nat} {Ls : Array Slot} {z : Int32} {rest : List Value} (hret : meth.sig.returnType = some .boolean) (hz : z = 0 ∨ z = 1) (hd : decode c.code pc = .ok (.ireturn, 1)) (hC : cells ≤ C) (hS : slots ≤ S) (hQ : Q (some (.int z)) T.heap locs) : Go p e below (PQ s C S Q) T (mkF m pc Ls (.int z :: rest)) :=
  goRet X hx hlk hret (by rcases hz with rfl | rfl <;> rfl) (Or.inl ⟨rfl, Or.inr (Or.inl rfl), _, rfl⟩) hd hC hS hQ
theorem goRetJ {Q : Option Value → Heap → List Loc → Prop} {C S : Nat} (X : Stand p l e R s m args below meth c T locs cells slots) (hx : p.tables.exec = Jvm.exec) (hlk : meth.locks = false) {pc : Nat} {Ls : Array Slot} {z : Int64} {rest : List Value} (hret : meth.sig.returnType = some .long) (hd : decode c.code pc = .ok (.lreturn, 1)) (hC : cells ≤ C) (hS : slots ≤ S) (hQ : Q (some (.long z)) T.heap locs) : Go p e below (PQ s C S Q) T (mkF m pc Ls (.long z :: rest)) :=
  goRet X hx hlk hret rfl (Or.inr (Or.inl ⟨rfl, rfl, _, rfl⟩)) hd hC hS hQ
theorem goRetA {Q : Option Value → Heap → List Loc → Prop} {C S : Nat} (X : Stand p l e R s m args below meth c T locs cells slots) (hx : p.tables.exec = Jvm.exec) (hlk : meth.locks = false) {pc : Nat} {Ls : Array Slot} {w : Value} {t : FieldType} {rest : List Value} (hret : meth.sig.returnType = some t) (ht : t.isReference = true) (hw : w.isRef = true) (hd : decode c.code pc = .ok (.areturn, 1)) (hC : cells ≤ C) (hS : slots ≤ S) (hQ : Q (some w) T.heap locs) : Go p e below (PQ s C S Q) T (mkF m pc Ls (w :: rest)) :=
  goRet X hx hlk hret (by cases t <;> first | rfl | cases ht) (Or.inr (Or.inr (Or.inr (Or.inr ⟨rfl, ht, hw⟩)))) hd hC hS hQ
theorem goRetV {Q : Option Value → Heap → List Loc → Prop} {C S : Nat} (X : Stand p l e R s m args below meth c T locs cells slots) (hx : p.tables.exec = Jvm.exec) (hlk : meth.locks = false) {pc : Nat} {Ls : Array Slot} (hret : meth.sig.returnType = none) (hd : decode c.code pc = .ok (.return_, 1)) (hC : cells ≤ C) (hS : slots ≤ S) (hQ : Q none T.heap locs) : Go p e below (PQ s C S Q) T (mkF m pc Ls []) := by
  obtain ⟨fs, hr, hrun, hended, hW, hsame⟩ := X.leave (v := none) (fun _ => rfl) hlk
  exact ⟨_, _, X.returnOut hx hret hd hr, hrun, hended, _, _, rfl, hQ, ⟨_, rfl⟩, hW, hsame.mono hC hS⟩
abbrev PQW (s : State) (C S : Nat) (Q : Option Value → Heap → List Loc → Prop) : Outcome → State → Prop := fun o U' => ∃ v L, o = .returned v ∧ Q v U'.heap L ∧ ReturnedEndW s o U' L C S
theorem goRetW {Q : Option Value → Heap → List Loc → Prop} {C S : Nat} {vm₁ : Vm} (X : Stand p l e R (s.setVm vm₁) m args below meth c T locs cells slots) (hx : p.tables.exec = Jvm.exec) (hlk : meth.locks = false) {n : Nat} (hS : s.Since vm₁ n) (hn0 : n ≤ T.heap.size) {pc : Nat} {Ls : Array Slot} {w : Value} {t : FieldType} {i : Instr} {rest : List Value} (hret : meth.sig.returnType = some t) (hn : narrow t w = w)
    (hi : (i = .ireturn ∧ (t = .int ∨ t = .boolean ∨ t = .byte ∨ t = .char ∨ t = .short) ∧ ∃ z, w = .int z) ∨ (i = .lreturn ∧ t = .long ∧ ∃ z, w = .long z) ∨ (i = .dreturn ∧ t = .double ∧ ∃ z, w = .double z) ∨ (i = .freturn ∧ t = .float ∧ ∃ z, w = .float z) ∨ (i = .areturn ∧ t.isReference = true ∧ w.isRef = true))
    (hd : decode c.code pc = .ok (i, 1)) (hC : cells ≤ C) (hSl : slots ≤ S) (hQ : Q (some w) T.heap locs) : Go p e below (PQW s C S Q) T (mkF m pc Ls (w :: rest)) := by
  obtain ⟨fs, hr, hrun, hended, h1, h2, h3, h4⟩ := X.leaveW hS hn0 (v := some w) (fun h => by rw [hret] at h; cases h) hlk
  exact ⟨_, _, retOut X hx hret hn hi hd hr, hrun, hended, _, _, rfl, hQ, ⟨_, rfl⟩, h2, h3, h4.mono hC hSl⟩
theorem goRetVW {Q : Option Value → Heap → List Loc → Prop} {C S : Nat} {vm₁ : Vm} (X : Stand p l e R (s.setVm vm₁) m args below meth c T locs cells slots) (hx : p.tables.exec = Jvm.exec) (hlk : meth.locks = false) {n : Nat} (hS : s.Since vm₁ n) (hn0 : n ≤ T.heap.size) {pc : Nat} {Ls : Array Slot} (hret : meth.sig.returnType = none) (hd : decode c.code pc = .ok (.return_, 1)) (hC : cells ≤ C) (hSl : slots ≤ S) (hQ : Q none T.heap locs) : Go p e below (PQW s C S Q) T (mkF m pc Ls []) := by
  obtain ⟨fs, hr, hrun, hended, h1, h2, h3, h4⟩ := X.leaveW hS hn0 (v := none) (fun _ => rfl) hlk
  exact ⟨_, _, X.returnOut hx hret hd hr, hrun, hended, _, _, rfl, hQ, ⟨_, rfl⟩, h2, h3, h4.mono hC hSl⟩
abbrev PQH (Z : State) (EL : List (String × Nat)) (s : State) (C S : Nat) (Q : Option Value → Heap → List Loc → Prop) : Outcome → State → Prop := fun o U' => ∃ v L, o = .returned v ∧ Q v U'.heap L ∧ CHr Z EL s.vm s.heap U'.vm U'.heap ∧ ReturnedEndW s o U' L C S
theorem goRetH {Q : Option Value → Heap → List Loc → Prop} {C S : Nat} {vm₁ : Vm} {EL : List (String × Nat)} {a0 : Array Value} (X : Stand p l e R (s.setVm vm₁) m args below meth c T locs cells slots) (hx : p.tables.exec = Jvm.exec) (hlk : meth.locks = false) {n : Nat} (hS : s.Since vm₁ n) (hn0 : n ≤ T.heap.size) (hZ : Z.Warmed39 vm₁) (hEL : EW Z a0 EL) (hC' : CHr Z EL s.vm s.heap vm₁ T.heap) {pc : Nat} {Ls : Array Slot} {w : Value} {t : FieldType} {i : Instr} {rest : List Value} (hret : meth.sig.returnType = some t) (hn : narrow t w = w)
    (hi : (i = .ireturn ∧ (t = .int ∨ t = .boolean ∨ t = .byte ∨ t = .char ∨ t = .short) ∧ ∃ z, w = .int z) ∨ (i = .lreturn ∧ t = .long ∧ ∃ z, w = .long z) ∨ (i = .dreturn ∧ t = .double ∧ ∃ z, w = .double z) ∨ (i = .freturn ∧ t = .float ∧ ∃ z, w = .float z) ∨ (i = .areturn ∧ t.isReference = true ∧ w.isRef = true))
    (hd : decode c.code pc = .ok (i, 1)) (hC : cells ≤ C) (hSl : slots ≤ S) (hQ : Q (some w) T.heap locs) : Go p e below (PQH Z EL s C S Q) T (mkF m pc Ls (w :: rest)) := by
  obtain ⟨fs, hr, hrun, hended, h1, h2, h3, h4⟩ := X.leaveW hS hn0 (v := some w) (fun h => by rw [hret] at h; cases h) hlk
  have qC : CHr Z EL s.vm s.heap T.vm T.heap := hC'.trans (CHv.at X hZ hEL hC'.1)
  exact ⟨_, _, retOut X hx hret hn hi hd hr, hrun, hended, _, _, rfl, hQ, qC, ⟨_, rfl⟩, h2, h3, h4.mono hC hSl⟩
theorem goRetVH {Q : Option Value → Heap → List Loc → Prop} {C S : Nat} {vm₁ : Vm} {EL : List (String × Nat)} {a0 : Array Value} (X : Stand p l e R (s.setVm vm₁) m args below meth c T locs cells slots) (hx : p.tables.exec = Jvm.exec) (hlk : meth.locks = false) {n : Nat} (hS : s.Since vm₁ n) (hn0 : n ≤ T.heap.size) (hZ : Z.Warmed39 vm₁) (hEL : EW Z a0 EL) (hC' : CHr Z EL s.vm s.heap vm₁ T.heap) {pc : Nat} {Ls : Array Slot} (hret : meth.sig.returnType = none) (hd : decode c.code pc = .ok (.return_, 1)) (hC : cells ≤ C) (hSl : slots ≤ S) (hQ : Q none T.heap locs) : Go p e below (PQH Z EL s C S Q) T (mkF m pc Ls []) := by
  obtain ⟨fs, hr, hrun, hended, h1, h2, h3, h4⟩ := X.leaveW hS hn0 (v := none) (fun _ => rfl) hlk
  have qC : CHr Z EL s.vm s.heap T.vm T.heap := hC'.trans (CHv.at X hZ hEL hC'.1)
  exact ⟨_, _, X.returnOut hx hret hd hr, hrun, hended, _, _, rfl, hQ, qC, ⟨_, rfl⟩, h2, h3, h4.mono hC hSl⟩
/-- a String under construction (its value is null) is no booked one -/
theorem safeNull {vm : Vm} {EL : List (String × Nat)} {a : Addr} (hal : Z.vm.Alike vm) (E : Exa Z h a "java/lang/String") (F : Fld Z h a "java/lang/String" "value" "[B" .null) : Safe Z EL vm h a := fun B => by
  obtain ⟨cell, cf, k, i, f, f1, f2, f3, f4, f5, f6, f7⟩ := F
  obtain ⟨cell', k', e1, e2, e3, -, -⟩ := E
  cases f1.symm.trans e1
  obtain ⟨p, -, u, a', -, q, -, F', rfl | rfl⟩ := B
  · have ha := F'.ha
    cases (show h[q.sa]? = some q.sC from ha).symm.trans f1
    obtain ⟨cS, ⟨⟨-, -, -, ⟨cv, kv, iv, s4, -⟩, -, -, -, s8, -⟩, -⟩, -⟩ := F'
    obtain ⟨kv', z4⟩ := ff_back (U := Wst Z vm h) hal s4
    cases f2.symm.trans z4
    rw [f7] at s8
    cases s8
  · have hd := F'.hd
    cases (show h[q.sd]? = some q.SA from hd).symm.trans f1
    obtain ⟨cS, -, -, hB, -⟩ := F'
    have hB' : Z.vm.findClass "[B" = some q.SA.cls := by rw [← hal.findClass]; exact hB
    obtain ⟨k1, q1, q2⟩ := Vm.findClass_spec hB'
    obtain ⟨k2, q3, q4⟩ := Vm.findClass_spec e2
    cases q1.symm.trans q3
    exact absurd (q2.symm.trans q4) (by decide)
theorem mvMN {a0 args : Array Value} {own host : String} {y : MethodName} {index : Nat} (hZ : Z.Warmed39 s.vm) (w : (Cond.methodLinkNest own index y host).before a0 Z = true) : (Cond.methodLinkNest own index y host).before args s = true := (Cond.methodLinkNest_wide hZ w :)
theorem shr0 (z : Int32) : z >>> ((0 : Int32) &&& 31) = z := by
  have h := c_ishr z 0 0 (by decide)
  exact Int32.toInt_inj.mp (by rw [h]; omega)
theorem narZ {z : Int32} (hz : z = 0 ∨ z = 1) : narrow .boolean (.int z) = .int z := by rcases hz with rfl | rfl <;> rfl
theorem fldStart {args : Array Value} {t : Term} {C n d : String} {a : Addr} {k : Int32} (ht : t.eval args Z none [] Z = some (.ref a)) (h : (Cond.eq (Term.field t C n d) (.int k)).value args Z none Z [] = some true) : Fld Z Z.heap a C n d (.int k) := by
  obtain ⟨x, y, e1, e2, k1, k2⟩ := cmp_v (Or.inl h)
  rw [Term.int_eval] at e2
  cases e2
  obtain ⟨z, rfl⟩ := k2
  have e3 := e1
  rw [fld_at ht] at e3
  have q : z = k := by simpa [Cond.value, e1, Term.int_eval] using h
  subst q
  exact Fld.start e3
def bi (P : Prop) [Decidable P] : Int32 := if P then 1 else 0
theorem bi_t {P : Prop} [Decidable P] (h : P) : bi P = 1 := if_pos h
theorem bi_f {P : Prop} [Decidable P] (h : ¬ P) : bi P = 0 := if_neg h
theorem bi01 (P : Prop) [Decidable P] : bi P = 0 ∨ bi P = 1 := by unfold bi; split <;> simp
theorem modk (x k : Int32) (K : Int) (hk : k.toInt = K) : 0 < K → 0 ≤ ((x &&& 2147483647) % k).toInt ∧ ((x &&& 2147483647) % k).toInt < K := by
  intro h0
  have h1 := c_mask x 2147483647 31 (by decide) (by decide)
  have h2 : 0 ≤ (x &&& 2147483647).toInt := by rw [h1]; omega
  have h3 := (c_irem (x &&& 2147483647) k K hk).1 h2
  rw [h3]
  exact ⟨Int.emod_nonneg _ (by omega), Int.emod_lt_of_pos _ h0⟩
/-- an index: a natural below n -/
theorem idx {i : Int32} {n : Nat} (h : 0 ≤ i.toInt ∧ i.toInt < (n : Int)) : ∃ k : Nat, k < n ∧ i.toInt = (k : Int) ∧ i.toNatClampNeg = k ∧ ¬ i < 0 := by
  have h0 : ¬ i < 0 := by rw [Int32.lt_iff_toInt_lt]; show ¬ i.toInt < 0; omega
  have h1 := nat_of h0
  exact ⟨i.toNatClampNeg, by omega, h1, rfl, h0⟩
theorem lsw {target : State} (X : Stand p l e R s m args below meth c T locs cells slots) (hx : p.tables.exec = Jvm.exec) (hg : g.method = m) {dflt : Int} {pairs : Array (Int × Int)} {len pc0 pc' : Nat} (hpc : g.pc = pc0) {o : Int} {i : Int32} {rest : List Value} (hd : decode c.code g.pc = .ok (.lookupswitch dflt pairs, len)) (hs : g.stack = .int i :: rest)
    (hord : ∀ (a b a_1 b_1 : Int), ((a, b), a_1, b_1) ∈ pairs.toList.zip pairs.toList.tail → a < a_1) (hf : (∃ kk, pairs.find? (·.1 == i.toInt) = some (kk, o)) ∨ (pairs.find? (·.1 == i.toInt) = none ∧ o = dflt)) (h0 : 0 ≤ (pc0 : Int) + o) (hp : ((pc0 : Int) + o).toNat = pc')
    (hr : Steps p.tables e below (T.setTop { g with pc := pc', stack := rest }) target) : Steps p.tables e below (T.setTop g) target := by
  subst hg hpc hp
  rcases hf with ⟨kk, hf⟩ | ⟨hf, rfl⟩
  · jvm_step X.here [X.here.top, hx, hd, hs, hf, h0, lookupswitch.wp_whole]
    exact ⟨hord, hr⟩
  · jvm_step X.here [X.here.top, hx, hd, hs, hf, h0, lookupswitch.wp_whole]
    exact ⟨hord, hr⟩
theorem ieq {x k : Int32} {n K : Nat} (hx : x.toInt = (n : Int)) (hk : k.toInt = (K : Int)) : x = k ↔ n = K := by rw [← Int32.toInt_inj, hx, hk]; omega
theorem lenStart {args : Array Value} {t : Term} {a : Addr} {cl : Cell} {ty : FieldType} {z : Int32} (ht : t.eval args Z none [] Z = some (.ref a)) (A : Arr Z Z.heap a cl ty) (h : (Term.length t).eval args Z none [] Z = some (.int z)) : cl.slots.size < 2 ^ 31 ∧ cl.slots.size.toInt32 = z := by
  have ha := A.fin (U := Z) (Vm.Alike.refl _)
  by_cases q : cl.slots.size < 2 ^ 31
  · refine ⟨q, ?_⟩
    rw [len_f ht ha q] at h
    exact Value.int.inj (Option.some.inj h)
  · simp [Term.eval, ht, ha, q] at h
theorem subIdx {args : Array Value} {j : Int32} (hj : ¬ j < 0) (k : Int32) : (Term.sub (.index 0) (.int k)).eval args Z none [j.toNatClampNeg] Z = some (.int (j - k)) := Term.sub_int (idx_at hj) (Term.int_eval _)
theorem bi_iff {P Q : Prop} [Decidable P] [Decidable Q] (h : P ↔ Q) : bi P = bi Q := by unfold bi; simp only [h]
theorem cacheIdx {x : Int32} {n : Nat} (h1 : ¬ x < (-128 : Int32)) (h2 : ¬ (127 : Int32) < x) (hn : n = (256 : Int32).toNatClampNeg) : ¬ (x + (128 : Int32) < 0 ∨ n ≤ (x + (128 : Int32)).toNatClampNeg) := by
  rw [Int32.lt_iff_toInt_lt] at h1 h2
  have a1 : ¬ x.toInt < -128 := h1
  have a2 : ¬ (127 : Int) < x.toInt := h2
  have q0 : (128 : Int32).toInt = 128 := rfl
  have q := c_iadd x 128
  have r := rng32 (x + 128)
  rw [q0] at q
  have e1 : (x + (128 : Int32)).toInt = x.toInt + 128 := by omega
  have e2 : ¬ x + (128 : Int32) < 0 := by rw [Int32.lt_iff_toInt_lt]; show ¬ _ < (0 : Int); omega
  have e3 := nat_of e2
  have e4 : n = 256 := hn
  rintro (h | h)
  · exact e2 h
  · omega
theorem nsRoot {a0 : Array Value} {O K : String} {n : Nat} (w : (Cond.noSuperclass O).before a0 Z = true) (wk : (Cond.instantiable K n).before a0 Z = true) (hn : O ≠ K) : NS Z O K := by
  obtain ⟨c, k, h1, h2, h3, -, -⟩ := Cond.noSuperclass_spec w
  obtain ⟨t, kt, g1, -⟩ := Cond.instantiable_spec wk
  have ne := ids_ne h1 g1 hn
  refine ⟨c, t, h1, g1, fun fuel => ?_⟩
  cases fuel with
  | zero => rfl
  | succ f => simp [Vm.isSubclassAux, ne, h2, h3]
theorem nsNo {a0 : Array Value} {C S K : String} {n : Nat} (w : (Cond.superclass C S).before a0 Z = true) (wk : (Cond.instantiable K n).before a0 Z = true) (q : NS Z C K) (hn : C ≠ K) : ∃ c t, Z.vm.findClass C = some c ∧ Z.vm.findClass K = some t ∧ Z.vm.assignable c t = false := by
  obtain ⟨c, t, h0, g0, n3⟩ := q
  obtain ⟨p, k, kp, h1, h2, h3, h4, h5, -, h7⟩ := Cond.superclass_spec h0 w
  obtain ⟨t', k', g1, g2, g5, g7, -⟩ := Cond.instantiable_spec wk
  cases g0.symm.trans g1
  have g8 := (Bool.or_eq_false_iff.mp g7).1
  have ne := ids_ne h0 g0 hn
  refine ⟨c, t, h0, g0, ?_⟩
  show Z.vm.assignableAux (255 + 1) c t = false
  simp [Vm.assignableAux, ne, h2, g2, h5, g5, g8, Vm.isSubclass, n3]
theorem ne_key {x k : Int32} {K : Int} (h : ¬ x = k) (hk : k.toInt = K) : K ≠ x.toInt := fun q => h (Int32.toInt_inj.mp (by rw [hk]; exact q.symm))
end Own
end Jvm.OwnGo

namespace Jvm.Pilot.@@N@@
open Jvm Jvm.ClassFile Sem Op Lib Jvm.Free Jvm.Stand Jvm.LawKit Jvm.RoadKit Jvm.OwnGo Bundle Jvm.Pilot.@@N@@.Jvm.D
theorem d1_0 : decode prog_4_method_5_code 0 = .ok (.aload_n 0, 1) := by decide +kernel
theorem d1_1 : decode prog_4_method_5_code 1 = .ok (.getstatic 10, 3) := by decide +kernel
theorem d1_4 : decode prog_4_method_5_code 4 = .ok (.if_acmp .ne 9, 3) := by decide +kernel
theorem d1_7 : decode prog_4_method_5_code 7 = .ok (.getstatic 7, 3) := by decide +kernel
theorem d1_10 : decode prog_4_method_5_code 10 = .ok (.goto 4, 3) := by decide +kernel
theorem d1_14 : decode prog_4_method_5_code 14 = .ok (.areturn, 1) := by decide +kernel
theorem d1_13 : decode prog_4_method_5_code 13 = .ok (.aload_n 0, 1) := by decide +kernel
theorem pn_0 : plainName "com/example/sixphase/bench/Mode" = true := by first | (simp [plainName, overriddenIn]; done) | decide +kernel
theorem ef_base (m : MethodId) (a : Addr) : entryFrame m #[(.ref a)] 1 = mkF m 0 #[.val (.ref a)] [] := by first | (simp [entryFrame, mkF, argsToLocals, Value.category]; done) | rfl
abbrev R_base : Room := { frames := 0, cells := 0, slots := 0, locals := 0 }
def Q_base (Z : State) (a : Addr) (wP : Addr) (wA : Addr) (h0 : Heap) (n0 : Nat) (v : Option Value) (h : Heap) (L : List Loc) : Prop := v = some (.ref (if a = wA then wP else a)) ∧ Fr n0 L ∧ h = h0
set_option maxRecDepth 65536 in
set_option maxHeartbeats 40000000 in
theorem rm_base (l : Launch) (Z : State) (a0 : Array Value) (hw : ∀ d ∈ tables_1, d.before a0 Z = true) (ws : List Jvm.Cond) (a : Addr) (wP : Addr) (wA : Addr) (h0 : Heap) (n0 : Nat) (O0 : Old Z n0 h0) (S_POST : Sta Z Z.heap "com/example/sixphase/bench/Mode" "POST" "Lcom/example/sixphase/bench/Mode;" (.ref wP)) (S_AJAX : Sta Z Z.heap "com/example/sixphase/bench/Mode" "AJAX" "Lcom/example/sixphase/bench/Mode;" (.ref wA)) :
    MetFree l (⟨"com/example/sixphase/bench/Mode", "baseline", "()Lcom/example/sixphase/bench/Mode;"⟩ : MethodName) (head1 (Jvm.Cond.code (⟨"com/example/sixphase/bench/Mode", "baseline", "()Lcom/example/sixphase/bench/Mode;"⟩ : MethodName) prog_4_method_5_code 1 (some (.object "com/example/sixphase/bench/Mode")) :: ws) R_base) (fun as_ U => as_ = #[(.ref a)] ∧ Z.Warmed39 U.vm ∧ U.heap = h0) (fun _ _ _ _ _ => True) (fun _ U o U' => ∃ v L, o = .returned v ∧ Q_base Z a wP wA h0 n0 v U'.heap L ∧ FrameEnd U o U' L R_base.cells R_base.slots) := by
  refine MetFree.of_bodySF (plainFor_of_name pn_0) hisR ?_
  intro p e s m args below meth c s₁ Bd hml0 hP hK
  obtain ⟨rfl, hZ, hh⟩ := hP
  have hx := Bd.exec
  have hby := Bd.bytes
  have hml : c.maxLocals = 1 := hml0
  have hown : s.vm.findClass "com/example/sixphase/bench/Mode" = some m.cls := findClass_of_methodNamed Bd.named
  have hnm := (name_of_methodNamed Bd.named Bd.method).1
  have hlk : meth.locks = false := BodyLoose.notSynchronized Bd
  have X0 : Stand p l e R_base s m #[(.ref a)] below meth c s₁ [] 0 0 := Stand.of_body Bd
  have e0 : s₁.heap = h0 := by rw [← hh, Bd.state]; rfl
  have N0 := Fr.nil n0
  refine enter (P := PQ s R_base.cells R_base.slots (Q_base Z a wP wA h0 n0)) (ef_base m a) ?_
  refine goS (n := 1) (Ls' := #[.val (.ref a)]) (st' := [(.ref a)]) (fun _ k => XS.aloadN X0.here hx rfl (hb hby d1_0) rfl rfl k) ?_
  obtain ⟨T1, X1, e1, st1⟩ := getS2 X0 hx hZ hown (host := "") (Or.inl (hw _ (List.mem_of_getElem? (i := 9) rfl))) Via.refl e0 (S_AJAX.ext O0.2) (g := (mkF m 1 #[.val (.ref a)] [(.ref a)])) rfl (hb hby d1_1)
  refine goS (n := 4) (Ls' := #[.val (.ref a)]) (st' := [(.ref wA), (.ref a)]) st1 ?_
  by_cases hc2 : a = wA
  · refine goS (n := 7) (Ls' := #[.val (.ref a)]) (st' := []) (fun _ k => Jvm.RoadKit.acmp (g := (mkF m 4 #[.val (.ref a)] [(.ref wA), (.ref a)])) X1 hx rfl rfl rfl (pc0 := 4) (pc' := 7) (same := true) rfl (hb hby d1_4) rfl (decide_eq_true (congrArg Value.ref hc2)) (by decide) (by decide) k) ?_
    obtain ⟨T3, X3, e3, st3⟩ := getS2 X1 hx hZ hown (host := "") (Or.inl (hw _ (List.mem_of_getElem? (i := 14) rfl))) Via.refl e1 (S_POST.ext O0.2) (g := (mkF m 7 #[.val (.ref a)] [])) rfl (hb hby d1_7)
    refine goS (n := 10) (Ls' := #[.val (.ref a)]) (st' := [(.ref wP)]) st3 ?_
    refine goS (n := 14) (Ls' := #[.val (.ref a)]) (st' := [(.ref wP)]) (fun _ k => XS.goto X3.here hx rfl (pc0 := 10) (pc' := 14) rfl (hb hby d1_10) (by decide) (by decide) k) ?_
    exact goRetA X3 hx hlk Bd.returns rfl rfl (hb hby d1_14) (by decide) (by decide) (by rw [e3]; exact ⟨by rw [if_pos hc2], N0, rfl⟩)
  · refine goS (n := 13) (Ls' := #[.val (.ref a)]) (st' := []) (fun _ k => Jvm.RoadKit.acmp (g := (mkF m 4 #[.val (.ref a)] [(.ref wA), (.ref a)])) X1 hx rfl rfl rfl (pc0 := 4) (pc' := 13) (same := false) rfl (hb hby d1_4) rfl (decide_eq_false fun q => hc2 (Value.ref.inj q)) (by decide) (by decide) k) ?_
    refine goS (n := 14) (Ls' := #[.val (.ref a)]) (st' := [(.ref a)]) (fun _ k => XS.aloadN X1.here hx rfl (hb hby d1_13) rfl rfl k) ?_
    exact goRetA X1 hx hlk Bd.returns rfl rfl (hb hby d1_14) (by decide) (by decide) (by rw [e1]; exact ⟨by rw [if_neg hc2], N0, rfl⟩)
theorem pd_0 : parseMethodDescriptor "()Lcom/example/sixphase/bench/Mode;" = some ⟨[], some (.object "com/example/sixphase/bench/Mode")⟩ := by decide +kernel
theorem pn_1 : plainName "com/example/sixphase/bench/ModeBaselinePinLaw" = true := by first | (simp [plainName, overriddenIn]; done) | decide +kernel
theorem ef_law (m : MethodId) (p1 : Int32) : entryFrame m #[(.int p1)] maxLocals = mkF m 0 #[.val (.int p1), .unset, .unset, .unset, .unset] [] := by first | (simp [entryFrame, mkF, argsToLocals, Value.category, maxLocals]; done) | rfl
def Q_law (Z : State) (p1 : Int32) (wG : Addr) (wP : Addr) (wA : Addr) (h0 : Heap) (n0 : Nat) (v : Option Value) (h : Heap) (L : List Loc) : Prop := v = some (.int 1) ∧ Fr n0 L
set_option maxRecDepth 65536 in
set_option maxHeartbeats 40000000 in
theorem rm_law (l : Launch) (Z : State) (a0 : Array Value) (hw : ∀ d ∈ tables_1, d.before a0 Z = true) (ws : List Jvm.Cond) (p1 : Int32) (wG : Addr) (wP : Addr) (wA : Addr) (h0 : Heap) (n0 : Nat) (O0 : Old Z n0 h0) (S_GET : Sta Z Z.heap "com/example/sixphase/bench/Mode" "GET" "Lcom/example/sixphase/bench/Mode;" (.ref wG)) (S_POST : Sta Z Z.heap "com/example/sixphase/bench/Mode" "POST" "Lcom/example/sixphase/bench/Mode;" (.ref wP)) (S_AJAX : Sta Z Z.heap "com/example/sixphase/bench/Mode" "AJAX" "Lcom/example/sixphase/bench/Mode;" (.ref wA)) (EX_wG : Exa Z Z.heap wG "com/example/sixphase/bench/Mode") (EX_wP : Exa Z Z.heap wP "com/example/sixphase/bench/Mode") (EX_wA : Exa Z Z.heap wA "com/example/sixphase/bench/Mode") (hGA : wG ≠ wA) (hPA : wP ≠ wA) :
    MetFree l x (head1 (Jvm.Cond.code x code maxLocals ret :: ws) room_1) (fun as_ U => as_ = #[(.int p1)] ∧ Z.Warmed39 U.vm ∧ U.heap = h0) (fun _ _ _ _ _ => True) (fun _ U o U' => ∃ v L, o = .returned v ∧ Q_law Z p1 wG wP wA h0 n0 v U'.heap L ∧ FrameEnd U o U' L room_1.cells room_1.slots) := by
  refine MetFree.of_bodySF (plainFor_of_name pn_1) hisR ?_
  intro p e s m args below meth c s₁ Bd hml0 hP hK
  obtain ⟨rfl, hZ, hh⟩ := hP
  have hx := Bd.exec
  have hby := Bd.bytes
  have hml : c.maxLocals = 5 := hml0
  have hown : s.vm.findClass "com/example/sixphase/bench/ModeBaselinePinLaw" = some m.cls := findClass_of_methodNamed Bd.named
  have hnm := (name_of_methodNamed Bd.named Bd.method).1
  have hlk : meth.locks = false := BodyLoose.notSynchronized Bd
  have X0 : Stand p l e room_1 s m #[(.int p1)] below meth c s₁ [] 0 0 := Stand.of_body Bd
  have e0 : s₁.heap = h0 := by rw [← hh, Bd.state]; rfl
  have N0 := Fr.nil n0
  refine enter (P := PQ s room_1.cells room_1.slots (Q_law Z p1 wG wP wA h0 n0)) (ef_law m p1) ?_
  refine goS (n := 1) (Ls' := #[.val (.int p1), .unset, .unset, .unset, .unset]) (st' := [(.int p1)]) (fun _ k => XS.iloadN X0.here hx rfl (hb hby at_0) rfl k) ?_
  refine goS (n := 3) (Ls' := #[.val (.int p1), .unset, .unset, .unset, .unset]) (st' := [(.int (2147483647 : Int32)), (.int p1)]) (X0.ldcInt hx hown (mvT hZ (hw _ (List.mem_of_getElem? (i := 0) rfl))) (g := (mkF m 1 #[.val (.int p1), .unset, .unset, .unset, .unset] [(.int p1)])) rfl (hb hby at_1)) ?_
  refine goS (n := 4) (Ls' := #[.val (.int p1), .unset, .unset, .unset, .unset]) (st' := [(.int (p1 &&& (2147483647 : Int32)))]) (fun _ k => XS.iand X0.here hx rfl (hb hby at_3) rfl k) ?_
  refine goS (n := 5) (Ls' := #[.val (.int p1), .unset, .unset, .unset, .unset]) (st' := [(.int (3 : Int32)), (.int (p1 &&& (2147483647 : Int32)))]) (fun _ k => XS.iconst X0.here hx rfl (hb hby at_4) k) ?_
  refine goS (n := 6) (Ls' := #[.val (.int p1), .unset, .unset, .unset, .unset]) (st' := [(.int ((p1 &&& (2147483647 : Int32)) % (3 : Int32)))]) (fun _ k => iremM X0 hx rfl (hb hby at_5) rfl (by decide) k) ?_
  refine goS (n := 7) (Ls' := #[.val (.int p1), .val (.int ((p1 &&& (2147483647 : Int32)) % (3 : Int32))), .unset, .unset, .unset]) (st' := []) (fun _ k => XS.istoreN X0.here hx rfl (hb hby at_6) rfl (l' := #[.val (.int p1), .val (.int ((p1 &&& (2147483647 : Int32)) % (3 : Int32))), .unset, .unset, .unset]) rfl k) ?_
  refine goS (n := 8) (Ls' := #[.val (.int p1), .val (.int ((p1 &&& (2147483647 : Int32)) % (3 : Int32))), .unset, .unset, .unset]) (st' := [(.int ((p1 &&& (2147483647 : Int32)) % (3 : Int32)))]) (fun _ k => XS.iloadN X0.here hx rfl (hb hby at_7) rfl k) ?_
  by_cases hc1 : ((p1 &&& (2147483647 : Int32)) % (3 : Int32)) = (0 : Int32)
  · refine goS (n := 11) (Ls' := #[.val (.int p1), .val (.int ((p1 &&& (2147483647 : Int32)) % (3 : Int32))), .unset, .unset, .unset]) (st' := []) (fun _ k => XS.ifNo X0.here hx rfl (hb hby at_8) rfl ((if0 _ _).trans (teq hc1).2) k) ?_
    obtain ⟨T2, X2, e2, st2⟩ := getS2 X0 hx hZ hown (host := "") (Or.inl (hw _ (List.mem_of_getElem? (i := 1) rfl))) Via.refl e0 (S_GET.ext O0.2) (g := (mkF m 11 #[.val (.int p1), .val (.int ((p1 &&& (2147483647 : Int32)) % (3 : Int32))), .unset, .unset, .unset] [])) rfl (hb hby at_11)
    refine goS (n := 14) (Ls' := #[.val (.int p1), .val (.int ((p1 &&& (2147483647 : Int32)) % (3 : Int32))), .unset, .unset, .unset]) (st' := [(.ref wG)]) st2 ?_
    refine goS (n := 15) (Ls' := #[.val (.int p1), .val (.int ((p1 &&& (2147483647 : Int32)) % (3 : Int32))), .val (.ref wG), .unset, .unset]) (st' := []) (fun _ k => XS.astoreN X2.here hx rfl (hb hby at_14) rfl rfl (l' := #[.val (.int p1), .val (.int ((p1 &&& (2147483647 : Int32)) % (3 : Int32))), .val (.ref wG), .unset, .unset]) rfl k) ?_
    obtain ⟨T3, X3, e3, st3⟩ := getS2 X2 hx hZ hown (host := "") (Or.inl (hw _ (List.mem_of_getElem? (i := 1) rfl))) Via.refl e2 (S_GET.ext O0.2) (g := (mkF m 15 #[.val (.int p1), .val (.int ((p1 &&& (2147483647 : Int32)) % (3 : Int32))), .val (.ref wG), .unset, .unset] [])) rfl (hb hby at_15)
    refine goS (n := 18) (Ls' := #[.val (.int p1), .val (.int ((p1 &&& (2147483647 : Int32)) % (3 : Int32))), .val (.ref wG), .unset, .unset]) (st' := [(.ref wG)]) st3 ?_
    refine goS (n := 19) (Ls' := #[.val (.int p1), .val (.int ((p1 &&& (2147483647 : Int32)) % (3 : Int32))), .val (.ref wG), .val (.ref wG), .unset]) (st' := []) (fun _ k => XS.astoreN X3.here hx rfl (hb hby at_18) rfl rfl (l' := #[.val (.int p1), .val (.int ((p1 &&& (2147483647 : Int32)) % (3 : Int32))), .val (.ref wG), .val (.ref wG), .unset]) rfl k) ?_
    refine goS (n := 46) (Ls' := #[.val (.int p1), .val (.int ((p1 &&& (2147483647 : Int32)) % (3 : Int32))), .val (.ref wG), .val (.ref wG), .unset]) (st' := []) (fun _ k => XS.goto X3.here hx rfl (pc0 := 19) (pc' := 46) rfl (hb hby at_19) (by decide) (by decide) k) ?_
    refine goS (n := 47) (Ls' := #[.val (.int p1), .val (.int ((p1 &&& (2147483647 : Int32)) % (3 : Int32))), .val (.ref wG), .val (.ref wG), .unset]) (st' := [(.ref wG)]) (fun _ k => XS.aloadN X3.here hx rfl (hb hby at_46) rfl rfl k) ?_
    obtain ⟨cq4, kq4, q4a, q4b, q4c⟩ := isOf hZ e3 (EX_wG.ext O0.2)
    obtain ⟨_, _, ⟨T4, L4, k4, n4⟩, -, X4, ⟨Lc4, hQ4, l4, y4, z4⟩, st4⟩ := X3.virtualBack hx (y := (⟨"com/example/sixphase/bench/Mode", "baseline", "()Lcom/example/sixphase/bench/Mode;"⟩ : MethodName)) (z := (⟨"com/example/sixphase/bench/Mode", "baseline", "()Lcom/example/sixphase/bench/Mode;"⟩ : MethodName)) hown (mvT hZ (hw _ (List.mem_of_getElem? (i := 4) rfl))) (mvT hZ (hw _ (List.mem_of_getElem? (i := 5) rfl))) (notFace_of_selects (args := #[]) (mvT hZ (hw _ (List.mem_of_getElem? (i := 7) rfl)))) (mvT hZ (hw _ (List.mem_of_getElem? (i := 7) rfl))) (mvT hZ (hw _ (List.mem_of_getElem? (i := 6) rfl))) (by decide) (backOf (W := 0) (rm_base l Z a0 hw [] wG wP wA h0 n0 O0 S_POST S_AJAX) hZ (hw _ (List.mem_of_getElem? (i := 8) rfl)) (hw _ (List.mem_of_getElem? (i := 2) rfl)) (by decide) (by decide)) q4a q4c (g := (mkF m 47 #[.val (.int p1), .val (.int ((p1 &&& (2147483647 : Int32)) % (3 : Int32))), .val (.ref wG), .val (.ref wG), .unset] [(.ref wG)])) rfl (by rw [hml]; rfl) (Steps.refl _) (argsL := []) (rest := []) (lenOf pd_0 rfl) rfl (by show 2 * 0 + _ ≤ _; exact Nat.le_of_eq rfl) (hb hby at_47) (fun _ _ => ⟨rfl, e3, (Nat.le_of_ble_eq_true rfl), (Nat.le_of_ble_eq_true rfl)⟩)
    dsimp only [Pt.U, Pt.locs, Pt.cells, Pt.slots] at X4 l4 y4 z4 st4 hQ4
    subst l4 y4 z4
    obtain ⟨v4, N4q, e4⟩ := hQ4
    rw [if_neg hGA] at v4
    subst v4
    have N4 := Fr.app N0 N4q
    refine goT (n := 50) (Ls' := #[.val (.int p1), .val (.int ((p1 &&& (2147483647 : Int32)) % (3 : Int32))), .val (.ref wG), .val (.ref wG), .unset]) (st' := [(.ref wG)]) st4 ?_
    refine goS (n := 52) (Ls' := #[.val (.int p1), .val (.int ((p1 &&& (2147483647 : Int32)) % (3 : Int32))), .val (.ref wG), .val (.ref wG), .val (.ref wG)]) (st' := []) (fun _ k => XS.astore X4.here hx rfl (hb hby at_50) rfl rfl (l' := #[.val (.int p1), .val (.int ((p1 &&& (2147483647 : Int32)) % (3 : Int32))), .val (.ref wG), .val (.ref wG), .val (.ref wG)]) rfl k) ?_
    refine goS (n := 54) (Ls' := #[.val (.int p1), .val (.int ((p1 &&& (2147483647 : Int32)) % (3 : Int32))), .val (.ref wG), .val (.ref wG), .val (.ref wG)]) (st' := [(.ref wG)]) (fun _ k => XS.aload X4.here hx rfl (hb hby at_52) rfl rfl k) ?_
    refine goS (n := 55) (Ls' := #[.val (.int p1), .val (.int ((p1 &&& (2147483647 : Int32)) % (3 : Int32))), .val (.ref wG), .val (.ref wG), .val (.ref wG)]) (st' := [(.ref wG), (.ref wG)]) (fun _ k => XS.aloadN X4.here hx rfl (hb hby at_54) rfl rfl k) ?_
    refine goS (n := 60) (Ls' := #[.val (.int p1), .val (.int ((p1 &&& (2147483647 : Int32)) % (3 : Int32))), .val (.ref wG), .val (.ref wG), .val (.ref wG)]) (st' := []) (fun _ k => Jvm.RoadKit.acmp (g := (mkF m 55 #[.val (.int p1), .val (.int ((p1 &&& (2147483647 : Int32)) % (3 : Int32))), .val (.ref wG), .val (.ref wG), .val (.ref wG)] [(.ref wG), (.ref wG)])) X4 hx rfl rfl rfl (pc0 := 55) (pc' := 60) (same := true) rfl (hb hby at_55) rfl (decide_eq_true (congrArg Value.ref rfl)) (by decide) (by decide) k) ?_
    refine goS (n := 62) (Ls' := #[.val (.int p1), .val (.int ((p1 &&& (2147483647 : Int32)) % (3 : Int32))), .val (.ref wG), .val (.ref wG), .val (.ref wG)]) (st' := [(.ref wG)]) (fun _ k => XS.aload X4.here hx rfl (hb hby at_60) rfl rfl k) ?_
    obtain ⟨T5, X5, e5, st5⟩ := getS2 X4 hx hZ hown (host := "") (Or.inl (hw _ (List.mem_of_getElem? (i := 11) rfl))) Via.refl e4 (S_AJAX.ext O0.2) (g := (mkF m 62 #[.val (.int p1), .val (.int ((p1 &&& (2147483647 : Int32)) % (3 : Int32))), .val (.ref wG), .val (.ref wG), .val (.ref wG)] [(.ref wG)])) rfl (hb hby at_62)
    refine goS (n := 65) (Ls' := #[.val (.int p1), .val (.int ((p1 &&& (2147483647 : Int32)) % (3 : Int32))), .val (.ref wG), .val (.ref wG), .val (.ref wG)]) (st' := [(.ref wA), (.ref wG)]) st5 ?_
    refine goS (n := 70) (Ls' := #[.val (.int p1), .val (.int ((p1 &&& (2147483647 : Int32)) % (3 : Int32))), .val (.ref wG), .val (.ref wG), .val (.ref wG)]) (st' := []) (fun _ k => Jvm.RoadKit.acmp (g := (mkF m 65 #[.val (.int p1), .val (.int ((p1 &&& (2147483647 : Int32)) % (3 : Int32))), .val (.ref wG), .val (.ref wG), .val (.ref wG)] [(.ref wA), (.ref wG)])) X5 hx rfl rfl rfl (pc0 := 65) (pc' := 70) (same := false) rfl (hb hby at_65) rfl (decide_eq_false fun q => hGA (Value.ref.inj q)) (by decide) (by decide) k) ?_
    refine goS (n := 72) (Ls' := #[.val (.int p1), .val (.int ((p1 &&& (2147483647 : Int32)) % (3 : Int32))), .val (.ref wG), .val (.ref wG), .val (.ref wG)]) (st' := [(.ref wG)]) (fun _ k => XS.aload X5.here hx rfl (hb hby at_70) rfl rfl k) ?_
    obtain ⟨cq6, kq6, q6a, q6b, q6c⟩ := isOf hZ e5 (EX_wG.ext O0.2)
    obtain ⟨_, _, ⟨T6, L6, k6, n6⟩, -, X6, ⟨Lc6, hQ6, l6, y6, z6⟩, st6⟩ := X5.virtualBack hx (y := (⟨"com/example/sixphase/bench/Mode", "baseline", "()Lcom/example/sixphase/bench/Mode;"⟩ : MethodName)) (z := (⟨"com/example/sixphase/bench/Mode", "baseline", "()Lcom/example/sixphase/bench/Mode;"⟩ : MethodName)) hown (mvT hZ (hw _ (List.mem_of_getElem? (i := 4) rfl))) (mvT hZ (hw _ (List.mem_of_getElem? (i := 5) rfl))) (notFace_of_selects (args := #[]) (mvT hZ (hw _ (List.mem_of_getElem? (i := 7) rfl)))) (mvT hZ (hw _ (List.mem_of_getElem? (i := 7) rfl))) (mvT hZ (hw _ (List.mem_of_getElem? (i := 6) rfl))) (by decide) (backOf (W := 0) (rm_base l Z a0 hw [] wG wP wA h0 n0 O0 S_POST S_AJAX) hZ (hw _ (List.mem_of_getElem? (i := 8) rfl)) (hw _ (List.mem_of_getElem? (i := 2) rfl)) (by decide) (by decide)) q6a q6c (g := (mkF m 72 #[.val (.int p1), .val (.int ((p1 &&& (2147483647 : Int32)) % (3 : Int32))), .val (.ref wG), .val (.ref wG), .val (.ref wG)] [(.ref wG)])) rfl (by rw [hml]; rfl) (Steps.refl _) (argsL := []) (rest := []) (lenOf pd_0 rfl) rfl (by show 2 * 0 + _ ≤ _; exact Nat.le_of_eq rfl) (hb hby at_72) (fun _ _ => ⟨rfl, e5, (Nat.le_of_ble_eq_true rfl), (Nat.le_of_ble_eq_true rfl)⟩)
    dsimp only [Pt.U, Pt.locs, Pt.cells, Pt.slots] at X6 l6 y6 z6 st6 hQ6
    subst l6 y6 z6
    obtain ⟨v6, N6q, e6⟩ := hQ6
    rw [if_neg hGA] at v6
    subst v6
    have N6 := Fr.app N4 N6q
    refine goT (n := 75) (Ls' := #[.val (.int p1), .val (.int ((p1 &&& (2147483647 : Int32)) % (3 : Int32))), .val (.ref wG), .val (.ref wG), .val (.ref wG)]) (st' := [(.ref wG)]) st6 ?_
    refine goS (n := 77) (Ls' := #[.val (.int p1), .val (.int ((p1 &&& (2147483647 : Int32)) % (3 : Int32))), .val (.ref wG), .val (.ref wG), .val (.ref wG)]) (st' := [(.ref wG), (.ref wG)]) (fun _ k => XS.aload X6.here hx rfl (hb hby at_75) rfl rfl k) ?_
    refine goS (n := 80) (Ls' := #[.val (.int p1), .val (.int ((p1 &&& (2147483647 : Int32)) % (3 : Int32))), .val (.ref wG), .val (.ref wG), .val (.ref wG)]) (st' := []) (fun _ k => Jvm.RoadKit.acmp (g := (mkF m 77 #[.val (.int p1), .val (.int ((p1 &&& (2147483647 : Int32)) % (3 : Int32))), .val (.ref wG), .val (.ref wG), .val (.ref wG)] [(.ref wG), (.ref wG)])) X6 hx rfl rfl rfl (pc0 := 77) (pc' := 80) (same := true) rfl (hb hby at_77) rfl (decide_eq_true (congrArg Value.ref rfl)) (by decide) (by decide) k) ?_
    refine goS (n := 81) (Ls' := #[.val (.int p1), .val (.int ((p1 &&& (2147483647 : Int32)) % (3 : Int32))), .val (.ref wG), .val (.ref wG), .val (.ref wG)]) (st' := [(.int (1 : Int32))]) (fun _ k => XS.iconst X6.here hx rfl (hb hby at_80) k) ?_
    refine goS (n := 85) (Ls' := #[.val (.int p1), .val (.int ((p1 &&& (2147483647 : Int32)) % (3 : Int32))), .val (.ref wG), .val (.ref wG), .val (.ref wG)]) (st' := [(.int (1 : Int32))]) (fun _ k => XS.goto X6.here hx rfl (pc0 := 81) (pc' := 85) rfl (hb hby at_81) (by decide) (by decide) k) ?_
    exact goRetZ X6 hx hlk Bd.returns (Or.inr rfl) (hb hby at_85) (by decide) (by decide) (by rw [e6]; exact ⟨rfl, N6⟩)
  · refine goS (n := 22) (Ls' := #[.val (.int p1), .val (.int ((p1 &&& (2147483647 : Int32)) % (3 : Int32))), .unset, .unset, .unset]) (st' := []) (fun _ k => XS.ifYes X0.here hx rfl (pc0 := 8) (pc' := 22) rfl (hb hby at_8) rfl ((if0 _ _).trans (feq hc1).2) (by decide) (by decide) k) ?_
    refine goS (n := 23) (Ls' := #[.val (.int p1), .val (.int ((p1 &&& (2147483647 : Int32)) % (3 : Int32))), .unset, .unset, .unset]) (st' := [(.int ((p1 &&& (2147483647 : Int32)) % (3 : Int32)))]) (fun _ k => XS.iloadN X0.here hx rfl (hb hby at_22) rfl k) ?_
    refine goS (n := 24) (Ls' := #[.val (.int p1), .val (.int ((p1 &&& (2147483647 : Int32)) % (3 : Int32))), .unset, .unset, .unset]) (st' := [(.int (1 : Int32)), (.int ((p1 &&& (2147483647 : Int32)) % (3 : Int32)))]) (fun _ k => XS.iconst X0.here hx rfl (hb hby at_23) k) ?_
    by_cases hc7 : ((p1 &&& (2147483647 : Int32)) % (3 : Int32)) = (1 : Int32)
    · refine goS (n := 27) (Ls' := #[.val (.int p1), .val (.int ((p1 &&& (2147483647 : Int32)) % (3 : Int32))), .unset, .unset, .unset]) (st' := []) (fun _ k => XS.icmpNo X0.here hx rfl (hb hby at_24) rfl (teq hc7).2 k) ?_
      obtain ⟨T8, X8, e8, st8⟩ := getS2 X0 hx hZ hown (host := "") (Or.inl (hw _ (List.mem_of_getElem? (i := 12) rfl))) Via.refl e0 (S_POST.ext O0.2) (g := (mkF m 27 #[.val (.int p1), .val (.int ((p1 &&& (2147483647 : Int32)) % (3 : Int32))), .unset, .unset, .unset] [])) rfl (hb hby at_27)
      refine goS (n := 30) (Ls' := #[.val (.int p1), .val (.int ((p1 &&& (2147483647 : Int32)) % (3 : Int32))), .unset, .unset, .unset]) (st' := [(.ref wP)]) st8 ?_
      refine goS (n := 31) (Ls' := #[.val (.int p1), .val (.int ((p1 &&& (2147483647 : Int32)) % (3 : Int32))), .val (.ref wP), .unset, .unset]) (st' := []) (fun _ k => XS.astoreN X8.here hx rfl (hb hby at_30) rfl rfl (l' := #[.val (.int p1), .val (.int ((p1 &&& (2147483647 : Int32)) % (3 : Int32))), .val (.ref wP), .unset, .unset]) rfl k) ?_
      obtain ⟨T9, X9, e9, st9⟩ := getS2 X8 hx hZ hown (host := "") (Or.inl (hw _ (List.mem_of_getElem? (i := 12) rfl))) Via.refl e8 (S_POST.ext O0.2) (g := (mkF m 31 #[.val (.int p1), .val (.int ((p1 &&& (2147483647 : Int32)) % (3 : Int32))), .val (.ref wP), .unset, .unset] [])) rfl (hb hby at_31)
      refine goS (n := 34) (Ls' := #[.val (.int p1), .val (.int ((p1 &&& (2147483647 : Int32)) % (3 : Int32))), .val (.ref wP), .unset, .unset]) (st' := [(.ref wP)]) st9 ?_
      refine goS (n := 35) (Ls' := #[.val (.int p1), .val (.int ((p1 &&& (2147483647 : Int32)) % (3 : Int32))), .val (.ref wP), .val (.ref wP), .unset]) (st' := []) (fun _ k => XS.astoreN X9.here hx rfl (hb hby at_34) rfl rfl (l' := #[.val (.int p1), .val (.int ((p1 &&& (2147483647 : Int32)) % (3 : Int32))), .val (.ref wP), .val (.ref wP), .unset]) rfl k) ?_
      refine goS (n := 46) (Ls' := #[.val (.int p1), .val (.int ((p1 &&& (2147483647 : Int32)) % (3 : Int32))), .val (.ref wP), .val (.ref wP), .unset]) (st' := []) (fun _ k => XS.goto X9.here hx rfl (pc0 := 35) (pc' := 46) rfl (hb hby at_35) (by decide) (by decide) k) ?_
      refine goS (n := 47) (Ls' := #[.val (.int p1), .val (.int ((p1 &&& (2147483647 : Int32)) % (3 : Int32))), .val (.ref wP), .val (.ref wP), .unset]) (st' := [(.ref wP)]) (fun _ k => XS.aloadN X9.here hx rfl (hb hby at_46) rfl rfl k) ?_
      obtain ⟨cq10, kq10, q10a, q10b, q10c⟩ := isOf hZ e9 (EX_wP.ext O0.2)
      obtain ⟨_, _, ⟨T10, L10, k10, n10⟩, -, X10, ⟨Lc10, hQ10, l10, y10, z10⟩, st10⟩ := X9.virtualBack hx (y := (⟨"com/example/sixphase/bench/Mode", "baseline", "()Lcom/example/sixphase/bench/Mode;"⟩ : MethodName)) (z := (⟨"com/example/sixphase/bench/Mode", "baseline", "()Lcom/example/sixphase/bench/Mode;"⟩ : MethodName)) hown (mvT hZ (hw _ (List.mem_of_getElem? (i := 4) rfl))) (mvT hZ (hw _ (List.mem_of_getElem? (i := 5) rfl))) (notFace_of_selects (args := #[]) (mvT hZ (hw _ (List.mem_of_getElem? (i := 7) rfl)))) (mvT hZ (hw _ (List.mem_of_getElem? (i := 7) rfl))) (mvT hZ (hw _ (List.mem_of_getElem? (i := 6) rfl))) (by decide) (backOf (W := 0) (rm_base l Z a0 hw [] wP wP wA h0 n0 O0 S_POST S_AJAX) hZ (hw _ (List.mem_of_getElem? (i := 8) rfl)) (hw _ (List.mem_of_getElem? (i := 2) rfl)) (by decide) (by decide)) q10a q10c (g := (mkF m 47 #[.val (.int p1), .val (.int ((p1 &&& (2147483647 : Int32)) % (3 : Int32))), .val (.ref wP), .val (.ref wP), .unset] [(.ref wP)])) rfl (by rw [hml]; rfl) (Steps.refl _) (argsL := []) (rest := []) (lenOf pd_0 rfl) rfl (by show 2 * 0 + _ ≤ _; exact Nat.le_of_eq rfl) (hb hby at_47) (fun _ _ => ⟨rfl, e9, (Nat.le_of_ble_eq_true rfl), (Nat.le_of_ble_eq_true rfl)⟩)
      dsimp only [Pt.U, Pt.locs, Pt.cells, Pt.slots] at X10 l10 y10 z10 st10 hQ10
      subst l10 y10 z10
      obtain ⟨v10, N10q, e10⟩ := hQ10
      rw [if_neg hPA] at v10
      subst v10
      have N10 := Fr.app N0 N10q
      refine goT (n := 50) (Ls' := #[.val (.int p1), .val (.int ((p1 &&& (2147483647 : Int32)) % (3 : Int32))), .val (.ref wP), .val (.ref wP), .unset]) (st' := [(.ref wP)]) st10 ?_
      refine goS (n := 52) (Ls' := #[.val (.int p1), .val (.int ((p1 &&& (2147483647 : Int32)) % (3 : Int32))), .val (.ref wP), .val (.ref wP), .val (.ref wP)]) (st' := []) (fun _ k => XS.astore X10.here hx rfl (hb hby at_50) rfl rfl (l' := #[.val (.int p1), .val (.int ((p1 &&& (2147483647 : Int32)) % (3 : Int32))), .val (.ref wP), .val (.ref wP), .val (.ref wP)]) rfl k) ?_
      refine goS (n := 54) (Ls' := #[.val (.int p1), .val (.int ((p1 &&& (2147483647 : Int32)) % (3 : Int32))), .val (.ref wP), .val (.ref wP), .val (.ref wP)]) (st' := [(.ref wP)]) (fun _ k => XS.aload X10.here hx rfl (hb hby at_52) rfl rfl k) ?_
      refine goS (n := 55) (Ls' := #[.val (.int p1), .val (.int ((p1 &&& (2147483647 : Int32)) % (3 : Int32))), .val (.ref wP), .val (.ref wP), .val (.ref wP)]) (st' := [(.ref wP), (.ref wP)]) (fun _ k => XS.aloadN X10.here hx rfl (hb hby at_54) rfl rfl k) ?_
      refine goS (n := 60) (Ls' := #[.val (.int p1), .val (.int ((p1 &&& (2147483647 : Int32)) % (3 : Int32))), .val (.ref wP), .val (.ref wP), .val (.ref wP)]) (st' := []) (fun _ k => Jvm.RoadKit.acmp (g := (mkF m 55 #[.val (.int p1), .val (.int ((p1 &&& (2147483647 : Int32)) % (3 : Int32))), .val (.ref wP), .val (.ref wP), .val (.ref wP)] [(.ref wP), (.ref wP)])) X10 hx rfl rfl rfl (pc0 := 55) (pc' := 60) (same := true) rfl (hb hby at_55) rfl (decide_eq_true (congrArg Value.ref rfl)) (by decide) (by decide) k) ?_
      refine goS (n := 62) (Ls' := #[.val (.int p1), .val (.int ((p1 &&& (2147483647 : Int32)) % (3 : Int32))), .val (.ref wP), .val (.ref wP), .val (.ref wP)]) (st' := [(.ref wP)]) (fun _ k => XS.aload X10.here hx rfl (hb hby at_60) rfl rfl k) ?_
      obtain ⟨T11, X11, e11, st11⟩ := getS2 X10 hx hZ hown (host := "") (Or.inl (hw _ (List.mem_of_getElem? (i := 11) rfl))) Via.refl e10 (S_AJAX.ext O0.2) (g := (mkF m 62 #[.val (.int p1), .val (.int ((p1 &&& (2147483647 : Int32)) % (3 : Int32))), .val (.ref wP), .val (.ref wP), .val (.ref wP)] [(.ref wP)])) rfl (hb hby at_62)
      refine goS (n := 65) (Ls' := #[.val (.int p1), .val (.int ((p1 &&& (2147483647 : Int32)) % (3 : Int32))), .val (.ref wP), .val (.ref wP), .val (.ref wP)]) (st' := [(.ref wA), (.ref wP)]) st11 ?_
      refine goS (n := 70) (Ls' := #[.val (.int p1), .val (.int ((p1 &&& (2147483647 : Int32)) % (3 : Int32))), .val (.ref wP), .val (.ref wP), .val (.ref wP)]) (st' := []) (fun _ k => Jvm.RoadKit.acmp (g := (mkF m 65 #[.val (.int p1), .val (.int ((p1 &&& (2147483647 : Int32)) % (3 : Int32))), .val (.ref wP), .val (.ref wP), .val (.ref wP)] [(.ref wA), (.ref wP)])) X11 hx rfl rfl rfl (pc0 := 65) (pc' := 70) (same := false) rfl (hb hby at_65) rfl (decide_eq_false fun q => hPA (Value.ref.inj q)) (by decide) (by decide) k) ?_
      refine goS (n := 72) (Ls' := #[.val (.int p1), .val (.int ((p1 &&& (2147483647 : Int32)) % (3 : Int32))), .val (.ref wP), .val (.ref wP), .val (.ref wP)]) (st' := [(.ref wP)]) (fun _ k => XS.aload X11.here hx rfl (hb hby at_70) rfl rfl k) ?_
      obtain ⟨cq12, kq12, q12a, q12b, q12c⟩ := isOf hZ e11 (EX_wP.ext O0.2)
      obtain ⟨_, _, ⟨T12, L12, k12, n12⟩, -, X12, ⟨Lc12, hQ12, l12, y12, z12⟩, st12⟩ := X11.virtualBack hx (y := (⟨"com/example/sixphase/bench/Mode", "baseline", "()Lcom/example/sixphase/bench/Mode;"⟩ : MethodName)) (z := (⟨"com/example/sixphase/bench/Mode", "baseline", "()Lcom/example/sixphase/bench/Mode;"⟩ : MethodName)) hown (mvT hZ (hw _ (List.mem_of_getElem? (i := 4) rfl))) (mvT hZ (hw _ (List.mem_of_getElem? (i := 5) rfl))) (notFace_of_selects (args := #[]) (mvT hZ (hw _ (List.mem_of_getElem? (i := 7) rfl)))) (mvT hZ (hw _ (List.mem_of_getElem? (i := 7) rfl))) (mvT hZ (hw _ (List.mem_of_getElem? (i := 6) rfl))) (by decide) (backOf (W := 0) (rm_base l Z a0 hw [] wP wP wA h0 n0 O0 S_POST S_AJAX) hZ (hw _ (List.mem_of_getElem? (i := 8) rfl)) (hw _ (List.mem_of_getElem? (i := 2) rfl)) (by decide) (by decide)) q12a q12c (g := (mkF m 72 #[.val (.int p1), .val (.int ((p1 &&& (2147483647 : Int32)) % (3 : Int32))), .val (.ref wP), .val (.ref wP), .val (.ref wP)] [(.ref wP)])) rfl (by rw [hml]; rfl) (Steps.refl _) (argsL := []) (rest := []) (lenOf pd_0 rfl) rfl (by show 2 * 0 + _ ≤ _; exact Nat.le_of_eq rfl) (hb hby at_72) (fun _ _ => ⟨rfl, e11, (Nat.le_of_ble_eq_true rfl), (Nat.le_of_ble_eq_true rfl)⟩)
      dsimp only [Pt.U, Pt.locs, Pt.cells, Pt.slots] at X12 l12 y12 z12 st12 hQ12
      subst l12 y12 z12
      obtain ⟨v12, N12q, e12⟩ := hQ12
      rw [if_neg hPA] at v12
      subst v12
      have N12 := Fr.app N10 N12q
      refine goT (n := 75) (Ls' := #[.val (.int p1), .val (.int ((p1 &&& (2147483647 : Int32)) % (3 : Int32))), .val (.ref wP), .val (.ref wP), .val (.ref wP)]) (st' := [(.ref wP)]) st12 ?_
      refine goS (n := 77) (Ls' := #[.val (.int p1), .val (.int ((p1 &&& (2147483647 : Int32)) % (3 : Int32))), .val (.ref wP), .val (.ref wP), .val (.ref wP)]) (st' := [(.ref wP), (.ref wP)]) (fun _ k => XS.aload X12.here hx rfl (hb hby at_75) rfl rfl k) ?_
      refine goS (n := 80) (Ls' := #[.val (.int p1), .val (.int ((p1 &&& (2147483647 : Int32)) % (3 : Int32))), .val (.ref wP), .val (.ref wP), .val (.ref wP)]) (st' := []) (fun _ k => Jvm.RoadKit.acmp (g := (mkF m 77 #[.val (.int p1), .val (.int ((p1 &&& (2147483647 : Int32)) % (3 : Int32))), .val (.ref wP), .val (.ref wP), .val (.ref wP)] [(.ref wP), (.ref wP)])) X12 hx rfl rfl rfl (pc0 := 77) (pc' := 80) (same := true) rfl (hb hby at_77) rfl (decide_eq_true (congrArg Value.ref rfl)) (by decide) (by decide) k) ?_
      refine goS (n := 81) (Ls' := #[.val (.int p1), .val (.int ((p1 &&& (2147483647 : Int32)) % (3 : Int32))), .val (.ref wP), .val (.ref wP), .val (.ref wP)]) (st' := [(.int (1 : Int32))]) (fun _ k => XS.iconst X12.here hx rfl (hb hby at_80) k) ?_
      refine goS (n := 85) (Ls' := #[.val (.int p1), .val (.int ((p1 &&& (2147483647 : Int32)) % (3 : Int32))), .val (.ref wP), .val (.ref wP), .val (.ref wP)]) (st' := [(.int (1 : Int32))]) (fun _ k => XS.goto X12.here hx rfl (pc0 := 81) (pc' := 85) rfl (hb hby at_81) (by decide) (by decide) k) ?_
      exact goRetZ X12 hx hlk Bd.returns (Or.inr rfl) (hb hby at_85) (by decide) (by decide) (by rw [e12]; exact ⟨rfl, N12⟩)
    · refine goS (n := 38) (Ls' := #[.val (.int p1), .val (.int ((p1 &&& (2147483647 : Int32)) % (3 : Int32))), .unset, .unset, .unset]) (st' := []) (fun _ k => XS.icmpYes X0.here hx rfl (pc0 := 24) (pc' := 38) rfl (hb hby at_24) rfl (feq hc7).2 (by decide) (by decide) k) ?_
      obtain ⟨T13, X13, e13, st13⟩ := getS2 X0 hx hZ hown (host := "") (Or.inl (hw _ (List.mem_of_getElem? (i := 11) rfl))) Via.refl e0 (S_AJAX.ext O0.2) (g := (mkF m 38 #[.val (.int p1), .val (.int ((p1 &&& (2147483647 : Int32)) % (3 : Int32))), .unset, .unset, .unset] [])) rfl (hb hby at_38)
      refine goS (n := 41) (Ls' := #[.val (.int p1), .val (.int ((p1 &&& (2147483647 : Int32)) % (3 : Int32))), .unset, .unset, .unset]) (st' := [(.ref wA)]) st13 ?_
      refine goS (n := 42) (Ls' := #[.val (.int p1), .val (.int ((p1 &&& (2147483647 : Int32)) % (3 : Int32))), .val (.ref wA), .unset, .unset]) (st' := []) (fun _ k => XS.astoreN X13.here hx rfl (hb hby at_41) rfl rfl (l' := #[.val (.int p1), .val (.int ((p1 &&& (2147483647 : Int32)) % (3 : Int32))), .val (.ref wA), .unset, .unset]) rfl k) ?_
      obtain ⟨T14, X14, e14, st14⟩ := getS2 X13 hx hZ hown (host := "") (Or.inl (hw _ (List.mem_of_getElem? (i := 12) rfl))) Via.refl e13 (S_POST.ext O0.2) (g := (mkF m 42 #[.val (.int p1), .val (.int ((p1 &&& (2147483647 : Int32)) % (3 : Int32))), .val (.ref wA), .unset, .unset] [])) rfl (hb hby at_42)
      refine goS (n := 45) (Ls' := #[.val (.int p1), .val (.int ((p1 &&& (2147483647 : Int32)) % (3 : Int32))), .val (.ref wA), .unset, .unset]) (st' := [(.ref wP)]) st14 ?_
      refine goS (n := 46) (Ls' := #[.val (.int p1), .val (.int ((p1 &&& (2147483647 : Int32)) % (3 : Int32))), .val (.ref wA), .val (.ref wP), .unset]) (st' := []) (fun _ k => XS.astoreN X14.here hx rfl (hb hby at_45) rfl rfl (l' := #[.val (.int p1), .val (.int ((p1 &&& (2147483647 : Int32)) % (3 : Int32))), .val (.ref wA), .val (.ref wP), .unset]) rfl k) ?_
      refine goS (n := 47) (Ls' := #[.val (.int p1), .val (.int ((p1 &&& (2147483647 : Int32)) % (3 : Int32))), .val (.ref wA), .val (.ref wP), .unset]) (st' := [(.ref wA)]) (fun _ k => XS.aloadN X14.here hx rfl (hb hby at_46) rfl rfl k) ?_
      obtain ⟨cq15, kq15, q15a, q15b, q15c⟩ := isOf hZ e14 (EX_wA.ext O0.2)
      obtain ⟨_, _, ⟨T15, L15, k15, n15⟩, -, X15, ⟨Lc15, hQ15, l15, y15, z15⟩, st15⟩ := X14.virtualBack hx (y := (⟨"com/example/sixphase/bench/Mode", "baseline", "()Lcom/example/sixphase/bench/Mode;"⟩ : MethodName)) (z := (⟨"com/example/sixphase/bench/Mode", "baseline", "()Lcom/example/sixphase/bench/Mode;"⟩ : MethodName)) hown (mvT hZ (hw _ (List.mem_of_getElem? (i := 4) rfl))) (mvT hZ (hw _ (List.mem_of_getElem? (i := 5) rfl))) (notFace_of_selects (args := #[]) (mvT hZ (hw _ (List.mem_of_getElem? (i := 7) rfl)))) (mvT hZ (hw _ (List.mem_of_getElem? (i := 7) rfl))) (mvT hZ (hw _ (List.mem_of_getElem? (i := 6) rfl))) (by decide) (backOf (W := 0) (rm_base l Z a0 hw [] wA wP wA h0 n0 O0 S_POST S_AJAX) hZ (hw _ (List.mem_of_getElem? (i := 8) rfl)) (hw _ (List.mem_of_getElem? (i := 2) rfl)) (by decide) (by decide)) q15a q15c (g := (mkF m 47 #[.val (.int p1), .val (.int ((p1 &&& (2147483647 : Int32)) % (3 : Int32))), .val (.ref wA), .val (.ref wP), .unset] [(.ref wA)])) rfl (by rw [hml]; rfl) (Steps.refl _) (argsL := []) (rest := []) (lenOf pd_0 rfl) rfl (by show 2 * 0 + _ ≤ _; exact Nat.le_of_eq rfl) (hb hby at_47) (fun _ _ => ⟨rfl, e14, (Nat.le_of_ble_eq_true rfl), (Nat.le_of_ble_eq_true rfl)⟩)
      dsimp only [Pt.U, Pt.locs, Pt.cells, Pt.slots] at X15 l15 y15 z15 st15 hQ15
      subst l15 y15 z15
      obtain ⟨v15, N15q, e15⟩ := hQ15
      rw [if_pos rfl] at v15
      subst v15
      have N15 := Fr.app N0 N15q
      refine goT (n := 50) (Ls' := #[.val (.int p1), .val (.int ((p1 &&& (2147483647 : Int32)) % (3 : Int32))), .val (.ref wA), .val (.ref wP), .unset]) (st' := [(.ref wP)]) st15 ?_
      refine goS (n := 52) (Ls' := #[.val (.int p1), .val (.int ((p1 &&& (2147483647 : Int32)) % (3 : Int32))), .val (.ref wA), .val (.ref wP), .val (.ref wP)]) (st' := []) (fun _ k => XS.astore X15.here hx rfl (hb hby at_50) rfl rfl (l' := #[.val (.int p1), .val (.int ((p1 &&& (2147483647 : Int32)) % (3 : Int32))), .val (.ref wA), .val (.ref wP), .val (.ref wP)]) rfl k) ?_
      refine goS (n := 54) (Ls' := #[.val (.int p1), .val (.int ((p1 &&& (2147483647 : Int32)) % (3 : Int32))), .val (.ref wA), .val (.ref wP), .val (.ref wP)]) (st' := [(.ref wP)]) (fun _ k => XS.aload X15.here hx rfl (hb hby at_52) rfl rfl k) ?_
      refine goS (n := 55) (Ls' := #[.val (.int p1), .val (.int ((p1 &&& (2147483647 : Int32)) % (3 : Int32))), .val (.ref wA), .val (.ref wP), .val (.ref wP)]) (st' := [(.ref wP), (.ref wP)]) (fun _ k => XS.aloadN X15.here hx rfl (hb hby at_54) rfl rfl k) ?_
      refine goS (n := 60) (Ls' := #[.val (.int p1), .val (.int ((p1 &&& (2147483647 : Int32)) % (3 : Int32))), .val (.ref wA), .val (.ref wP), .val (.ref wP)]) (st' := []) (fun _ k => Jvm.RoadKit.acmp (g := (mkF m 55 #[.val (.int p1), .val (.int ((p1 &&& (2147483647 : Int32)) % (3 : Int32))), .val (.ref wA), .val (.ref wP), .val (.ref wP)] [(.ref wP), (.ref wP)])) X15 hx rfl rfl rfl (pc0 := 55) (pc' := 60) (same := true) rfl (hb hby at_55) rfl (decide_eq_true (congrArg Value.ref rfl)) (by decide) (by decide) k) ?_
      refine goS (n := 62) (Ls' := #[.val (.int p1), .val (.int ((p1 &&& (2147483647 : Int32)) % (3 : Int32))), .val (.ref wA), .val (.ref wP), .val (.ref wP)]) (st' := [(.ref wP)]) (fun _ k => XS.aload X15.here hx rfl (hb hby at_60) rfl rfl k) ?_
      obtain ⟨T16, X16, e16, st16⟩ := getS2 X15 hx hZ hown (host := "") (Or.inl (hw _ (List.mem_of_getElem? (i := 11) rfl))) Via.refl e15 (S_AJAX.ext O0.2) (g := (mkF m 62 #[.val (.int p1), .val (.int ((p1 &&& (2147483647 : Int32)) % (3 : Int32))), .val (.ref wA), .val (.ref wP), .val (.ref wP)] [(.ref wP)])) rfl (hb hby at_62)
      refine goS (n := 65) (Ls' := #[.val (.int p1), .val (.int ((p1 &&& (2147483647 : Int32)) % (3 : Int32))), .val (.ref wA), .val (.ref wP), .val (.ref wP)]) (st' := [(.ref wA), (.ref wP)]) st16 ?_
      refine goS (n := 70) (Ls' := #[.val (.int p1), .val (.int ((p1 &&& (2147483647 : Int32)) % (3 : Int32))), .val (.ref wA), .val (.ref wP), .val (.ref wP)]) (st' := []) (fun _ k => Jvm.RoadKit.acmp (g := (mkF m 65 #[.val (.int p1), .val (.int ((p1 &&& (2147483647 : Int32)) % (3 : Int32))), .val (.ref wA), .val (.ref wP), .val (.ref wP)] [(.ref wA), (.ref wP)])) X16 hx rfl rfl rfl (pc0 := 65) (pc' := 70) (same := false) rfl (hb hby at_65) rfl (decide_eq_false fun q => hPA (Value.ref.inj q)) (by decide) (by decide) k) ?_
      refine goS (n := 72) (Ls' := #[.val (.int p1), .val (.int ((p1 &&& (2147483647 : Int32)) % (3 : Int32))), .val (.ref wA), .val (.ref wP), .val (.ref wP)]) (st' := [(.ref wP)]) (fun _ k => XS.aload X16.here hx rfl (hb hby at_70) rfl rfl k) ?_
      obtain ⟨cq17, kq17, q17a, q17b, q17c⟩ := isOf hZ e16 (EX_wP.ext O0.2)
      obtain ⟨_, _, ⟨T17, L17, k17, n17⟩, -, X17, ⟨Lc17, hQ17, l17, y17, z17⟩, st17⟩ := X16.virtualBack hx (y := (⟨"com/example/sixphase/bench/Mode", "baseline", "()Lcom/example/sixphase/bench/Mode;"⟩ : MethodName)) (z := (⟨"com/example/sixphase/bench/Mode", "baseline", "()Lcom/example/sixphase/bench/Mode;"⟩ : MethodName)) hown (mvT hZ (hw _ (List.mem_of_getElem? (i := 4) rfl))) (mvT hZ (hw _ (List.mem_of_getElem? (i := 5) rfl))) (notFace_of_selects (args := #[]) (mvT hZ (hw _ (List.mem_of_getElem? (i := 7) rfl)))) (mvT hZ (hw _ (List.mem_of_getElem? (i := 7) rfl))) (mvT hZ (hw _ (List.mem_of_getElem? (i := 6) rfl))) (by decide) (backOf (W := 0) (rm_base l Z a0 hw [] wP wP wA h0 n0 O0 S_POST S_AJAX) hZ (hw _ (List.mem_of_getElem? (i := 8) rfl)) (hw _ (List.mem_of_getElem? (i := 2) rfl)) (by decide) (by decide)) q17a q17c (g := (mkF m 72 #[.val (.int p1), .val (.int ((p1 &&& (2147483647 : Int32)) % (3 : Int32))), .val (.ref wA), .val (.ref wP), .val (.ref wP)] [(.ref wP)])) rfl (by rw [hml]; rfl) (Steps.refl _) (argsL := []) (rest := []) (lenOf pd_0 rfl) rfl (by show 2 * 0 + _ ≤ _; exact Nat.le_of_eq rfl) (hb hby at_72) (fun _ _ => ⟨rfl, e16, (Nat.le_of_ble_eq_true rfl), (Nat.le_of_ble_eq_true rfl)⟩)
      dsimp only [Pt.U, Pt.locs, Pt.cells, Pt.slots] at X17 l17 y17 z17 st17 hQ17
      subst l17 y17 z17
      obtain ⟨v17, N17q, e17⟩ := hQ17
      rw [if_neg hPA] at v17
      subst v17
      have N17 := Fr.app N15 N17q
      refine goT (n := 75) (Ls' := #[.val (.int p1), .val (.int ((p1 &&& (2147483647 : Int32)) % (3 : Int32))), .val (.ref wA), .val (.ref wP), .val (.ref wP)]) (st' := [(.ref wP)]) st17 ?_
      refine goS (n := 77) (Ls' := #[.val (.int p1), .val (.int ((p1 &&& (2147483647 : Int32)) % (3 : Int32))), .val (.ref wA), .val (.ref wP), .val (.ref wP)]) (st' := [(.ref wP), (.ref wP)]) (fun _ k => XS.aload X17.here hx rfl (hb hby at_75) rfl rfl k) ?_
      refine goS (n := 80) (Ls' := #[.val (.int p1), .val (.int ((p1 &&& (2147483647 : Int32)) % (3 : Int32))), .val (.ref wA), .val (.ref wP), .val (.ref wP)]) (st' := []) (fun _ k => Jvm.RoadKit.acmp (g := (mkF m 77 #[.val (.int p1), .val (.int ((p1 &&& (2147483647 : Int32)) % (3 : Int32))), .val (.ref wA), .val (.ref wP), .val (.ref wP)] [(.ref wP), (.ref wP)])) X17 hx rfl rfl rfl (pc0 := 77) (pc' := 80) (same := true) rfl (hb hby at_77) rfl (decide_eq_true (congrArg Value.ref rfl)) (by decide) (by decide) k) ?_
      refine goS (n := 81) (Ls' := #[.val (.int p1), .val (.int ((p1 &&& (2147483647 : Int32)) % (3 : Int32))), .val (.ref wA), .val (.ref wP), .val (.ref wP)]) (st' := [(.int (1 : Int32))]) (fun _ k => XS.iconst X17.here hx rfl (hb hby at_80) k) ?_
      refine goS (n := 85) (Ls' := #[.val (.int p1), .val (.int ((p1 &&& (2147483647 : Int32)) % (3 : Int32))), .val (.ref wA), .val (.ref wP), .val (.ref wP)]) (st' := [(.int (1 : Int32))]) (fun _ k => XS.goto X17.here hx rfl (pc0 := 81) (pc' := 85) rfl (hb hby at_81) (by decide) (by decide) k) ?_
      exact goRetZ X17 hx hlk Bd.returns (Or.inr rfl) (hb hby at_85) (by decide) (by decide) (by rw [e17]; exact ⟨rfl, N17⟩)
set_option maxRecDepth 65536 in
set_option maxHeartbeats 40000000 in
theorem comes_1 {Post : Tables → Env → Array Value → State → Outcome → State → Prop} (hpost : ∀ tb e args s v u, (limb_1_1.after args s (.returned v) u = true ∧ limb_1_2.after args s (.returned v) u = true ∧ True) → FrameEnd s (.returned v) u (Jvm.fieldLocs frame_1_writes args s ++ Jvm.arrayLocs frame_1_arrays args s ++ Jvm.staticLocs frame_1_statics s) 0 0 → Post tb e args s (.returned v) u) :
    ArmFor flags0 classFile x code maxLocals ret World_1 tables_1 room_1 Calls_1 rest_1 Pre_1 Post := by
  intro l hfl _ _ p e ha hc hk s m args below hf hA hF happ hP
  obtain ⟨hcalls, hrest, hpre⟩ := hP
  obtain ⟨-, -, -, hnamed, -, -, -, hat⟩ := (Spec.applies_iff hf).mp happ
  obtain ⟨hg, hn⟩ := and_e (Cond.before_iff.mp (show (Jvm.Cond.and given_1 narrow_1).before args s = true from hpre))
  obtain ⟨g1, g2⟩ := and_e hg
  obtain ⟨w0, rfl⟩ : ∃ w0 : Value, args = #[w0] := by
    have hs : args.size = 1 := by simpa [Cond.value, given_1] using g1
    obtain ⟨L⟩ := args
    match L, hs with
    | [w0], _ => exact ⟨w0, rfl⟩
  have hw := fun d (hd : d ∈ tables_1) => atoms_spec (ws := Jvm.Cond.code x code maxLocals ret :: tables_1) hat d (List.mem_cons_of_mem _ hd)
  have hfit : Fit s := fun {y c} hc i hi => by
    obtain ⟨ha, rfl⟩ := Array.getElem?_eq_some_iff.mp hc
    have q := List.all_eq_true.mp ((Array.all_eq_true_iff_forall_mem.mp hF) _ (Array.getElem_mem ha)) i (List.mem_range.mpr hi)
    simpa [Array.getElem?_eq_getElem hi] using q
  obtain ⟨i0, ei0⟩ := is_v g2
  obtain rfl : w0 = (.int i0) := Option.some.inj ei0
  obtain ⟨nr1, nr2⟩ := and_e hn
  obtain ⟨nr3, nr4⟩ := and_e nr2
  obtain ⟨nr5, nr6⟩ := and_e nr4
  obtain ⟨nr7, nr8⟩ := and_e nr6
  obtain ⟨nr9, nr10⟩ := and_e nr8
  obtain ⟨w_GET, ev_GET⟩ := exa_v nr1
  have EX_GET : Exa s s.heap w_GET "com/example/sixphase/bench/Mode" := Exa.start ev_GET nr1
  have ST_GET : Sta s s.heap "com/example/sixphase/bench/Mode" "GET" "Lcom/example/sixphase/bench/Mode;" (.ref w_GET) := Sta.start ev_GET (Or.inr ⟨(hw _ (List.mem_of_getElem? (i := 2) rfl)), (hw _ (List.mem_of_getElem? (i := 3) rfl))⟩)
  obtain ⟨w_AJAX, ev_AJAX⟩ := exa_v nr3
  have EX_AJAX : Exa s s.heap w_AJAX "com/example/sixphase/bench/Mode" := Exa.start ev_AJAX nr3
  have ST_AJAX : Sta s s.heap "com/example/sixphase/bench/Mode" "AJAX" "Lcom/example/sixphase/bench/Mode;" (.ref w_AJAX) := Sta.start ev_AJAX (Or.inr ⟨(hw _ (List.mem_of_getElem? (i := 2) rfl)), (hw _ (List.mem_of_getElem? (i := 10) rfl))⟩)
  obtain ⟨w_POST, ev_POST⟩ := exa_v nr9
  have EX_POST : Exa s s.heap w_POST "com/example/sixphase/bench/Mode" := Exa.start ev_POST nr9
  have ST_POST : Sta s s.heap "com/example/sixphase/bench/Mode" "POST" "Lcom/example/sixphase/bench/Mode;" (.ref w_POST) := Sta.start ev_POST (Or.inr ⟨(hw _ (List.mem_of_getElem? (i := 2) rfl)), (hw _ (List.mem_of_getElem? (i := 13) rfl))⟩)
  have FL_GET_ordinal : Fld s s.heap w_GET "java/lang/Enum" "ordinal" "I" (.int (0 : Int32)) := fldStart ev_GET nr5
  have FL_AJAX_ordinal : Fld s s.heap w_AJAX "java/lang/Enum" "ordinal" "I" (.int (2 : Int32)) := fldStart ev_AJAX nr7
  have FL_POST_ordinal : Fld s s.heap w_POST "java/lang/Enum" "ordinal" "I" (.int (1 : Int32)) := fldStart ev_POST nr10
  have hGA : w_GET ≠ w_AJAX := Fld.ne FL_GET_ordinal FL_AJAX_ordinal (by decide)
  have hPA : w_POST ≠ w_AJAX := Fld.ne FL_POST_ordinal FL_AJAX_ordinal (by decide)
  obtain ⟨n, o, h1, h2, h3, _, L, rfl, ⟨rfl, N⟩, hq⟩ := rm_law l s _ hw tables_1 i0 w_GET w_POST w_AJAX s.heap s.heap.size (Old.start s) ST_GET ST_POST ST_AJAX EX_GET EX_POST EX_AJAX hGA hPA p e ha hc hk s m _ below hf ((Spec.applies_iff_loose hf).mp happ).1 ⟨rfl, State.Warmed39.refl s, rfl⟩ trivial
  refine ⟨n, _, h1, h2, h3, hpost _ _ _ _ _ _ ⟨Cond.after_iff.mpr rfl, Cond.after_iff.mpr (eq_i res_at (Term.int_eval (1)) rfl), trivial⟩ ⟨hq.1, hq.2.1, (hq.2.2.sift fun y hy => Or.inr (N y hy)).mono (by decide) (by decide)⟩⟩
theorem main_1_1 : Claimed_1_1 := comes_1 fun _ _ _ _ _ _ h hF => ⟨h.1, hF⟩
theorem main_1_2 : Claimed_1_2 := comes_1 fun _ _ _ _ _ _ h hF => ⟨h.2.1, hF⟩
end Jvm.Pilot.@@N@@
namespace Jvm.Pilot.@@N@@
open Jvm Jvm.ClassFile Sem Op Lib Jvm.Free Jvm.Stand Jvm.Pilot.@@N@@.Jvm.D
/-! MADE BY PROGRAM (witnessworld.py) out of the Statement's table words and the real class files: 12 classes; the members and pool entries that the words name. The judged class is class 1, her method 1. -/
namespace start1
open Jvm.ClassFile
def u (s : String) : CpInfo := .utf8 (stringToUtf16 s)
/-- a pool by its gaps: so many unusable entries, then the entry; so many at the end -/
def gap : Nat → List CpInfo → List CpInfo
  | 0, r => r
  | n + 1, r => .unusable :: gap n r
def poolList (es : List (Nat × CpInfo)) (last : Nat) : List CpInfo := es.foldr (fun e r => gap e.1 (e.2 :: r)) (gap last [])
def pool (es : List (Nat × CpInfo)) (last : Nat) : Array CpInfo := ⟨poolList es last⟩
def fileOf (pool : Array CpInfo) (this : Nat) (attrs : Array Attribute := #[]) (ms : Array MethodInfo := #[]) (fl : Nat := 33) (sup : Nat := 0) (ifs : Array Nat := #[]) (fds : Array FieldInfo := #[]) : ClassFile where
  minorVersion := 0
  majorVersion := 65
  constantPool := pool
  accessFlags := fl
  thisClass := this
  superClass := sup
  interfaces := ifs
  fields := fds
  methods := ms
  attributes := attrs
def plain (name : String) (sup : Option ClassId) : Class where
  name := name
  kind := .ordinary
  loader := none
  accessFlags := 33
  super := sup
  interfaces := #[]
  cf := none
  fields := #[]
  methods := #[]
  instanceTypes := #[]
  staticTypes := #[]
  resolved := #[]
  callSites := []
  init := .initialized
  statics := none
  mirror := none

def pool0 : Array CpInfo := pool [(5, u "<init>"), (0, u "()V"), (1, .class_ 10), (1, u "java/lang/Object")] 113

def k0m0 : Method := { name := "<init>", desc := "()V", sig := { parameters := [], returnType := none }, accessFlags := 1, code := none }
/-- java/lang/Object -/
def k0 : Class := { plain "java/lang/Object" none with
  accessFlags := 33
  interfaces := #[]
  cf := some (fileOf pool0 8 #[] #[{ accessFlags := 1, nameIndex := 5, descriptorIndex := 6, attributes := #[] }] 33 0 #[] #[])
  fields := #[]
  methods := #[k0m0]
  instanceTypes := #[]
  staticTypes := #[]
  resolved := Array.replicate 124 none
  statics := none }

def pool1 : Array CpInfo := pool [(2, .class_ 4), (1, u "java/lang/Object"), (0, u "<init>"), (0, u "()V"), (0, .integer 2147483647), (0, .fieldref 9 10), (0, .class_ 11), (0, .nameAndType 12 13), (0, u "com/example/sixphase/bench/Mode"), (0, u "GET"), (0, u "Lcom/example/sixphase/bench/Mode;"), (0, .fieldref 9 15), (0, .nameAndType 16 13), (0, u "POST"), (0, .fieldref 9 18), (0, .nameAndType 19 13), (0, u "AJAX"), (0, .methodref 9 21), (0, .nameAndType 22 23), (0, u "baseline"), (0, u "()Lcom/example/sixphase/bench/Mode;"), (0, .class_ 25), (0, u "com/example/sixphase/bench/ModeBaselinePinLaw"), (2, u "law"), (0, u "(I)Z")] 3

def k1m0 : Method := { name := "<init>", desc := "()V", sig := { parameters := [], returnType := none }, accessFlags := 1, code := none }
def k1c1 : Code := { maxStack := 2, maxLocals := 5, code := code, exceptionTable := #[], attributes := #[] }
def k1m1 : Method := { name := "law", desc := "(I)Z", sig := { parameters := [.int], returnType := some .boolean }, accessFlags := 9, code := some k1c1 }
/-- com/example/sixphase/bench/ModeBaselinePinLaw -/
def k1 : Class := { plain "com/example/sixphase/bench/ModeBaselinePinLaw" (some 0) with
  accessFlags := 49
  interfaces := #[]
  cf := some (fileOf pool1 24 #[] #[{ accessFlags := 1, nameIndex := 5, descriptorIndex := 6, attributes := #[] }, { accessFlags := 9, nameIndex := 28, descriptorIndex := 29, attributes := #[] }] 49 2 #[] #[])
  fields := #[]
  methods := #[k1m0, k1m1]
  instanceTypes := #[]
  staticTypes := #[]
  resolved := Array.replicate 33 none
  statics := none }

def pool2 : Array CpInfo := pool [(1, .class_ 2), (0, u "java/lang/constant/Constable"), (0, .class_ 4), (0, u "java/lang/Object")] 6

/-- java/lang/constant/Constable -/
def k2 : Class := { plain "java/lang/constant/Constable" (some 0) with
  accessFlags := 1537
  interfaces := #[]
  cf := some (fileOf pool2 1 #[] #[] 1537 3 #[] #[])
  fields := #[]
  methods := #[]
  instanceTypes := #[]
  staticTypes := #[]
  resolved := Array.replicate 11 none
  statics := none }

def pool3 : Array CpInfo := pool [(1, .class_ 2), (0, u "java/lang/Comparable"), (0, .class_ 4), (0, u "java/lang/Object")] 7

/-- java/lang/Comparable -/
def k3 : Class := { plain "java/lang/Comparable" (some 0) with
  accessFlags := 1537
  interfaces := #[]
  cf := some (fileOf pool3 1 #[] #[] 1537 3 #[] #[])
  fields := #[]
  methods := #[]
  instanceTypes := #[]
  staticTypes := #[]
  resolved := Array.replicate 12 none
  statics := none }

def pool4 : Array CpInfo := pool [(1, .class_ 2), (0, u "java/io/Serializable"), (0, .class_ 4), (0, u "java/lang/Object")] 2

/-- java/io/Serializable -/
def k4 : Class := { plain "java/io/Serializable" (some 0) with
  accessFlags := 1537
  interfaces := #[]
  cf := some (fileOf pool4 1 #[] #[] 1537 3 #[] #[])
  fields := #[]
  methods := #[]
  instanceTypes := #[]
  staticTypes := #[]
  resolved := Array.replicate 7 none
  statics := none }

def pool5 : Array CpInfo := pool [(2, .class_ 4), (1, u "java/lang/Enum"), (0, u "name"), (0, u "Ljava/lang/String;"), (2, u "ordinal"), (0, u "I"), (1, .class_ 14), (1, u "java/lang/Object"), (4, u "hash"), (86, .class_ 108), (1, u "java/lang/Enum$EnumDesc"), (2, .class_ 112), (0, u "java/lang/constant/Constable"), (0, .class_ 114), (0, u "java/lang/Comparable"), (0, .class_ 116), (0, u "java/io/Serializable")] 87

/-- java/lang/Enum -/
def k5 : Class := { plain "java/lang/Enum" (some 0) with
  accessFlags := 1057
  interfaces := #[2, 3, 4]
  cf := some (fileOf pool5 2 #[.nestMembers #[106]] #[] 1057 12 #[111, 113, 115] #[{ accessFlags := 18, nameIndex := 5, descriptorIndex := 6, attributes := #[] }, { accessFlags := 18, nameIndex := 9, descriptorIndex := 10, attributes := #[] }, { accessFlags := 2, nameIndex := 19, descriptorIndex := 10, attributes := #[] }])
  fields := #[{ name := "name", type := (.object "java/lang/String"), accessFlags := 18, slot := 0, constantValue := 0 }, { name := "ordinal", type := .int, accessFlags := 18, slot := 1, constantValue := 0 }, { name := "hash", type := .int, accessFlags := 2, slot := 2, constantValue := 0 }]
  methods := #[]
  instanceTypes := #[(.object "java/lang/String"), .int, .int]
  staticTypes := #[]
  resolved := Array.replicate 204 none
  statics := none }

def pool6 : Array CpInfo := pool [(1, .class_ 2), (0, u "com/example/sixphase/bench/Mode"), (2, u "GET"), (0, u "Lcom/example/sixphase/bench/Mode;"), (0, .fieldref 1 8), (0, .nameAndType 9 6), (0, u "POST"), (0, .fieldref 1 11), (0, .nameAndType 12 6), (0, u "AJAX"), (2, u "$VALUES"), (0, u "[Lcom/example/sixphase/bench/Mode;"), (6, .class_ 25), (1, u "java/lang/Enum"), (38, u "baseline"), (0, u "()Lcom/example/sixphase/bench/Mode;")] 5

def k6c0 : Code := { maxStack := 2, maxLocals := 1, code := prog_4_method_5_code, exceptionTable := #[], attributes := #[] }
def k6m0 : Method := { name := "baseline", desc := "()Lcom/example/sixphase/bench/Mode;", sig := { parameters := [], returnType := some (.object "com/example/sixphase/bench/Mode") }, accessFlags := 1, code := some k6c0 }
/-- com/example/sixphase/bench/Mode -/
def k6 : Class := { plain "com/example/sixphase/bench/Mode" (some 5) with
  accessFlags := 16433
  interfaces := #[]
  cf := some (fileOf pool6 1 #[] #[{ accessFlags := 1, nameIndex := 64, descriptorIndex := 65, attributes := #[] }] 16433 23 #[] #[{ accessFlags := 16409, nameIndex := 5, descriptorIndex := 6, attributes := #[] }, { accessFlags := 16409, nameIndex := 9, descriptorIndex := 6, attributes := #[] }, { accessFlags := 16409, nameIndex := 12, descriptorIndex := 6, attributes := #[] }, { accessFlags := 4122, nameIndex := 15, descriptorIndex := 16, attributes := #[] }])
  fields := #[{ name := "GET", type := (.object "com/example/sixphase/bench/Mode"), accessFlags := 16409, slot := 0, constantValue := 0 }, { name := "POST", type := (.object "com/example/sixphase/bench/Mode"), accessFlags := 16409, slot := 1, constantValue := 0 }, { name := "AJAX", type := (.object "com/example/sixphase/bench/Mode"), accessFlags := 16409, slot := 2, constantValue := 0 }, { name := "$VALUES", type := (.array (.object "com/example/sixphase/bench/Mode")), accessFlags := 4122, slot := 3, constantValue := 0 }]
  methods := #[k6m0]
  instanceTypes := #[(.object "java/lang/String"), .int, .int]
  staticTypes := #[(.object "com/example/sixphase/bench/Mode"), (.object "com/example/sixphase/bench/Mode"), (.object "com/example/sixphase/bench/Mode"), (.array (.object "com/example/sixphase/bench/Mode"))]
  resolved := Array.replicate 71 none
  statics := some 0 }

def pool7 : Array CpInfo := pool [(1, u "java/lang/Cloneable"), (0, .class_ 1), (0, u "java/lang/Object"), (0, .class_ 3)] 3

/-- java/lang/Cloneable -/
def k7 : Class := { plain "java/lang/Cloneable" (some 0) with
  accessFlags := 1537
  interfaces := #[]
  cf := some (fileOf pool7 2 #[] #[] 1537 4 #[] #[])
  fields := #[]
  methods := #[]
  instanceTypes := #[]
  staticTypes := #[]
  resolved := Array.replicate 8 none
  statics := none }

/-- the primitive byte -/
def k8 : Class := { plain "byte" none with kind := .primitive 'B', accessFlags := 0x411 }
/-- [B -/
def k9 : Class := { plain "[B" (some 0) with kind := .array 8 .byte, interfaces := #[7, 4], accessFlags := 1041 }

/-- the primitive int -/
def k10 : Class := { plain "int" none with kind := .primitive 'I', accessFlags := 0x411 }
/-- [I -/
def k11 : Class := { plain "[I" (some 0) with kind := .array 10 .int, interfaces := #[7, 4], accessFlags := 1041 }

def heap : Heap := #[{ cls := 6, slots := #[.ref 1, .ref 2, .ref 3, .null], vm := .statics 6 },
  { cls := 6, slots := #[.null, .int 0, .int 0], vm := .none },
  { cls := 6, slots := #[.null, .int 1, .int 0], vm := .none },
  { cls := 6, slots := #[.null, .int 2, .int 0], vm := .none }]
def classes : Array Class := #[k0, k1, k2, k3, k4, k5, k6, k7, k8, k9, k10, k11]
def interned : List (Array UInt16 × Addr) := []
def slotsUsed : Nat := 13
def theMethod : MethodId := ⟨1, 1⟩
def args0 : Array Value := #[.int 5]
def aboutOver (below : List Frame) : State where
  vm := { classes := classes, interned := interned.toArray }
  heap := heap
  slotsUsed := slotsUsed
  threads := #[{ frames := .invoking theMethod args0 :: below }]
def below0 : List Frame := [.native { method := ⟨0, 0⟩, args := #[] }]
def about1 : State := aboutOver below0
def p0 : Program := .bare "" "" ""
def e0 : Env := launch0.env 0 0 0
theorem w_frames : about1.frames = Frame.invoking theMethod args0 :: below0 := rfl
set_option maxRecDepth 65536 in
theorem w_args : argsFit about1.vm theMethod args0 = true := by decide +kernel
set_option maxRecDepth 65536 in
theorem w_heap : heapFits about1 = true := by decide +kernel
set_option maxRecDepth 65536 in
theorem w_runnable : about1.curStatus? = some .runnable := by decide +kernel
set_option maxRecDepth 65536 in
theorem w_alone : about1.alone = true := by decide +kernel
set_option maxRecDepth 65536 in
theorem w_named : about1.methodNamed? x = some theMethod := by decide +kernel
set_option maxRecDepth 65536 in
theorem w_hears : about1.hears theMethod below0 = true := by decide +kernel
set_option maxRecDepth 65536 in
theorem w_ripe : about1.ripe theMethod args0 below0 = true := by decide +kernel
theorem w_running : about1.status = .running := rfl
set_option maxRecDepth 65536 in
theorem w_room : about1.hasRoom e0.platform room_1 = true :=
  launch0.hasRoom_least _ room_1 (by decide +kernel) (by decide +kernel) (by decide +kernel) (by decide +kernel) (by decide +kernel) (by decide +kernel)
theorem allAtoms_all (ts : List Jvm.Cond) (a : Array Jvm.Value) (st : Jvm.State) : (allAtoms ts).before a st = ts.all (fun c => c.before a st) := by
  induction ts with
  | nil => rfl
  | cons c t ih =>
    show (Jvm.Cond.and c (allAtoms t)).before a st = _
    rw [Jvm.Cond.before_and, ih, List.all_cons]
def words1 : List Jvm.Cond := Jvm.Cond.code x code maxLocals ret :: tables_1
/-- a 'code' word, met by the world's own term for the bytes: nothing is compared byte by byte -/
theorem code_word {y : MethodName} {bytes : ByteArray} {mx : Nat} {rt : Option FieldType} {a : Array Value} {s : State} {m : MethodId} {meth : Method} {c : Code} (h1 : s.methodNamed? y = some m) (h2 : s.vm.method? m = some meth) (h3 : meth.code = some c) (h4 : c.code = bytes)
    (h5 : (c.maxLocals == mx && c.exceptionTable.isEmpty && decide (c.maxStack ≤ mostOperands) && decide (meth.sig.returnType = rt) && !meth.locks && decide (parseMethodDescriptor y.desc = some meth.sig)) = true) : (Jvm.Cond.code y bytes mx rt).before a s = true := by
  simp only [Bool.and_eq_true, beq_iff_eq, Bool.not_eq_true', decide_eq_true_eq] at h5
  obtain ⟨⟨⟨⟨⟨g1, g2⟩, g3⟩, g4⟩, g5⟩, g6⟩ := h5
  simp [Cond.before, Cond.holds, Cond.value, h1, h2, h3, h4, g1, g2, g3, g4, g5, g6]
def isCode : Jvm.Cond → Bool
  | .code _ _ _ _ => true
  | _ => false
theorem all_split {L : List Jvm.Cond} {P : Jvm.Cond → Bool} (h1 : L.all (fun c => isCode c || P c) = true) (h2 : ∀ c ∈ L.filter isCode, P c = true) : L.all P = true := by
  refine List.all_eq_true.mpr fun c hc => ?_
  have h := List.all_eq_true.mp h1 c hc
  rcases Bool.eq_false_or_eq_true (isCode c) with hi | hi
  · exact h2 c (List.mem_filter.mpr ⟨hc, hi⟩)
  · simpa [hi] using h
set_option maxRecDepth 65536 in
theorem w_c0 : (Jvm.Cond.code x code maxLocals ret).before args0 about1 = true := code_word (m := ⟨1, 1⟩) (meth := k1m1) (c := k1c1) (by decide +kernel) rfl rfl rfl (by decide +kernel)
set_option maxRecDepth 65536 in
theorem w_c1 : (Jvm.Cond.code ({ cls := "com/example/sixphase/bench/Mode", name := "baseline", desc := "()Lcom/example/sixphase/bench/Mode;" } : Jvm.MethodName) prog_4_method_5_code (1 : Nat) (Option.some (Jvm.ClassFile.FieldType.object "com/example/sixphase/bench/Mode"))).before args0 about1 = true := code_word (m := ⟨6, 0⟩) (meth := k6m0) (c := k6c0) (by decide +kernel) rfl rfl rfl (by decide +kernel)
def codes1 : List Jvm.Cond := [Jvm.Cond.code x code maxLocals ret, Jvm.Cond.code ({ cls := "com/example/sixphase/bench/Mode", name := "baseline", desc := "()Lcom/example/sixphase/bench/Mode;" } : Jvm.MethodName) prog_4_method_5_code (1 : Nat) (Option.some (Jvm.ClassFile.FieldType.object "com/example/sixphase/bench/Mode"))]
set_option maxRecDepth 65536 in
theorem codes_eq : words1.filter isCode = codes1 := rfl
theorem w_codes : ∀ c ∈ words1.filter isCode, c.before args0 about1 = true := by
  rw [codes_eq]
  intro c hc
  simp only [codes1, List.mem_cons, List.not_mem_nil, or_false] at hc
  rcases hc with rfl | rfl
  · exact w_c0
  · exact w_c1
set_option maxRecDepth 65536 in
theorem w_t1 : words1.all (fun c => isCode c || c.before args0 about1) = true := by decide +kernel
theorem w_tables : (allAtoms (Jvm.Cond.code x code maxLocals ret :: tables_1)).before args0 about1 = true := by
  rw [allAtoms_all]
  show words1.all (fun c => c.before args0 about1) = true
  refine all_split ?_ w_codes
  rw [w_t1]
set_option maxRecDepth 65536 in
theorem w_case : (Jvm.Cond.and given_1 narrow_1).before args0 about1 = true := by decide +kernel
theorem w_applies : (headSpec (Jvm.Cond.code x code maxLocals ret :: tables_1) room_1).applies x e0.platform about1 = true :=
  (Spec.applies_iff w_frames).mpr ⟨w_running, w_runnable, w_alone, w_named, w_hears, w_ripe, w_room, w_tables⟩
theorem atStart : AtStart classFile x code maxLocals ret World_1 tables_1 room_1 Calls_1 rest_1 Pre_1 launch0 p0 e0 about1 theMethod args0 below0 :=
  ⟨lists_1, trivial, launch0.admits_env _ _ _, launch0.least_env, fairChoices_fair.cas, fairChoices_fair.clock, w_frames, w_args, w_heap, w_applies, trivial, trivial, w_case⟩
end start1
theorem witness_1 : WitnessClaimed_1 := ⟨start1.p0, start1.e0, start1.about1, start1.theMethod, start1.args0, start1.below0, start1.atStart⟩
end Jvm.Pilot.@@N@@
