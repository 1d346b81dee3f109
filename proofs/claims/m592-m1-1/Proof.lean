import JvmDerived
import JvmDerived.Pilot.@@N@@Statement
import JvmDerived.Pilot.@@N@@Code
set_option linter.unusedVariables false
set_option linter.unusedSimpArgs false
namespace Jvm.OwnGo
open Sem ClassFile Op Lib Jvm.Stand Jvm.Free Jvm.LawKit Jvm.RoadKit
section Own
variable {p : Program} {l : Launch} {e : Env} {R : Room} {s : State} {m : MethodId} {args : Array Value} {below : List Frame} {meth : Method} {c : Code} {T T' : State} {locs : List Loc} {cells slots : Nat} {P : Outcome → State → Prop} {g g' : JFrame} {Z : State} {h : Heap}
/-- from where the walk stands (the state T, the frame g) it ends well -/
def Go (p : Program) (e : Env) (below : List Frame) (P : Outcome → State → Prop) (T : State) (g : JFrame) : Prop :=
  ∃ s₂ o, Steps p.tables e below (T.setTop g) s₂ ∧ s₂.status = .running ∧ Ended s₂ below o ∧ P o s₂
/-- what a contract asks of the end -/
abbrev PQ (s : State) (C S : Nat) (Q : Option Value → Heap → List Loc → Prop) : Outcome → State → Prop := fun o U' => ∃ v L, o = .returned v ∧ Q v U'.heap L ∧ FrameEnd s o U' L C S
theorem goS {n : Nat} {Ls' : Array Slot} {st' : List Value} (k : ∀ t, Steps p.tables e below (T'.setTop (mkF m n Ls' st')) t → Steps p.tables e below (T.setTop g) t) (h : Go p e below P T' (mkF m n Ls' st')) : Go p e below P T g := by
  obtain ⟨s2, o, h1, h2⟩ := h; exact ⟨s2, o, k _ h1, h2⟩
theorem goT {n : Nat} {Ls' : Array Slot} {st' : List Value} (k : Steps p.tables e below (T.setTop g) (T'.setTop (mkF m n Ls' st'))) (h : Go p e below P T' (mkF m n Ls' st')) : Go p e below P T g := by
  obtain ⟨s2, o, h1, h2⟩ := h; exact ⟨s2, o, k.trans h1, h2⟩
theorem enter (q : entryFrame m args n = g) (h : Go p e below P T g) : ∃ s₂ o, Steps p.tables e below (T.setTop (entryFrame m args n)) s₂ ∧ s₂.status = .running ∧ Ended s₂ below o ∧ P o s₂ := by
  rw [q]; exact h
theorem goRet {Q : Option Value → Heap → List Loc → Prop} {C S : Nat} (X : Stand p l e R s m args below meth c T locs cells slots) (hx : p.tables.exec = Jvm.exec) (hlk : meth.locks = false) {pc : Nat} {Ls : Array Slot} {w : Value} {t : FieldType} {i : Instr} {rest : List Value} (hret : meth.sig.returnType = some t) (hn : narrow t w = w)
    (hi : (i = .ireturn ∧ (t = .int ∨ t = .boolean ∨ t = .byte ∨ t = .char ∨ t = .short) ∧ ∃ z, w = .int z) ∨ (i = .lreturn ∧ t = .long ∧ ∃ z, w = .long z) ∨ (i = .dreturn ∧ t = .double ∧ ∃ z, w = .double z) ∨ (i = .freturn ∧ t = .float ∧ ∃ z, w = .float z) ∨ (i = .areturn ∧ t.isReference = true ∧ w.isRef = true))
    (hd : decode c.code pc = .ok (i, 1)) (hC : cells ≤ C) (hS : slots ≤ S) (hQ : Q (some w) T.heap locs) : Go p e below (PQ s C S Q) T (mkF m pc Ls (w :: rest)) := by
  obtain ⟨fs, hr, hrun, hended, hW, hsame⟩ := X.leave (v := some w) (fun h => by rw [hret] at h; cases h) hlk
  exact ⟨_, _, retOut X hx hret hn hi hd hr, hrun, hended, _, _, rfl, hQ, ⟨_, rfl⟩, hW, hsame.mono hC hS⟩
theorem goRetI {Q : Option Value → Heap → List Loc → Prop} {C S : Nat} (X : Stand p l e R s m args below meth c T locs cells slots) (hx : p.tables.exec = Jvm.exec) (hlk : meth.locks = false) {pc : Nat} {Ls : Array Slot} {z : Int32} {rest : List Value} (hret : meth.sig.returnType = some .int) (hd : decode c.code pc = .ok (.ireturn, 1)) (hC : cells ≤ C) (hS : slots ≤ S) (hQ : Q (some (.int z)) T.heap locs) : Go p e below (PQ s C S Q) T (mkF m pc Ls (.int z :: rest)) :=
  goRet X hx hlk hret rfl (Or.inl ⟨rfl, Or.inl rfl, _, rfl⟩) hd hC hS hQ
theorem goRetZ {Q : Option Value → Heap → List Loc → Prop} {C S : Nat} (X : Stand p l e R s m args below meth c T locs cells slots) (hx : p.tables.exec = Jvm.exec) (hlk : meth.locks = false) {pc : Nat} {Ls : Array Slot} {z : Int32} {rest : List Value} (hret : meth.sig.returnType = some .boolean) (hz : z = 0 ∨ z = 1) (hd : decode c.code pc = .ok (.ireturn, 1)) (hC : cells ≤ C) (hS : slots ≤ S) (hQ : Q (some (.int z)) T.heap locs) : Go p e below (PQ s C S Q) T (mkF m pc Ls (.int z :: rest)) :=
  goRet X hx hlk hret (by rcases hz with rfl | rfl <;> rfl) (Or.inl ⟨rfl, Or.inr (Or.inl rfl), _, rfl⟩) hd hC hS hQ
theorem goRetJ {Q : Option Value → Heap → List Loc → Prop} {C S : Nat} (X : Stand p l e R s m args below meth c T locs cells slots) (hx : p.tables.exec = Jvm.exec) (hlk : meth.locks = false) {pc : Nat} {Ls : Array Slot} {z : Int64} {rest : List Value} (hret : meth.sig.returnType = some .long) (hd : decode c.code pc = .ok (.lreturn, 1)) (hC : cells ≤ C) (hS : slots ≤ S) (hQ : Q (some (.long z)) T.heap locs) : Go p e below (PQ s C S Q) T (mkF m pc Ls (.long z :: rest)) :=
  goRet X hx hlk hret rfl (Or.inr (Or.inl ⟨rfl, rfl, _, rfl⟩)) hd hC hS hQ
theorem goRetA {Q : Option Value → Heap → List Loc → Prop} {C S : Nat} (X : Stand p l e R s m args below meth c T locs cells slots) (hx : p.tables.exec = Jvm.exec) (hlk : meth.locks = false) {pc : Nat} {Ls : Array Slot} {w : Value} {t : FieldType} {rest : List Value} (hret : meth.sig.returnType = some t) (ht : t.isReference = true) (hw : w.isRef = true) (hd : decode c.code pc = .ok (.areturn, 1)) (hC : cells ≤ C) (hS : slots ≤ S) (hQ : Q (some w) T.heap locs) : Go p e below (PQ s C S Q) T (mkF m pc Ls (w :: rest)) :=
  goRet X hx hlk hret (by cases t <;> first | rfl | cases ht) (Or.inr (Or.inr (Or.inr (Or.inr ⟨rfl, ht, hw⟩)))) hd hC hS hQ
theorem goRetV {Q : Option Value → Heap → List Loc → Prop} {C S : Nat} (X : Stand p l e R s m args below meth c T locs cells slots) (hx : p.tables.exec = Jvm.exec) (hlk : meth.locks = false) {pc : Nat} {Ls : Array Slot} (hret : meth.sig.returnType = none) (hd : decode c.code pc = .ok (.return_, 1)) (hC : cells ≤ C) (hS : slots ≤ S) (hQ : Q none T.heap locs) : Go p e below (PQ s C S Q) T (mkF m pc Ls []) := by
  obtain ⟨fs, hr, hrun, hended, hW, hsame⟩ := X.leave (v := none) (fun _ => rfl) hlk
  exact ⟨_, _, X.returnOut hx hret hd hr, hrun, hended, _, _, rfl, hQ, ⟨_, rfl⟩, hW, hsame.mono hC hS⟩
abbrev PQW (s : State) (C S : Nat) (Q : Option Value → Heap → List Loc → Prop) : Outcome → State → Prop := fun o U' => ∃ v L, o = .returned v ∧ Q v U'.heap L ∧ ReturnedEndW s o U' L C S
theorem goRetW {Q : Option Value → Heap → List Loc → Prop} {C S : Nat} {vm₁ : Vm} (X : Stand p l e R (s.setVm vm₁) m args below meth c T locs cells slots) (hx : p.tables.exec = Jvm.exec) (hlk : meth.locks = false) {n : Nat} (hS : s.Since vm₁ n) (hn0 : n ≤ T.heap.size) {pc : Nat} {Ls : Array Slot} {w : Value} {t : FieldType} {i : Instr} {rest : List Value} (hret : meth.sig.returnType = some t) (hn : narrow t w = w)
    (hi : (i = .ireturn ∧ (t = .int ∨ t = .boolean ∨ t = .byte ∨ t = .char ∨ t = .short) ∧ ∃ z, w = .int z) ∨ (i = .lreturn ∧ t = .long ∧ ∃ z, w = .long z) ∨ (i = .dreturn ∧ t = .double ∧ ∃ z, w = .double z) ∨ (i = .freturn ∧ t = .float ∧ ∃ z, w = .float z) ∨ (i = .areturn ∧ t.isReference = true ∧ w.isRef = true))
    (hd : decode c.code pc = .ok (i, 1)) (hC : cells ≤ C) (hSl : slots ≤ S) (hQ : Q (some w) T.heap locs) : Go p e below (PQW s C S Q) T (mkF m pc Ls (w :: rest)) := by
  obtain ⟨fs, hr, hrun, hended, h1, h2, h3, h4⟩ := X.leaveW hS hn0 (v := some w) (fun h => by rw [hret] at h; cases h) hlk
  exact ⟨_, _, retOut X hx hret hn hi hd hr, hrun, hended, _, _, rfl, hQ, ⟨_, rfl⟩, h2, h3, h4.mono hC hSl⟩
theorem goRetVW {Q : Option Value → Heap → List Loc → Prop} {C S : Nat} {vm₁ : Vm} (X : Stand p l e R (s.setVm vm₁) m args below meth c T locs cells slots) (hx : p.tables.exec = Jvm.exec) (hlk : meth.locks = false) {n : Nat} (hS : s.Since vm₁ n) (hn0 : n ≤ T.heap.size) {pc : Nat} {Ls : Array Slot} (hret : meth.sig.returnType = none) (hd : decode c.code pc = .ok (.return_, 1)) (hC : cells ≤ C) (hSl : slots ≤ S) (hQ : Q none T.heap locs) : Go p e below (PQW s C S Q) T (mkF m pc Ls []) := by
  obtain ⟨fs, hr, hrun, hended, h1, h2, h3, h4⟩ := X.leaveW hS hn0 (v := none) (fun _ => rfl) hlk
  exact ⟨_, _, X.returnOut hx hret hd hr, hrun, hended, _, _, rfl, hQ, ⟨_, rfl⟩, h2, h3, h4.mono hC hSl⟩
abbrev PQH (Z : State) (EL : List (String × Nat)) (s : State) (C S : Nat) (Q : Option Value → Heap → List Loc → Prop) : Outcome → State → Prop := fun o U' => ∃ v L, o = .returned v ∧ Q v U'.heap L ∧ CHr Z EL s.vm s.heap U'.vm U'.heap ∧ ReturnedEndW s o U' L C S
theorem goRetH {Q : Option Value → Heap → List Loc → Prop} {C S : Nat} {vm₁ : Vm} {EL : List (String × Nat)} {a0 : Array Value} (X : Stand p l e R (s.setVm vm₁) m args below meth c T locs cells slots) (hx : p.tables.exec = Jvm.exec) (hlk : meth.locks = false) {n : Nat} (hS : s.Since vm₁ n) (hn0 : n ≤ T.heap.size) (hZ : Z.Warmed39 vm₁) (hEL : EW Z a0 EL) (hC' : CHr Z EL s.vm s.heap vm₁ T.heap) {pc : Nat} {Ls : Array Slot} {w : Value} {t : FieldType} {i : Instr} {rest : List Value} (hret : meth.sig.returnType = some t) (hn : narrow t w = w)
    (hi : (i = .ireturn ∧ (t = .int ∨ t = .boolean ∨ t = .byte ∨ t = .char ∨ t = .short) ∧ ∃ z, w = .int z) ∨ (i = .lreturn ∧ t = .long ∧ ∃ z, w = .long z) ∨ (i = .dreturn ∧ t = .double ∧ ∃ z, w = .double z) ∨ (i = .freturn ∧ t = .float ∧ ∃ z, w = .float z) ∨ (i = .areturn ∧ t.isReference = true ∧ w.isRef = true))
    (hd : decode c.code pc = .ok (i, 1)) (hC : cells ≤ C) (hSl : slots ≤ S) (hQ : Q (some w) T.heap locs) : Go p e below (PQH Z EL s C S Q) T (mkF m pc Ls (w :: rest)) := by
  obtain ⟨fs, hr, hrun, hended, h1, h2, h3, h4⟩ := X.leaveW hS hn0 (v := some w) (fun h => by rw [hret] at h; cases h) hlk
  have qC : CHr Z EL s.vm s.heap T.vm T.heap := hC'.trans (CHv.at X hZ hEL hC'.1)
  exact ⟨_, _, retOut X hx hret hn hi hd hr, hrun, hended, _, _, rfl, hQ, qC, ⟨_, rfl⟩, h2, h3, h4.mono hC hSl⟩
theorem goRetVH {Q : Option Value → Heap → List Loc → Prop} {C S : Nat} {vm₁ : Vm} {EL : List (String × Nat)} {a0 : Array Value} (X : Stand p l e R (s.setVm vm₁) m args below meth c T locs cells slots) (hx : p.tables.exec = Jvm.exec) (hlk : meth.locks = false) {n : Nat} (hS : s.Since vm₁ n) (hn0 : n ≤ T.heap.size) (hZ : Z.Warmed39 vm₁) (hEL : EW Z a0 EL) (hC' : CHr Z EL s.vm s.heap vm₁ T.heap) {pc : Nat} {Ls : Array Slot} (hret : meth.sig.returnType = none) (hd : decode c.code pc = .ok (.return_, 1)) (hC : cells ≤ C) (hSl : slots ≤ S) (hQ : Q none T.heap locs) : Go p e below (PQH Z EL s C S Q) T (mkF m pc Ls []) := by
  obtain ⟨fs, hr, hrun, hended, h1, h2, h3, h4⟩ := X.leaveW hS hn0 (v := none) (fun _ => rfl) hlk
  have qC : CHr Z EL s.vm s.heap T.vm T.heap := hC'.trans (CHv.at X hZ hEL hC'.1)
  exact ⟨_, _, X.returnOut hx hret hd hr, hrun, hended, _, _, rfl, hQ, qC, ⟨_, rfl⟩, h2, h3, h4.mono hC hSl⟩
/-- a String under construction (its value is null) is no booked one -/
theorem safeNull {vm : Vm} {EL : List (String × Nat)} {a : Addr} (hal : Z.vm.Alike vm) (E : Exa Z h a "java/lang/String") (F : Fld Z h a "java/lang/String" "value" "[B" .null) : Safe Z EL vm h a := fun B => by
  obtain ⟨cell, cf, k, i, f, f1, f2, f3, f4, f5, f6, f7⟩ := F
  obtain ⟨cell', k', e1, e2, e3, -, -⟩ := E
  cases f1.symm.trans e1
  obtain ⟨p, -, u, a', -, q, -, F', rfl | rfl⟩ := B
  · have ha := F'.ha
    cases (show h[q.sa]? = some q.sC from ha).symm.trans f1
    obtain ⟨cS, ⟨⟨-, -, -, ⟨cv, kv, iv, s4, -⟩, -, -, -, s8, -⟩, -⟩, -⟩ := F'
    obtain ⟨kv', z4⟩ := ff_back (U := Wst Z vm h) hal s4
    cases f2.symm.trans z4
    rw [f7] at s8
    cases s8
  · have hd := F'.hd
    cases (show h[q.sd]? = some q.SA from hd).symm.trans f1
    obtain ⟨cS, -, -, hB, -⟩ := F'
    have hB' : Z.vm.findClass "[B" = some q.SA.cls := by rw [← hal.findClass]; exact hB
    obtain ⟨k1, q1, q2⟩ := Vm.findClass_spec hB'
    obtain ⟨k2, q3, q4⟩ := Vm.findClass_spec e2
    cases q1.symm.trans q3
    exact absurd (q2.symm.trans q4) (by decide)
theorem mvMN {a0 args : Array Value} {own host : String} {y : MethodName} {index : Nat} (hZ : Z.Warmed39 s.vm) (w : (Cond.methodLinkNest own index y host).before a0 Z = true) : (Cond.methodLinkNest own index y host).before args s = true := (Cond.methodLinkNest_wide hZ w :)
theorem shr0 (z : Int32) : z >>> ((0 : Int32) &&& 31) = z := by
  have h := c_ishr z 0 0 (by decide)
  exact Int32.toInt_inj.mp (by rw [h]; omega)
theorem narZ {z : Int32} (hz : z = 0 ∨ z = 1) : narrow .boolean (.int z) = .int z := by rcases hz with rfl | rfl <;> rfl
theorem fldStart {args : Array Value} {t : Term} {C n d : String} {a : Addr} {k : Int32} (ht : t.eval args Z none [] Z = some (.ref a)) (h : (Cond.eq (Term.field t C n d) (.int k)).value args Z none Z [] = some true) : Fld Z Z.heap a C n d (.int k) := by
  obtain ⟨x, y, e1, e2, k1, k2⟩ := cmp_v (Or.inl h)
  rw [Term.int_eval] at e2
  cases e2
  obtain ⟨z, rfl⟩ := k2
  have e3 := e1
  rw [fld_at ht] at e3
  have q : z = k := by simpa [Cond.value, e1, Term.int_eval] using h
  subst q
  exact Fld.start e3
def bi (P : Prop) [Decidable P] : Int32 := if P then 1 else 0
theorem bi_t {P : Prop} [Decidable P] (h : P) : bi P = 1 := if_pos h
theorem bi_f {P : Prop} [Decidable P] (h : ¬ P) : bi P = 0 := if_neg h
theorem bi01 (P : Prop) [Decidable P] : bi P = 0 ∨ bi P = 1 := by unfold bi; split <;> simp
theorem modk (x k : Int32) (K : Int) (hk : k.toInt = K) : 0 < K → 0 ≤ ((x &&& 2147483647) % k).toInt ∧ ((x &&& 2147483647) % k).toInt < K := by
  intro h0
  have h1 := c_mask x 2147483647 31 (by decide) (by decide)
  have h2 : 0 ≤ (x &&& 2147483647).toInt := by rw [h1]; omega
  have h3 := (c_irem (x &&& 2147483647) k K hk).1 h2
  rw [h3]
  exact ⟨Int.emod_nonneg _ (by omega), Int.emod_lt_of_pos _ h0⟩
/-- an index: a natural below n -/
theorem idx {i : Int32} {n : Nat} (h : 0 ≤ i.toInt ∧ i.toInt < (n : Int)) : ∃ k : Nat, k < n ∧ i.toInt = (k : Int) ∧ i.toNatClampNeg = k ∧ ¬ i < 0 := by
  have h0 : ¬ i < 0 := by rw [Int32.lt_iff_toInt_lt]; show ¬ i.toInt < 0; omega
  have h1 := nat_of h0
  exact ⟨i.toNatClampNeg, by omega, h1, rfl, h0⟩
theorem lsw {target : State} (X : Stand p l e R s m args below meth c T locs cells slots) (hx : p.tables.exec = Jvm.exec) (hg : g.method = m) {dflt : Int} {pairs : Array (Int × Int)} {len pc0 pc' : Nat} (hpc : g.pc = pc0) {o : Int} {i : Int32} {rest : List Value} (hd : decode c.code g.pc = .ok (.lookupswitch dflt pairs, len)) (hs : g.stack = .int i :: rest)
    (hord : ∀ (a b a_1 b_1 : Int), ((a, b), a_1, b_1) ∈ pairs.toList.zip pairs.toList.tail → a < a_1) (hf : (∃ kk, pairs.find? (·.1 == i.toInt) = some (kk, o)) ∨ (pairs.find? (·.1 == i.toInt) = none ∧ o = dflt)) (h0 : 0 ≤ (pc0 : Int) + o) (hp : ((pc0 : Int) + o).toNat = pc')
    (hr : Steps p.tables e below (T.setTop { g with pc := pc', stack := rest }) target) : Steps p.tables e below (T.setTop g) target := by
  subst hg hpc hp
  rcases hf with ⟨kk, hf⟩ | ⟨hf, rfl⟩
  · jvm_step X.here [X.here.top, hx, hd, hs, hf, h0, lookupswitch.wp_whole]
    exact ⟨hord, hr⟩
  · jvm_step X.here [X.here.top, hx, hd, hs, hf, h0, lookupswitch.wp_whole]
    exact ⟨hord, hr⟩
theorem ieq {x k : Int32} {n K : Nat} (hx : x.toInt = (n : Int)) (hk : k.toInt = (K : Int)) : x = k ↔ n = K := by rw [← Int32.toInt_inj, hx, hk]; omega
theorem lenStart {args : Array Value} {t : Term} {a : Addr} {cl : Cell} {ty : FieldType} {z : Int32} (ht : t.eval args Z none [] Z = some (.ref a)) (A : Arr Z Z.heap a cl ty) (h : (Term.length t).eval args Z none [] Z = some (.int z)) : cl.slots.size < 2 ^ 31 ∧ cl.slots.size.toInt32 = z := by
  have ha := A.fin (U := Z) (Vm.Alike.refl _)
  by_cases q : cl.slots.size < 2 ^ 31
  · refine ⟨q, ?_⟩
    rw [len_f ht ha q] at h
    exact Value.int.inj (Option.some.inj h)
  · simp [Term.eval, ht, ha, q] at h
theorem subIdx {args : Array Value} {j : Int32} (hj : ¬ j < 0) (k : Int32) : (Term.sub (.index 0) (.int k)).eval args Z none [j.toNatClampNeg] Z = some (.int (j - k)) := Term.sub_int (idx_at hj) (Term.int_eval _)
theorem bi_iff {P Q : Prop} [Decidable P] [Decidable Q] (h : P ↔ Q) : bi P = bi Q := by unfold bi; simp only [h]
theorem cacheIdx {x : Int32} {n : Nat} (h1 : ¬ x < (-128 : Int32)) (h2 : ¬ (127 : Int32) < x) (hn : n = (256 : Int32).toNatClampNeg) : ¬ (x + (128 : Int32) < 0 ∨ n ≤ (x + (128 : Int32)).toNatClampNeg) := by
  rw [Int32.lt_iff_toInt_lt] at h1 h2
  have a1 : ¬ x.toInt < -128 := h1
  have a2 : ¬ (127 : Int) < x.toInt := h2
  have q0 : (128 : Int32).toInt = 128 := rfl
  have q := c_iadd x 128
  have r := rng32 (x + 128)
  rw [q0] at q
  have e1 : (x + (128 : Int32)).toInt = x.toInt + 128 := by omega
  have e2 : ¬ x + (128 : Int32) < 0 := by rw [Int32.lt_iff_toInt_lt]; show ¬ _ < (0 : Int); omega
  have e3 := nat_of e2
  have e4 : n = 256 := hn
  rintro (h | h)
  · exact e2 h
  · omega
theorem nsRoot {a0 : Array Value} {O K : String} {n : Nat} (w : (Cond.noSuperclass O).before a0 Z = true) (wk : (Cond.instantiable K n).before a0 Z = true) (hn : O ≠ K) : NS Z O K := by
  obtain ⟨c, k, h1, h2, h3, -, -⟩ := Cond.noSuperclass_spec w
  obtain ⟨t, kt, g1, -⟩ := Cond.instantiable_spec wk
  have ne := ids_ne h1 g1 hn
  refine ⟨c, t, h1, g1, fun fuel => ?_⟩
  cases fuel with
  | zero => rfl
  | succ f => simp [Vm.isSubclassAux, ne, h2, h3]
theorem nsNo {a0 : Array Value} {C S K : String} {n : Nat} (w : (Cond.superclass C S).before a0 Z = true) (wk : (Cond.instantiable K n).before a0 Z = true) (q : NS Z C K) (hn : C ≠ K) : ∃ c t, Z.vm.findClass C = some c ∧ Z.vm.findClass K = some t ∧ Z.vm.assignable c t = false := by
  obtain ⟨c, t, h0, g0, n3⟩ := q
  obtain ⟨p, k, kp, h1, h2, h3, h4, h5, -, h7⟩ := Cond.superclass_spec h0 w
  obtain ⟨t', k', g1, g2, g5, g7, -⟩ := Cond.instantiable_spec wk
  cases g0.symm.trans g1
  have g8 := (Bool.or_eq_false_iff.mp g7).1
  have ne := ids_ne h0 g0 hn
  refine ⟨c, t, h0, g0, ?_⟩
  show Z.vm.assignableAux (255 + 1) c t = false
  simp [Vm.assignableAux, ne, h2, g2, h5, g5, g8, Vm.isSubclass, n3]
theorem ne_key {x k : Int32} {K : Int} (h : ¬ x = k) (hk : k.toInt = K) : K ≠ x.toInt := fun q => h (Int32.toInt_inj.mp (by rw [hk]; exact q.symm))
end Own
end Jvm.OwnGo

namespace Jvm.Pilot.@@N@@
open Jvm Jvm.ClassFile Sem Op Lib Jvm.Free Jvm.Stand Jvm.LawKit Jvm.RoadKit Jvm.OwnGo Bundle Jvm.Pilot.@@N@@.Jvm.D
theorem own_m3 (x : Int32) : x &&& (3 : Int32) = (0 : Int32) ∨ x &&& (3 : Int32) = (1 : Int32) ∨ x &&& (3 : Int32) = (2 : Int32) ∨ x &&& (3 : Int32) = (3 : Int32) := by
  have h := c_mask x 3 2 (by decide) (by decide)
  have h4 : (x &&& (3 : Int32)).toInt = 0 ∨ (x &&& (3 : Int32)).toInt = 1 ∨ (x &&& (3 : Int32)).toInt = 2 ∨ (x &&& (3 : Int32)).toInt = 3 := by omega
  rcases h4 with q | q | q | q
  · exact Or.inl (Int32.toInt_inj.mp q)
  · exact Or.inr (Or.inl (Int32.toInt_inj.mp q))
  · exact Or.inr (Or.inr (Or.inl (Int32.toInt_inj.mp q)))
  · exact Or.inr (Or.inr (Or.inr (Int32.toInt_inj.mp q)))
theorem d4_0 : decode method_4_code 0 = .ok (.iload_n 1, 1) := by decide +kernel
theorem d4_1 : decode method_4_code 1 = .ok (.aload_n 0, 1) := by decide +kernel
theorem d4_2 : decode method_4_code 2 = .ok (.arraylength, 1) := by decide +kernel
theorem d4_3 : decode method_4_code 3 = .ok (.if_icmp .ge 9, 3) := by decide +kernel
theorem d4_6 : decode method_4_code 6 = .ok (.aload_n 0, 1) := by decide +kernel
theorem d4_7 : decode method_4_code 7 = .ok (.iload_n 1, 1) := by decide +kernel
theorem d4_8 : decode method_4_code 8 = .ok (.iaload, 1) := by decide +kernel
theorem d4_9 : decode method_4_code 9 = .ok (.ifCond .ne 7, 3) := by decide +kernel
theorem d4_12 : decode method_4_code 12 = .ok (.iconst 1, 1) := by decide +kernel
theorem d4_13 : decode method_4_code 13 = .ok (.goto 4, 3) := by decide +kernel
theorem d4_17 : decode method_4_code 17 = .ok (.ireturn, 1) := by decide +kernel
theorem pn_0 : plainName "com/example/thingstead/thingstead/mimir/GridsZerosPinLaw" = true := by first | (simp [plainName, overriddenIn]; done) | decide +kernel
theorem ef_zeroAt (m : MethodId) (b : Addr) (j : Int32) : entryFrame m #[(.ref b), (.int j)] 2 = mkF m 0 #[.val (.ref b), .val (.int j)] [] := by first | (simp [entryFrame, mkF, argsToLocals, Value.category]; done) | rfl
abbrev R_zeroAt : Room := { frames := 0, cells := 0, slots := 0, locals := 0 }
def Q_zeroAt (Z : State) (b : Addr) (k : ClassId) (cc : Int32) (j : Int32) (h0 : Heap) (n0 : Nat) (v : Option Value) (h : Heap) (L : List Loc) : Prop := v = some (.int 1) ∧ Fr n0 L ∧ h = h0
set_option maxRecDepth 65536 in
set_option maxHeartbeats 40000000 in
theorem rm_zeroAt (l : Launch) (Z : State) (a0 : Array Value) (hw : ∀ d ∈ tables_1, d.before a0 Z = true) (ws : List Jvm.Cond) (b : Addr) (k : ClassId) (cc : Int32) (j : Int32) (h0 : Heap) (n0 : Nat) (O0 : Old Z n0 h0) (V_b : Arv Z h0 b k .int cc [] (.int (0 : Int32))) (hj : ¬ j < 0) :
    MetFree l (⟨"com/example/thingstead/thingstead/mimir/GridsZerosPinLaw", "zeroAt", "([II)Z"⟩ : MethodName) (head1 (Jvm.Cond.code (⟨"com/example/thingstead/thingstead/mimir/GridsZerosPinLaw", "zeroAt", "([II)Z"⟩ : MethodName) method_4_code 2 (some .boolean) :: ws) R_zeroAt) (fun as_ U => as_ = #[(.ref b), (.int j)] ∧ Z.Warmed39 U.vm ∧ U.heap = h0) (fun _ _ _ _ _ => True) (fun _ U o U' => ∃ v L, o = .returned v ∧ Q_zeroAt Z b k cc j h0 n0 v U'.heap L ∧ FrameEnd U o U' L R_zeroAt.cells R_zeroAt.slots) := by
  refine MetFree.of_bodySF (plainFor_of_name pn_0) hisR ?_
  intro p e s m args below meth c s₁ Bd hml0 hP hK
  obtain ⟨rfl, hZ, hh⟩ := hP
  have hx := Bd.exec
  have hby := Bd.bytes
  have hml : c.maxLocals = 2 := hml0
  have hown : s.vm.findClass "com/example/thingstead/thingstead/mimir/GridsZerosPinLaw" = some m.cls := findClass_of_methodNamed Bd.named
  have hnm := (name_of_methodNamed Bd.named Bd.method).1
  have hlk : meth.locks = false := BodyLoose.notSynchronized Bd
  have X0 : Stand p l e R_zeroAt s m #[(.ref b), (.int j)] below meth c s₁ [] 0 0 := Stand.of_body Bd
  have e0 : s₁.heap = h0 := by rw [← hh, Bd.state]; rfl
  have N0 := Fr.nil n0
  refine enter (P := PQ s R_zeroAt.cells R_zeroAt.slots (Q_zeroAt Z b k cc j h0 n0)) (ef_zeroAt m b j) ?_
  refine goS (n := 1) (Ls' := #[.val (.ref b), .val (.int j)]) (st' := [(.int j)]) (fun _ kz => XS.iloadN X0.here hx rfl (hb hby d4_0) rfl kz) ?_
  refine goS (n := 2) (Ls' := #[.val (.ref b), .val (.int j)]) (st' := [(.ref b), (.int j)]) (fun _ kz => XS.aloadN X0.here hx rfl (hb hby d4_1) rfl rfl kz) ?_
  have vv1 := V_b
  obtain ⟨cl1, Ar1, -, S1, Nn1, -, -⟩ := vv1
  refine goS (n := 3) (Ls' := #[.val (.ref b), .val (.int j)]) (st' := [(.int cc), (.int j)]) (fun tz kz => X0.arraylength hx (by rw [e0]; exact Ar1.1) (State.isArrayOf_alike hZ.alike Ar1.2.1) (g := (mkF m 2 #[.val (.ref b), .val (.int j)] [(.ref b), (.int j)])) rfl rfl (hb hby d4_2) tz (by rw [len_of S1 Nn1]; exact kz)) ?_
  by_cases hc2 : j < cc
  · refine goS (n := 6) (Ls' := #[.val (.ref b), .val (.int j)]) (st' := []) (fun _ kz => XS.icmpNo X0.here hx rfl (hb hby d4_3) rfl (tlt hc2).2.1 kz) ?_
    refine goS (n := 7) (Ls' := #[.val (.ref b), .val (.int j)]) (st' := [(.ref b)]) (fun _ kz => XS.aloadN X0.here hx rfl (hb hby d4_6) rfl rfl kz) ?_
    refine goS (n := 8) (Ls' := #[.val (.ref b), .val (.int j)]) (st' := [(.int j), (.ref b)]) (fun _ kz => XS.iloadN X0.here hx rfl (hb hby d4_7) rfl kz) ?_
    have vv3 := V_b
    obtain ⟨cl3, Ar3, q3, S3, Nn3, H3, G3⟩ := vv3
    have hin3 : ¬ (j < 0 ∨ cl3.slots.size ≤ (j).toNatClampNeg) := inb_of S3 ⟨hj, hc2⟩
    have hat3 : cl3.slots[(j).toNatClampNeg]? = some (.int (0 : Int32)) := Has.at H3 hin3 rfl
    refine goS (n := 9) (Ls' := #[.val (.ref b), .val (.int j)]) (st' := [(.int (0 : Int32))]) (fun tz kz => X0.iaload hx (j := j) (v := (.int (0 : Int32))) (by rw [e0]; exact Ar3.1) (State.isArrayOf_alike hZ.alike Ar3.2.1) Ar3.2.2 hin3 hat3 (g := (mkF m 8 #[.val (.ref b), .val (.int j)] [(.int j), (.ref b)])) rfl rfl (hb hby d4_8) tz kz) ?_
    refine goS (n := 12) (Ls' := #[.val (.ref b), .val (.int j)]) (st' := []) (fun _ kz => XS.ifNo X0.here hx rfl (hb hby d4_9) rfl (by decide) kz) ?_
    refine goS (n := 13) (Ls' := #[.val (.ref b), .val (.int j)]) (st' := [(.int (1 : Int32))]) (fun _ kz => XS.iconst X0.here hx rfl (hb hby d4_12) kz) ?_
    refine goS (n := 17) (Ls' := #[.val (.ref b), .val (.int j)]) (st' := [(.int (1 : Int32))]) (fun _ kz => XS.goto X0.here hx rfl (pc0 := 13) (pc' := 17) rfl (hb hby d4_13) (by decide) (by decide) kz) ?_
    exact goRetZ X0 hx hlk Bd.returns (Or.inr rfl) (hb hby d4_17) (by decide) (by decide) (by rw [e0]; exact ⟨rfl, N0, rfl⟩)
  · refine goS (n := 12) (Ls' := #[.val (.ref b), .val (.int j)]) (st' := []) (fun _ kz => XS.icmpYes X0.here hx rfl (pc0 := 3) (pc' := 12) rfl (hb hby d4_3) rfl (flt hc2).2.1 (by decide) (by decide) kz) ?_
    refine goS (n := 13) (Ls' := #[.val (.ref b), .val (.int j)]) (st' := [(.int (1 : Int32))]) (fun _ kz => XS.iconst X0.here hx rfl (hb hby d4_12) kz) ?_
    refine goS (n := 17) (Ls' := #[.val (.ref b), .val (.int j)]) (st' := [(.int (1 : Int32))]) (fun _ kz => XS.goto X0.here hx rfl (pc0 := 13) (pc' := 17) rfl (hb hby d4_13) (by decide) (by decide) kz) ?_
    exact goRetZ X0 hx hlk Bd.returns (Or.inr rfl) (hb hby d4_17) (by decide) (by decide) (by rw [e0]; exact ⟨rfl, N0, rfl⟩)
theorem d2_0 : decode method_3_code 0 = .ok (.iload_n 1, 1) := by decide +kernel
theorem d2_1 : decode method_3_code 1 = .ok (.iload_n 2, 1) := by decide +kernel
theorem d2_2 : decode method_3_code 2 = .ok (.if_icmp .lt 5, 3) := by decide +kernel
theorem d2_7 : decode method_3_code 7 = .ok (.aload_n 0, 1) := by decide +kernel
theorem d2_8 : decode method_3_code 8 = .ok (.iload_n 1, 1) := by decide +kernel
theorem d2_9 : decode method_3_code 9 = .ok (.aaload, 1) := by decide +kernel
theorem d2_10 : decode method_3_code 10 = .ok (.astore 4, 2) := by decide +kernel
theorem d2_12 : decode method_3_code 12 = .ok (.aload 4, 2) := by decide +kernel
theorem d2_14 : decode method_3_code 14 = .ok (.ifnull 10, 3) := by decide +kernel
theorem d2_17 : decode method_3_code 17 = .ok (.aload 4, 2) := by decide +kernel
theorem d2_19 : decode method_3_code 19 = .ok (.arraylength, 1) := by decide +kernel
theorem d2_20 : decode method_3_code 20 = .ok (.iload_n 3, 1) := by decide +kernel
theorem d2_21 : decode method_3_code 21 = .ok (.if_icmp .eq 5, 3) := by decide +kernel
theorem d2_26 : decode method_3_code 26 = .ok (.aload 4, 2) := by decide +kernel
theorem d2_28 : decode method_3_code 28 = .ok (.iconst 0, 1) := by decide +kernel
theorem d2_29 : decode method_3_code 29 = .ok (.invokestatic 22, 3) := by decide +kernel
theorem pd_0 : parseMethodDescriptor "([II)Z" = some ⟨[(.array .int), .int], some .boolean⟩ := by decide +kernel
theorem d2_32 : decode method_3_code 32 = .ok (.ifCond .eq 25, 3) := by decide +kernel
theorem d2_35 : decode method_3_code 35 = .ok (.aload 4, 2) := by decide +kernel
theorem d2_37 : decode method_3_code 37 = .ok (.iconst 1, 1) := by decide +kernel
theorem d2_38 : decode method_3_code 38 = .ok (.invokestatic 22, 3) := by decide +kernel
theorem d2_41 : decode method_3_code 41 = .ok (.ifCond .eq 16, 3) := by decide +kernel
theorem d2_44 : decode method_3_code 44 = .ok (.aload 4, 2) := by decide +kernel
theorem d2_46 : decode method_3_code 46 = .ok (.iconst 2, 1) := by decide +kernel
theorem d2_47 : decode method_3_code 47 = .ok (.invokestatic 22, 3) := by decide +kernel
theorem d2_50 : decode method_3_code 50 = .ok (.ifCond .eq 7, 3) := by decide +kernel
theorem d2_53 : decode method_3_code 53 = .ok (.iconst 1, 1) := by decide +kernel
theorem d2_54 : decode method_3_code 54 = .ok (.goto 4, 3) := by decide +kernel
theorem d2_58 : decode method_3_code 58 = .ok (.ireturn, 1) := by decide +kernel
theorem ef_roT (m : MethodId) (g : Addr) (i : Int32) (r : Int32) (cc : Int32) : entryFrame m #[(.ref g), (.int i), (.int r), (.int cc)] 5 = mkF m 0 #[.val (.ref g), .val (.int i), .val (.int r), .val (.int cc), .unset] [] := by first | (simp [entryFrame, mkF, argsToLocals, Value.category]; done) | rfl
abbrev R_roT : Room := { frames := 1, cells := 0, slots := 0, locals := 13 }
def Q_roT (Z : State) (g : Addr) (kg : ClassId) (i : Int32) (r : Int32) (vs : List Value) (b : Addr) (kb : ClassId) (cc : Int32) (h0 : Heap) (n0 : Nat) (v : Option Value) (h : Heap) (L : List Loc) : Prop := v = some (.int 1) ∧ Fr n0 L ∧ h = h0
set_option maxRecDepth 65536 in
set_option maxHeartbeats 40000000 in
theorem rm_roT (l : Launch) (Z : State) (a0 : Array Value) (hw : ∀ d ∈ tables_1, d.before a0 Z = true) (ws : List Jvm.Cond) (g : Addr) (kg : ClassId) (i : Int32) (r : Int32) (vs : List Value) (b : Addr) (kb : ClassId) (cc : Int32) (h0 : Heap) (n0 : Nat) (O0 : Old Z n0 h0) (V_g : Arv Z h0 g kg (.array .int) r vs .null) (V_b : Arv Z h0 b kb .int cc [] (.int (0 : Int32))) (hi : ¬ i < 0) (hir : i < r) (hat : vs.getD i.toNatClampNeg .null = .ref b) :
    MetFree l (⟨"com/example/thingstead/thingstead/mimir/GridsZerosPinLaw", "rowOk", "([[IIII)Z"⟩ : MethodName) (head1 (Jvm.Cond.code (⟨"com/example/thingstead/thingstead/mimir/GridsZerosPinLaw", "rowOk", "([[IIII)Z"⟩ : MethodName) method_3_code 5 (some .boolean) :: ws) R_roT) (fun as_ U => as_ = #[(.ref g), (.int i), (.int r), (.int cc)] ∧ Z.Warmed39 U.vm ∧ U.heap = h0) (fun _ _ _ _ _ => True) (fun _ U o U' => ∃ v L, o = .returned v ∧ Q_roT Z g kg i r vs b kb cc h0 n0 v U'.heap L ∧ FrameEnd U o U' L R_roT.cells R_roT.slots) := by
  refine MetFree.of_bodySF (plainFor_of_name pn_0) hisR ?_
  intro p e s m args below meth c s₁ Bd hml0 hP hK
  obtain ⟨rfl, hZ, hh⟩ := hP
  have hx := Bd.exec
  have hby := Bd.bytes
  have hml : c.maxLocals = 5 := hml0
  have hown : s.vm.findClass "com/example/thingstead/thingstead/mimir/GridsZerosPinLaw" = some m.cls := findClass_of_methodNamed Bd.named
  have hnm := (name_of_methodNamed Bd.named Bd.method).1
  have hlk : meth.locks = false := BodyLoose.notSynchronized Bd
  have X0 : Stand p l e R_roT s m #[(.ref g), (.int i), (.int r), (.int cc)] below meth c s₁ [] 0 0 := Stand.of_body Bd
  have e0 : s₁.heap = h0 := by rw [← hh, Bd.state]; rfl
  have N0 := Fr.nil n0
  refine enter (P := PQ s R_roT.cells R_roT.slots (Q_roT Z g kg i r vs b kb cc h0 n0)) (ef_roT m g i r cc) ?_
  refine goS (n := 1) (Ls' := #[.val (.ref g), .val (.int i), .val (.int r), .val (.int cc), .unset]) (st' := [(.int i)]) (fun _ kz => XS.iloadN X0.here hx rfl (hb hby d2_0) rfl kz) ?_
  refine goS (n := 2) (Ls' := #[.val (.ref g), .val (.int i), .val (.int r), .val (.int cc), .unset]) (st' := [(.int r), (.int i)]) (fun _ kz => XS.iloadN X0.here hx rfl (hb hby d2_1) rfl kz) ?_
  refine goS (n := 7) (Ls' := #[.val (.ref g), .val (.int i), .val (.int r), .val (.int cc), .unset]) (st' := []) (fun _ kz => XS.icmpYes X0.here hx rfl (pc0 := 2) (pc' := 7) rfl (hb hby d2_2) rfl (tlt hir).1 (by decide) (by decide) kz) ?_
  refine goS (n := 8) (Ls' := #[.val (.ref g), .val (.int i), .val (.int r), .val (.int cc), .unset]) (st' := [(.ref g)]) (fun _ kz => XS.aloadN X0.here hx rfl (hb hby d2_7) rfl rfl kz) ?_
  refine goS (n := 9) (Ls' := #[.val (.ref g), .val (.int i), .val (.int r), .val (.int cc), .unset]) (st' := [(.int i), (.ref g)]) (fun _ kz => XS.iloadN X0.here hx rfl (hb hby d2_8) rfl kz) ?_
  have vv1 := V_g
  obtain ⟨cl1, Ar1, q1, S1, Nn1, H1, G1⟩ := vv1
  have hin1 : ¬ (i < 0 ∨ cl1.slots.size ≤ (i).toNatClampNeg) := inb_of S1 ⟨hi, hir⟩
  have hat1 : cl1.slots[(i).toNatClampNeg]? = some (.ref b) := Has.at H1 hin1 hat
  refine goS (n := 10) (Ls' := #[.val (.ref g), .val (.int i), .val (.int r), .val (.int cc), .unset]) (st' := [(.ref b)]) (fun tz kz => X0.aaload hx (j := i) (v := (.ref b)) (by rw [e0]; exact Ar1.1) (State.isArrayOf_alike hZ.alike Ar1.2.1) rfl Ar1.2.2 hin1 hat1 (g := (mkF m 9 #[.val (.ref g), .val (.int i), .val (.int r), .val (.int cc), .unset] [(.int i), (.ref g)])) rfl rfl (hb hby d2_9) tz kz) ?_
  refine goS (n := 12) (Ls' := #[.val (.ref g), .val (.int i), .val (.int r), .val (.int cc), .val (.ref b)]) (st' := []) (fun _ kz => XS.astore X0.here hx rfl (hb hby d2_10) rfl rfl (l' := #[.val (.ref g), .val (.int i), .val (.int r), .val (.int cc), .val (.ref b)]) rfl kz) ?_
  refine goS (n := 14) (Ls' := #[.val (.ref g), .val (.int i), .val (.int r), .val (.int cc), .val (.ref b)]) (st' := [(.ref b)]) (fun _ kz => XS.aload X0.here hx rfl (hb hby d2_12) rfl rfl kz) ?_
  refine goS (n := 17) (Ls' := #[.val (.ref g), .val (.int i), .val (.int r), .val (.int cc), .val (.ref b)]) (st' := []) (fun _ kz => XS.ifnullNo X0.here hx rfl (hb hby d2_14) rfl kz) ?_
  refine goS (n := 19) (Ls' := #[.val (.ref g), .val (.int i), .val (.int r), .val (.int cc), .val (.ref b)]) (st' := [(.ref b)]) (fun _ kz => XS.aload X0.here hx rfl (hb hby d2_17) rfl rfl kz) ?_
  have vv2 := V_b
  obtain ⟨cl2, Ar2, -, S2, Nn2, -, -⟩ := vv2
  refine goS (n := 20) (Ls' := #[.val (.ref g), .val (.int i), .val (.int r), .val (.int cc), .val (.ref b)]) (st' := [(.int cc)]) (fun tz kz => X0.arraylength hx (by rw [e0]; exact Ar2.1) (State.isArrayOf_alike hZ.alike Ar2.2.1) (g := (mkF m 19 #[.val (.ref g), .val (.int i), .val (.int r), .val (.int cc), .val (.ref b)] [(.ref b)])) rfl rfl (hb hby d2_19) tz (by rw [len_of S2 Nn2]; exact kz)) ?_
  refine goS (n := 21) (Ls' := #[.val (.ref g), .val (.int i), .val (.int r), .val (.int cc), .val (.ref b)]) (st' := [(.int cc), (.int cc)]) (fun _ kz => XS.iloadN X0.here hx rfl (hb hby d2_20) rfl kz) ?_
  refine goS (n := 26) (Ls' := #[.val (.ref g), .val (.int i), .val (.int r), .val (.int cc), .val (.ref b)]) (st' := []) (fun _ kz => XS.icmpYes X0.here hx rfl (pc0 := 21) (pc' := 26) rfl (hb hby d2_21) rfl (teq rfl).1 (by decide) (by decide) kz) ?_
  refine goS (n := 28) (Ls' := #[.val (.ref g), .val (.int i), .val (.int r), .val (.int cc), .val (.ref b)]) (st' := [(.ref b)]) (fun _ kz => XS.aload X0.here hx rfl (hb hby d2_26) rfl rfl kz) ?_
  refine goS (n := 29) (Ls' := #[.val (.ref g), .val (.int i), .val (.int r), .val (.int cc), .val (.ref b)]) (st' := [(.int (0 : Int32)), (.ref b)]) (fun _ kz => XS.iconst X0.here hx rfl (hb hby d2_28) kz) ?_
  obtain ⟨_, _, ⟨T3, L3, k3, n3⟩, -, X3, ⟨Lc3, hQ3, l3, y3, z3⟩, st3⟩ := Jvm.LawKit.callS X0 hx (y := (⟨"com/example/thingstead/thingstead/mimir/GridsZerosPinLaw", "zeroAt", "([II)Z"⟩ : MethodName)) hown (mvT hZ (hw _ (List.mem_of_getElem? (i := 15) rfl))) (mvT hZ (hw _ (List.mem_of_getElem? (i := 16) rfl))) (mvT hZ (hw _ (List.mem_of_getElem? (i := 8) rfl))) (mvT hZ (hw _ (List.mem_of_getElem? (i := 17) rfl))) (by decide) (backOf (W := 0) (rm_zeroAt l Z a0 hw [] b kb cc (0 : Int32) h0 n0 O0 V_b (by decide)) hZ (hw _ (List.mem_of_getElem? (i := 17) rfl)) (hw _ (List.mem_of_getElem? (i := 8) rfl)) (by decide) (by decide)) (g := (mkF m 29 #[.val (.ref g), .val (.int i), .val (.int r), .val (.int cc), .val (.ref b)] [(.int (0 : Int32)), (.ref b)])) rfl (by rw [hml]; rfl) (argsL := [(.ref b), (.int (0 : Int32))]) (rest := []) (lenOf pd_0 rfl) rfl (by show 2 * 0 + _ ≤ _; exact Nat.le_of_eq rfl) (hb hby d2_29) (fun _ _ => ⟨rfl, e0, (Nat.le_of_ble_eq_true rfl), (Nat.le_of_ble_eq_true rfl)⟩)
  dsimp only [Pt.U, Pt.locs, Pt.cells, Pt.slots] at X3 l3 y3 z3 st3 hQ3
  subst l3 y3 z3
  obtain ⟨rfl, N3q, e3⟩ := hQ3
  have N3 := Fr.app N0 N3q
  refine goS (n := 32) (Ls' := #[.val (.ref g), .val (.int i), .val (.int r), .val (.int cc), .val (.ref b)]) (st' := [(.int (1 : Int32))]) st3 ?_
  refine goS (n := 35) (Ls' := #[.val (.ref g), .val (.int i), .val (.int r), .val (.int cc), .val (.ref b)]) (st' := []) (fun _ kz => XS.ifNo X3.here hx rfl (hb hby d2_32) rfl (by decide) kz) ?_
  refine goS (n := 37) (Ls' := #[.val (.ref g), .val (.int i), .val (.int r), .val (.int cc), .val (.ref b)]) (st' := [(.ref b)]) (fun _ kz => XS.aload X3.here hx rfl (hb hby d2_35) rfl rfl kz) ?_
  refine goS (n := 38) (Ls' := #[.val (.ref g), .val (.int i), .val (.int r), .val (.int cc), .val (.ref b)]) (st' := [(.int (1 : Int32)), (.ref b)]) (fun _ kz => XS.iconst X3.here hx rfl (hb hby d2_37) kz) ?_
  obtain ⟨_, _, ⟨T4, L4, k4, n4⟩, -, X4, ⟨Lc4, hQ4, l4, y4, z4⟩, st4⟩ := Jvm.LawKit.callS X3 hx (y := (⟨"com/example/thingstead/thingstead/mimir/GridsZerosPinLaw", "zeroAt", "([II)Z"⟩ : MethodName)) hown (mvT hZ (hw _ (List.mem_of_getElem? (i := 15) rfl))) (mvT hZ (hw _ (List.mem_of_getElem? (i := 16) rfl))) (mvT hZ (hw _ (List.mem_of_getElem? (i := 8) rfl))) (mvT hZ (hw _ (List.mem_of_getElem? (i := 17) rfl))) (by decide) (backOf (W := 0) (rm_zeroAt l Z a0 hw [] b kb cc (1 : Int32) h0 n0 O0 V_b (by decide)) hZ (hw _ (List.mem_of_getElem? (i := 17) rfl)) (hw _ (List.mem_of_getElem? (i := 8) rfl)) (by decide) (by decide)) (g := (mkF m 38 #[.val (.ref g), .val (.int i), .val (.int r), .val (.int cc), .val (.ref b)] [(.int (1 : Int32)), (.ref b)])) rfl (by rw [hml]; rfl) (argsL := [(.ref b), (.int (1 : Int32))]) (rest := []) (lenOf pd_0 rfl) rfl (by show 2 * 0 + _ ≤ _; exact Nat.le_of_eq rfl) (hb hby d2_38) (fun _ _ => ⟨rfl, e3, (Nat.le_of_ble_eq_true rfl), (Nat.le_of_ble_eq_true rfl)⟩)
  dsimp only [Pt.U, Pt.locs, Pt.cells, Pt.slots] at X4 l4 y4 z4 st4 hQ4
  subst l4 y4 z4
  obtain ⟨rfl, N4q, e4⟩ := hQ4
  have N4 := Fr.app N3 N4q
  refine goS (n := 41) (Ls' := #[.val (.ref g), .val (.int i), .val (.int r), .val (.int cc), .val (.ref b)]) (st' := [(.int (1 : Int32))]) st4 ?_
  refine goS (n := 44) (Ls' := #[.val (.ref g), .val (.int i), .val (.int r), .val (.int cc), .val (.ref b)]) (st' := []) (fun _ kz => XS.ifNo X4.here hx rfl (hb hby d2_41) rfl (by decide) kz) ?_
  refine goS (n := 46) (Ls' := #[.val (.ref g), .val (.int i), .val (.int r), .val (.int cc), .val (.ref b)]) (st' := [(.ref b)]) (fun _ kz => XS.aload X4.here hx rfl (hb hby d2_44) rfl rfl kz) ?_
  refine goS (n := 47) (Ls' := #[.val (.ref g), .val (.int i), .val (.int r), .val (.int cc), .val (.ref b)]) (st' := [(.int (2 : Int32)), (.ref b)]) (fun _ kz => XS.iconst X4.here hx rfl (hb hby d2_46) kz) ?_
  obtain ⟨_, _, ⟨T5, L5, k5, n5⟩, -, X5, ⟨Lc5, hQ5, l5, y5, z5⟩, st5⟩ := Jvm.LawKit.callS X4 hx (y := (⟨"com/example/thingstead/thingstead/mimir/GridsZerosPinLaw", "zeroAt", "([II)Z"⟩ : MethodName)) hown (mvT hZ (hw _ (List.mem_of_getElem? (i := 15) rfl))) (mvT hZ (hw _ (List.mem_of_getElem? (i := 16) rfl))) (mvT hZ (hw _ (List.mem_of_getElem? (i := 8) rfl))) (mvT hZ (hw _ (List.mem_of_getElem? (i := 17) rfl))) (by decide) (backOf (W := 0) (rm_zeroAt l Z a0 hw [] b kb cc (2 : Int32) h0 n0 O0 V_b (by decide)) hZ (hw _ (List.mem_of_getElem? (i := 17) rfl)) (hw _ (List.mem_of_getElem? (i := 8) rfl)) (by decide) (by decide)) (g := (mkF m 47 #[.val (.ref g), .val (.int i), .val (.int r), .val (.int cc), .val (.ref b)] [(.int (2 : Int32)), (.ref b)])) rfl (by rw [hml]; rfl) (argsL := [(.ref b), (.int (2 : Int32))]) (rest := []) (lenOf pd_0 rfl) rfl (by show 2 * 0 + _ ≤ _; exact Nat.le_of_eq rfl) (hb hby d2_47) (fun _ _ => ⟨rfl, e4, (Nat.le_of_ble_eq_true rfl), (Nat.le_of_ble_eq_true rfl)⟩)
  dsimp only [Pt.U, Pt.locs, Pt.cells, Pt.slots] at X5 l5 y5 z5 st5 hQ5
  subst l5 y5 z5
  obtain ⟨rfl, N5q, e5⟩ := hQ5
  have N5 := Fr.app N4 N5q
  refine goS (n := 50) (Ls' := #[.val (.ref g), .val (.int i), .val (.int r), .val (.int cc), .val (.ref b)]) (st' := [(.int (1 : Int32))]) st5 ?_
  refine goS (n := 53) (Ls' := #[.val (.ref g), .val (.int i), .val (.int r), .val (.int cc), .val (.ref b)]) (st' := []) (fun _ kz => XS.ifNo X5.here hx rfl (hb hby d2_50) rfl (by decide) kz) ?_
  refine goS (n := 54) (Ls' := #[.val (.ref g), .val (.int i), .val (.int r), .val (.int cc), .val (.ref b)]) (st' := [(.int (1 : Int32))]) (fun _ kz => XS.iconst X5.here hx rfl (hb hby d2_53) kz) ?_
  refine goS (n := 58) (Ls' := #[.val (.ref g), .val (.int i), .val (.int r), .val (.int cc), .val (.ref b)]) (st' := [(.int (1 : Int32))]) (fun _ kz => XS.goto X5.here hx rfl (pc0 := 54) (pc' := 58) rfl (hb hby d2_54) (by decide) (by decide) kz) ?_
  exact goRetZ X5 hx hlk Bd.returns (Or.inr rfl) (hb hby d2_58) (by decide) (by decide) (by rw [e5]; exact ⟨rfl, N5, rfl⟩)
theorem d2_5 : decode method_3_code 5 = .ok (.iconst 1, 1) := by decide +kernel
theorem d2_6 : decode method_3_code 6 = .ok (.ireturn, 1) := by decide +kernel
theorem ef_roF (m : MethodId) (g : Addr) (i : Int32) (r : Int32) (cc : Int32) : entryFrame m #[(.ref g), (.int i), (.int r), (.int cc)] 5 = mkF m 0 #[.val (.ref g), .val (.int i), .val (.int r), .val (.int cc), .unset] [] := by first | (simp [entryFrame, mkF, argsToLocals, Value.category]; done) | rfl
abbrev R_roF : Room := { frames := 0, cells := 0, slots := 0, locals := 0 }
def Q_roF (Z : State) (g : Addr) (i : Int32) (r : Int32) (cc : Int32) (h0 : Heap) (n0 : Nat) (v : Option Value) (h : Heap) (L : List Loc) : Prop := v = some (.int 1) ∧ Fr n0 L ∧ h = h0
set_option maxRecDepth 65536 in
set_option maxHeartbeats 40000000 in
theorem rm_roF (l : Launch) (Z : State) (a0 : Array Value) (hw : ∀ d ∈ tables_1, d.before a0 Z = true) (ws : List Jvm.Cond) (g : Addr) (i : Int32) (r : Int32) (cc : Int32) (h0 : Heap) (n0 : Nat) (O0 : Old Z n0 h0) (hir : ¬ i < r) :
    MetFree l (⟨"com/example/thingstead/thingstead/mimir/GridsZerosPinLaw", "rowOk", "([[IIII)Z"⟩ : MethodName) (head1 (Jvm.Cond.code (⟨"com/example/thingstead/thingstead/mimir/GridsZerosPinLaw", "rowOk", "([[IIII)Z"⟩ : MethodName) method_3_code 5 (some .boolean) :: ws) R_roF) (fun as_ U => as_ = #[(.ref g), (.int i), (.int r), (.int cc)] ∧ Z.Warmed39 U.vm ∧ U.heap = h0) (fun _ _ _ _ _ => True) (fun _ U o U' => ∃ v L, o = .returned v ∧ Q_roF Z g i r cc h0 n0 v U'.heap L ∧ FrameEnd U o U' L R_roF.cells R_roF.slots) := by
  refine MetFree.of_bodySF (plainFor_of_name pn_0) hisR ?_
  intro p e s m args below meth c s₁ Bd hml0 hP hK
  obtain ⟨rfl, hZ, hh⟩ := hP
  have hx := Bd.exec
  have hby := Bd.bytes
  have hml : c.maxLocals = 5 := hml0
  have hown : s.vm.findClass "com/example/thingstead/thingstead/mimir/GridsZerosPinLaw" = some m.cls := findClass_of_methodNamed Bd.named
  have hnm := (name_of_methodNamed Bd.named Bd.method).1
  have hlk : meth.locks = false := BodyLoose.notSynchronized Bd
  have X0 : Stand p l e R_roF s m #[(.ref g), (.int i), (.int r), (.int cc)] below meth c s₁ [] 0 0 := Stand.of_body Bd
  have e0 : s₁.heap = h0 := by rw [← hh, Bd.state]; rfl
  have N0 := Fr.nil n0
  refine enter (P := PQ s R_roF.cells R_roF.slots (Q_roF Z g i r cc h0 n0)) (ef_roF m g i r cc) ?_
  refine goS (n := 1) (Ls' := #[.val (.ref g), .val (.int i), .val (.int r), .val (.int cc), .unset]) (st' := [(.int i)]) (fun _ kz => XS.iloadN X0.here hx rfl (hb hby d2_0) rfl kz) ?_
  refine goS (n := 2) (Ls' := #[.val (.ref g), .val (.int i), .val (.int r), .val (.int cc), .unset]) (st' := [(.int r), (.int i)]) (fun _ kz => XS.iloadN X0.here hx rfl (hb hby d2_1) rfl kz) ?_
  refine goS (n := 5) (Ls' := #[.val (.ref g), .val (.int i), .val (.int r), .val (.int cc), .unset]) (st' := []) (fun _ kz => XS.icmpNo X0.here hx rfl (hb hby d2_2) rfl (flt hir).1 kz) ?_
  refine goS (n := 6) (Ls' := #[.val (.ref g), .val (.int i), .val (.int r), .val (.int cc), .unset]) (st' := [(.int (1 : Int32))]) (fun _ kz => XS.iconst X0.here hx rfl (hb hby d2_5) kz) ?_
  exact goRetZ X0 hx hlk Bd.returns (Or.inr rfl) (hb hby d2_6) (by decide) (by decide) (by rw [e0]; exact ⟨rfl, N0, rfl⟩)
theorem d3_0 : decode method_5_code 0 = .ok (.iload_n 2, 1) := by decide +kernel
theorem d3_1 : decode method_5_code 1 = .ok (.iload_n 3, 1) := by decide +kernel
theorem d3_2 : decode method_5_code 2 = .ok (.if_icmp .ge 12, 3) := by decide +kernel
theorem d3_5 : decode method_5_code 5 = .ok (.aload_n 0, 1) := by decide +kernel
theorem d3_6 : decode method_5_code 6 = .ok (.iload_n 1, 1) := by decide +kernel
theorem d3_7 : decode method_5_code 7 = .ok (.aaload, 1) := by decide +kernel
theorem d3_8 : decode method_5_code 8 = .ok (.aload_n 0, 1) := by decide +kernel
theorem d3_9 : decode method_5_code 9 = .ok (.iload_n 2, 1) := by decide +kernel
theorem d3_10 : decode method_5_code 10 = .ok (.aaload, 1) := by decide +kernel
theorem d3_11 : decode method_5_code 11 = .ok (.if_acmp .eq 7, 3) := by decide +kernel
theorem d3_14 : decode method_5_code 14 = .ok (.iconst 1, 1) := by decide +kernel
theorem d3_15 : decode method_5_code 15 = .ok (.goto 4, 3) := by decide +kernel
theorem d3_19 : decode method_5_code 19 = .ok (.ireturn, 1) := by decide +kernel
theorem ef_diT (m : MethodId) (g : Addr) (i : Int32) (j : Int32) (r : Int32) : entryFrame m #[(.ref g), (.int i), (.int j), (.int r)] 4 = mkF m 0 #[.val (.ref g), .val (.int i), .val (.int j), .val (.int r)] [] := by first | (simp [entryFrame, mkF, argsToLocals, Value.category]; done) | rfl
abbrev R_diT : Room := { frames := 0, cells := 0, slots := 0, locals := 0 }
def Q_diT (Z : State) (g : Addr) (kg : ClassId) (i : Int32) (j : Int32) (r : Int32) (vs : List Value) (b : Addr) (d : Addr) (h0 : Heap) (n0 : Nat) (v : Option Value) (h : Heap) (L : List Loc) : Prop := v = some (.int 1) ∧ Fr n0 L ∧ h = h0
set_option maxRecDepth 65536 in
set_option maxHeartbeats 40000000 in
theorem rm_diT (l : Launch) (Z : State) (a0 : Array Value) (hw : ∀ d ∈ tables_1, d.before a0 Z = true) (ws : List Jvm.Cond) (g : Addr) (kg : ClassId) (i : Int32) (j : Int32) (r : Int32) (vs : List Value) (b : Addr) (d : Addr) (h0 : Heap) (n0 : Nat) (O0 : Old Z n0 h0) (V_g : Arv Z h0 g kg (.array .int) r vs .null) (hi : ¬ i < 0) (hj : ¬ j < 0) (hir : i < r) (hjr : j < r) (hat : vs.getD i.toNatClampNeg .null = .ref b) (hat' : vs.getD j.toNatClampNeg .null = .ref d) (hbd : b ≠ d) :
    MetFree l (⟨"com/example/thingstead/thingstead/mimir/GridsZerosPinLaw", "distinct", "([[IIII)Z"⟩ : MethodName) (head1 (Jvm.Cond.code (⟨"com/example/thingstead/thingstead/mimir/GridsZerosPinLaw", "distinct", "([[IIII)Z"⟩ : MethodName) method_5_code 4 (some .boolean) :: ws) R_diT) (fun as_ U => as_ = #[(.ref g), (.int i), (.int j), (.int r)] ∧ Z.Warmed39 U.vm ∧ U.heap = h0) (fun _ _ _ _ _ => True) (fun _ U o U' => ∃ v L, o = .returned v ∧ Q_diT Z g kg i j r vs b d h0 n0 v U'.heap L ∧ FrameEnd U o U' L R_diT.cells R_diT.slots) := by
  refine MetFree.of_bodySF (plainFor_of_name pn_0) hisR ?_
  intro p e s m args below meth c s₁ Bd hml0 hP hK
  obtain ⟨rfl, hZ, hh⟩ := hP
  have hx := Bd.exec
  have hby := Bd.bytes
  have hml : c.maxLocals = 4 := hml0
  have hown : s.vm.findClass "com/example/thingstead/thingstead/mimir/GridsZerosPinLaw" = some m.cls := findClass_of_methodNamed Bd.named
  have hnm := (name_of_methodNamed Bd.named Bd.method).1
  have hlk : meth.locks = false := BodyLoose.notSynchronized Bd
  have X0 : Stand p l e R_diT s m #[(.ref g), (.int i), (.int j), (.int r)] below meth c s₁ [] 0 0 := Stand.of_body Bd
  have e0 : s₁.heap = h0 := by rw [← hh, Bd.state]; rfl
  have N0 := Fr.nil n0
  refine enter (P := PQ s R_diT.cells R_diT.slots (Q_diT Z g kg i j r vs b d h0 n0)) (ef_diT m g i j r) ?_
  refine goS (n := 1) (Ls' := #[.val (.ref g), .val (.int i), .val (.int j), .val (.int r)]) (st' := [(.int j)]) (fun _ kz => XS.iloadN X0.here hx rfl (hb hby d3_0) rfl kz) ?_
  refine goS (n := 2) (Ls' := #[.val (.ref g), .val (.int i), .val (.int j), .val (.int r)]) (st' := [(.int r), (.int j)]) (fun _ kz => XS.iloadN X0.here hx rfl (hb hby d3_1) rfl kz) ?_
  refine goS (n := 5) (Ls' := #[.val (.ref g), .val (.int i), .val (.int j), .val (.int r)]) (st' := []) (fun _ kz => XS.icmpNo X0.here hx rfl (hb hby d3_2) rfl (tlt hjr).2.1 kz) ?_
  refine goS (n := 6) (Ls' := #[.val (.ref g), .val (.int i), .val (.int j), .val (.int r)]) (st' := [(.ref g)]) (fun _ kz => XS.aloadN X0.here hx rfl (hb hby d3_5) rfl rfl kz) ?_
  refine goS (n := 7) (Ls' := #[.val (.ref g), .val (.int i), .val (.int j), .val (.int r)]) (st' := [(.int i), (.ref g)]) (fun _ kz => XS.iloadN X0.here hx rfl (hb hby d3_6) rfl kz) ?_
  have vv1 := V_g
  obtain ⟨cl1, Ar1, q1, S1, Nn1, H1, G1⟩ := vv1
  have hin1 : ¬ (i < 0 ∨ cl1.slots.size ≤ (i).toNatClampNeg) := inb_of S1 ⟨hi, hir⟩
  have hat1 : cl1.slots[(i).toNatClampNeg]? = some (.ref b) := Has.at H1 hin1 hat
  refine goS (n := 8) (Ls' := #[.val (.ref g), .val (.int i), .val (.int j), .val (.int r)]) (st' := [(.ref b)]) (fun tz kz => X0.aaload hx (j := i) (v := (.ref b)) (by rw [e0]; exact Ar1.1) (State.isArrayOf_alike hZ.alike Ar1.2.1) rfl Ar1.2.2 hin1 hat1 (g := (mkF m 7 #[.val (.ref g), .val (.int i), .val (.int j), .val (.int r)] [(.int i), (.ref g)])) rfl rfl (hb hby d3_7) tz kz) ?_
  refine goS (n := 9) (Ls' := #[.val (.ref g), .val (.int i), .val (.int j), .val (.int r)]) (st' := [(.ref g), (.ref b)]) (fun _ kz => XS.aloadN X0.here hx rfl (hb hby d3_8) rfl rfl kz) ?_
  refine goS (n := 10) (Ls' := #[.val (.ref g), .val (.int i), .val (.int j), .val (.int r)]) (st' := [(.int j), (.ref g), (.ref b)]) (fun _ kz => XS.iloadN X0.here hx rfl (hb hby d3_9) rfl kz) ?_
  have vv2 := V_g
  obtain ⟨cl2, Ar2, q2, S2, Nn2, H2, G2⟩ := vv2
  have hin2 : ¬ (j < 0 ∨ cl2.slots.size ≤ (j).toNatClampNeg) := inb_of S2 ⟨hj, hjr⟩
  have hat2 : cl2.slots[(j).toNatClampNeg]? = some (.ref d) := Has.at H2 hin2 hat'
  refine goS (n := 11) (Ls' := #[.val (.ref g), .val (.int i), .val (.int j), .val (.int r)]) (st' := [(.ref d), (.ref b)]) (fun tz kz => X0.aaload hx (j := j) (v := (.ref d)) (by rw [e0]; exact Ar2.1) (State.isArrayOf_alike hZ.alike Ar2.2.1) rfl Ar2.2.2 hin2 hat2 (g := (mkF m 10 #[.val (.ref g), .val (.int i), .val (.int j), .val (.int r)] [(.int j), (.ref g), (.ref b)])) rfl rfl (hb hby d3_10) tz kz) ?_
  refine goS (n := 14) (Ls' := #[.val (.ref g), .val (.int i), .val (.int j), .val (.int r)]) (st' := []) (fun _ kz => Jvm.RoadKit.acmp (g := (mkF m 11 #[.val (.ref g), .val (.int i), .val (.int j), .val (.int r)] [(.ref d), (.ref b)])) X0 hx rfl rfl rfl (pc0 := 11) (pc' := 14) (same := false) rfl (hb hby d3_11) rfl (decide_eq_false fun q => hbd (Value.ref.inj q)) (by decide) (by decide) kz) ?_
  refine goS (n := 15) (Ls' := #[.val (.ref g), .val (.int i), .val (.int j), .val (.int r)]) (st' := [(.int (1 : Int32))]) (fun _ kz => XS.iconst X0.here hx rfl (hb hby d3_14) kz) ?_
  refine goS (n := 19) (Ls' := #[.val (.ref g), .val (.int i), .val (.int j), .val (.int r)]) (st' := [(.int (1 : Int32))]) (fun _ kz => XS.goto X0.here hx rfl (pc0 := 15) (pc' := 19) rfl (hb hby d3_15) (by decide) (by decide) kz) ?_
  exact goRetZ X0 hx hlk Bd.returns (Or.inr rfl) (hb hby d3_19) (by decide) (by decide) (by rw [e0]; exact ⟨rfl, N0, rfl⟩)
theorem ef_diF (m : MethodId) (g : Addr) (i : Int32) (j : Int32) (r : Int32) : entryFrame m #[(.ref g), (.int i), (.int j), (.int r)] 4 = mkF m 0 #[.val (.ref g), .val (.int i), .val (.int j), .val (.int r)] [] := by first | (simp [entryFrame, mkF, argsToLocals, Value.category]; done) | rfl
abbrev R_diF : Room := { frames := 0, cells := 0, slots := 0, locals := 0 }
def Q_diF (Z : State) (g : Addr) (i : Int32) (j : Int32) (r : Int32) (h0 : Heap) (n0 : Nat) (v : Option Value) (h : Heap) (L : List Loc) : Prop := v = some (.int 1) ∧ Fr n0 L ∧ h = h0
set_option maxRecDepth 65536 in
set_option maxHeartbeats 40000000 in
theorem rm_diF (l : Launch) (Z : State) (a0 : Array Value) (hw : ∀ d ∈ tables_1, d.before a0 Z = true) (ws : List Jvm.Cond) (g : Addr) (i : Int32) (j : Int32) (r : Int32) (h0 : Heap) (n0 : Nat) (O0 : Old Z n0 h0) (hjr : ¬ j < r) :
    MetFree l (⟨"com/example/thingstead/thingstead/mimir/GridsZerosPinLaw", "distinct", "([[IIII)Z"⟩ : MethodName) (head1 (Jvm.Cond.code (⟨"com/example/thingstead/thingstead/mimir/GridsZerosPinLaw", "distinct", "([[IIII)Z"⟩ : MethodName) method_5_code 4 (some .boolean) :: ws) R_diF) (fun as_ U => as_ = #[(.ref g), (.int i), (.int j), (.int r)] ∧ Z.Warmed39 U.vm ∧ U.heap = h0) (fun _ _ _ _ _ => True) (fun _ U o U' => ∃ v L, o = .returned v ∧ Q_diF Z g i j r h0 n0 v U'.heap L ∧ FrameEnd U o U' L R_diF.cells R_diF.slots) := by
  refine MetFree.of_bodySF (plainFor_of_name pn_0) hisR ?_
  intro p e s m args below meth c s₁ Bd hml0 hP hK
  obtain ⟨rfl, hZ, hh⟩ := hP
  have hx := Bd.exec
  have hby := Bd.bytes
  have hml : c.maxLocals = 4 := hml0
  have hown : s.vm.findClass "com/example/thingstead/thingstead/mimir/GridsZerosPinLaw" = some m.cls := findClass_of_methodNamed Bd.named
  have hnm := (name_of_methodNamed Bd.named Bd.method).1
  have hlk : meth.locks = false := BodyLoose.notSynchronized Bd
  have X0 : Stand p l e R_diF s m #[(.ref g), (.int i), (.int j), (.int r)] below meth c s₁ [] 0 0 := Stand.of_body Bd
  have e0 : s₁.heap = h0 := by rw [← hh, Bd.state]; rfl
  have N0 := Fr.nil n0
  refine enter (P := PQ s R_diF.cells R_diF.slots (Q_diF Z g i j r h0 n0)) (ef_diF m g i j r) ?_
  refine goS (n := 1) (Ls' := #[.val (.ref g), .val (.int i), .val (.int j), .val (.int r)]) (st' := [(.int j)]) (fun _ kz => XS.iloadN X0.here hx rfl (hb hby d3_0) rfl kz) ?_
  refine goS (n := 2) (Ls' := #[.val (.ref g), .val (.int i), .val (.int j), .val (.int r)]) (st' := [(.int r), (.int j)]) (fun _ kz => XS.iloadN X0.here hx rfl (hb hby d3_1) rfl kz) ?_
  refine goS (n := 14) (Ls' := #[.val (.ref g), .val (.int i), .val (.int j), .val (.int r)]) (st' := []) (fun _ kz => XS.icmpYes X0.here hx rfl (pc0 := 2) (pc' := 14) rfl (hb hby d3_2) rfl (flt hjr).2.1 (by decide) (by decide) kz) ?_
  refine goS (n := 15) (Ls' := #[.val (.ref g), .val (.int i), .val (.int j), .val (.int r)]) (st' := [(.int (1 : Int32))]) (fun _ kz => XS.iconst X0.here hx rfl (hb hby d3_14) kz) ?_
  refine goS (n := 19) (Ls' := #[.val (.ref g), .val (.int i), .val (.int j), .val (.int r)]) (st' := [(.int (1 : Int32))]) (fun _ kz => XS.goto X0.here hx rfl (pc0 := 15) (pc' := 19) rfl (hb hby d3_15) (by decide) (by decide) kz) ?_
  exact goRetZ X0 hx hlk Bd.returns (Or.inr rfl) (hb hby d3_19) (by decide) (by decide) (by rw [e0]; exact ⟨rfl, N0, rfl⟩)
theorem d1_0 : decode prog_7_method_2_code 0 = .ok (.iload_n 0, 1) := by decide +kernel
theorem d1_1 : decode prog_7_method_2_code 1 = .ok (.anewarray 7, 3) := by decide +kernel
theorem d1_4 : decode prog_7_method_2_code 4 = .ok (.astore_n 2, 1) := by decide +kernel
theorem d1_5 : decode prog_7_method_2_code 5 = .ok (.iconst 0, 1) := by decide +kernel
theorem d1_6 : decode prog_7_method_2_code 6 = .ok (.istore_n 3, 1) := by decide +kernel
theorem d1_7 : decode prog_7_method_2_code 7 = .ok (.iload_n 3, 1) := by decide +kernel
theorem d1_8 : decode prog_7_method_2_code 8 = .ok (.iload_n 0, 1) := by decide +kernel
theorem d1_9 : decode prog_7_method_2_code 9 = .ok (.if_icmp .ge 15, 3) := by decide +kernel
theorem d1_24 : decode prog_7_method_2_code 24 = .ok (.aload_n 2, 1) := by decide +kernel
theorem d1_25 : decode prog_7_method_2_code 25 = .ok (.areturn, 1) := by decide +kernel
theorem pn_1 : plainName "com/example/thingstead/thingstead/mimir/Grids" = true := by first | (simp [plainName, overriddenIn]; done) | decide +kernel
theorem ef_zeros0 (m : MethodId) (cc : Int32) : entryFrame m #[(.int (0 : Int32)), (.int cc)] 4 = mkF m 0 #[.val (.int (0 : Int32)), .val (.int cc), .unset, .unset] [] := by first | (simp [entryFrame, mkF, argsToLocals, Value.category]; done) | rfl
abbrev R_zeros0 : Room := { frames := 0, cells := 1, slots := 0, locals := 0 }
def Q_zeros0 (Z : State) (cc : Int32) (h0 : Heap) (n0 : Nat) (v : Option Value) (h : Heap) (L : List Loc) : Prop := ∃ (a : Addr) (k : ClassId), v = some (.ref a) ∧ Fr n0 L ∧ Keep h0 h [] ∧ Arv Z h a k (.array .int) (0 : Int32) [] .null
set_option maxRecDepth 65536 in
set_option maxHeartbeats 40000000 in
theorem rm_zeros0 (l : Launch) (Z : State) (a0 : Array Value) (hw : ∀ d ∈ tables_1, d.before a0 Z = true) (ws : List Jvm.Cond) (cc : Int32) (h0 : Heap) (n0 : Nat) (O0 : Old Z n0 h0) (hc0 : ¬ cc < 0) (hc3 : cc.toNatClampNeg ≤ 3) :
    MetFree l (⟨"com/example/thingstead/thingstead/mimir/Grids", "zeros", "(II)[[I"⟩ : MethodName) (head1 (Jvm.Cond.code (⟨"com/example/thingstead/thingstead/mimir/Grids", "zeros", "(II)[[I"⟩ : MethodName) prog_7_method_2_code 4 (some (.array (.array .int))) :: ws) R_zeros0) (fun as_ U => as_ = #[(.int (0 : Int32)), (.int cc)] ∧ Z.Warmed39 U.vm ∧ U.heap = h0) (fun _ _ _ _ _ => True) (fun _ U o U' => ∃ v L, o = .returned v ∧ Q_zeros0 Z cc h0 n0 v U'.heap L ∧ FrameEnd U o U' L R_zeros0.cells R_zeros0.slots) := by
  refine MetFree.of_bodySF (plainFor_of_name pn_1) hisR ?_
  intro p e s m args below meth c s₁ Bd hml0 hP hK
  obtain ⟨rfl, hZ, hh⟩ := hP
  have hx := Bd.exec
  have hby := Bd.bytes
  have hml : c.maxLocals = 4 := hml0
  have hown : s.vm.findClass "com/example/thingstead/thingstead/mimir/Grids" = some m.cls := findClass_of_methodNamed Bd.named
  have hnm := (name_of_methodNamed Bd.named Bd.method).1
  have hlk : meth.locks = false := BodyLoose.notSynchronized Bd
  have X0 : Stand p l e R_zeros0 s m #[(.int (0 : Int32)), (.int cc)] below meth c s₁ [] 0 0 := Stand.of_body Bd
  have e0 : s₁.heap = h0 := by rw [← hh, Bd.state]; rfl
  have N0 := Fr.nil n0
  refine enter (P := PQ s R_zeros0.cells R_zeros0.slots (Q_zeros0 Z cc h0 n0)) (ef_zeros0 m cc) ?_
  refine goS (n := 1) (Ls' := #[.val (.int (0 : Int32)), .val (.int cc), .unset, .unset]) (st' := [(.int (0 : Int32))]) (fun _ kz => XS.iloadN X0.here hx rfl (hb hby d1_0) rfl kz) ?_
  obtain ⟨T1, h1, k1, X1, e1, E1, A1, Ex1, O_1, st1⟩ := newRA X0 hx hZ hown (ty := .int) (by decide +kernel) (hw _ (List.mem_of_getElem? (i := 4) rfl)) (hw _ (List.mem_of_getElem? (i := 5) rfl)) e0 (g := (mkF m 1 #[.val (.int (0 : Int32)), .val (.int cc), .unset, .unset] [(.int (0 : Int32))])) rfl (hb hby d1_1) rfl (by decide) (cap := 0) (by decide) (by decide) (by decide) (by decide) (ad := "[[I") (by decide +kernel)
  obtain ⟨b1, g1⟩ : ∃ z, z = h0.size := ⟨_, rfl⟩
  rw [← g1] at A1 st1 Ex1
  have g_b1 : n0 ≤ b1 := Nat.le_trans (O0.1 ▸ O0.2.1) (Nat.le_of_eq g1.symm)
  have z_b1 : h0.size ≤ b1 := Nat.le_trans (Keep.refl h0 []).1 (Nat.le_of_eq g1.symm)
  have E_b1 : Exa Z h1 b1 "[[I" := Ex1
  have V_b1 : Arv Z h1 b1 k1 (.array .int) (0 : Int32) [] .null := (Arv.new A1 (by decide)).pad (pad_rep [] .null 0)
  have O1 := O0.ext E1
  have KK1 : Keep h0 h1 [] := (Keep.refl h0 []).ext E1
  refine goS (n := 4) (Ls' := #[.val (.int (0 : Int32)), .val (.int cc), .unset, .unset]) (st' := [(.ref b1)]) st1 ?_
  refine goS (n := 5) (Ls' := #[.val (.int (0 : Int32)), .val (.int cc), .val (.ref b1), .unset]) (st' := []) (fun _ kz => XS.astoreN X1.here hx rfl (hb hby d1_4) rfl rfl (l' := #[.val (.int (0 : Int32)), .val (.int cc), .val (.ref b1), .unset]) rfl kz) ?_
  refine goS (n := 6) (Ls' := #[.val (.int (0 : Int32)), .val (.int cc), .val (.ref b1), .unset]) (st' := [(.int (0 : Int32))]) (fun _ kz => XS.iconst X1.here hx rfl (hb hby d1_5) kz) ?_
  refine goS (n := 7) (Ls' := #[.val (.int (0 : Int32)), .val (.int cc), .val (.ref b1), .val (.int (0 : Int32))]) (st' := []) (fun _ kz => XS.istoreN X1.here hx rfl (hb hby d1_6) rfl (l' := #[.val (.int (0 : Int32)), .val (.int cc), .val (.ref b1), .val (.int (0 : Int32))]) rfl kz) ?_
  refine goS (n := 8) (Ls' := #[.val (.int (0 : Int32)), .val (.int cc), .val (.ref b1), .val (.int (0 : Int32))]) (st' := [(.int (0 : Int32))]) (fun _ kz => XS.iloadN X1.here hx rfl (hb hby d1_7) rfl kz) ?_
  refine goS (n := 9) (Ls' := #[.val (.int (0 : Int32)), .val (.int cc), .val (.ref b1), .val (.int (0 : Int32))]) (st' := [(.int (0 : Int32)), (.int (0 : Int32))]) (fun _ kz => XS.iloadN X1.here hx rfl (hb hby d1_8) rfl kz) ?_
  refine goS (n := 24) (Ls' := #[.val (.int (0 : Int32)), .val (.int cc), .val (.ref b1), .val (.int (0 : Int32))]) (st' := []) (fun _ kz => XS.icmpYes X1.here hx rfl (pc0 := 9) (pc' := 24) rfl (hb hby d1_9) rfl (by decide) (by decide) (by decide) kz) ?_
  refine goS (n := 25) (Ls' := #[.val (.int (0 : Int32)), .val (.int cc), .val (.ref b1), .val (.int (0 : Int32))]) (st' := [(.ref b1)]) (fun _ kz => XS.aloadN X1.here hx rfl (hb hby d1_24) rfl rfl kz) ?_
  exact goRetA X1 hx hlk Bd.returns rfl rfl (hb hby d1_25) (by decide) (by decide) (by rw [e1]; exact ⟨b1, _, rfl, N0, KK1, V_b1⟩)
theorem d1_12 : decode prog_7_method_2_code 12 = .ok (.aload_n 2, 1) := by decide +kernel
theorem d1_13 : decode prog_7_method_2_code 13 = .ok (.iload_n 3, 1) := by decide +kernel
theorem d1_14 : decode prog_7_method_2_code 14 = .ok (.iload_n 1, 1) := by decide +kernel
theorem d1_15 : decode prog_7_method_2_code 15 = .ok (.newarray .int, 2) := by decide +kernel
theorem d1_17 : decode prog_7_method_2_code 17 = .ok (.aastore, 1) := by decide +kernel
theorem d1_18 : decode prog_7_method_2_code 18 = .ok (.iinc 3 1, 3) := by decide +kernel
theorem d1_21 : decode prog_7_method_2_code 21 = .ok (.goto (-14), 3) := by decide +kernel
theorem ef_zeros1 (m : MethodId) (cc : Int32) : entryFrame m #[(.int (1 : Int32)), (.int cc)] 4 = mkF m 0 #[.val (.int (1 : Int32)), .val (.int cc), .unset, .unset] [] := by first | (simp [entryFrame, mkF, argsToLocals, Value.category]; done) | rfl
abbrev R_zeros1 : Room := { frames := 0, cells := 2, slots := 4, locals := 0 }
def Q_zeros1 (Z : State) (cc : Int32) (h0 : Heap) (n0 : Nat) (v : Option Value) (h : Heap) (L : List Loc) : Prop := ∃ (a : Addr) (k : ClassId) (x0 : Addr) (kx0 : ClassId), v = some (.ref a) ∧ Fr n0 L ∧ Keep h0 h [] ∧ Arv Z h a k (.array .int) (1 : Int32) [(.ref x0)] .null ∧ Arv Z h x0 kx0 .int cc [] (.int (0 : Int32))
set_option maxRecDepth 65536 in
set_option maxHeartbeats 40000000 in
theorem rm_zeros1 (l : Launch) (Z : State) (a0 : Array Value) (hw : ∀ d ∈ tables_1, d.before a0 Z = true) (ws : List Jvm.Cond) (cc : Int32) (h0 : Heap) (n0 : Nat) (O0 : Old Z n0 h0) (hc0 : ¬ cc < 0) (hc3 : cc.toNatClampNeg ≤ 3) :
    MetFree l (⟨"com/example/thingstead/thingstead/mimir/Grids", "zeros", "(II)[[I"⟩ : MethodName) (head1 (Jvm.Cond.code (⟨"com/example/thingstead/thingstead/mimir/Grids", "zeros", "(II)[[I"⟩ : MethodName) prog_7_method_2_code 4 (some (.array (.array .int))) :: ws) R_zeros1) (fun as_ U => as_ = #[(.int (1 : Int32)), (.int cc)] ∧ Z.Warmed39 U.vm ∧ U.heap = h0) (fun _ _ _ _ _ => True) (fun _ U o U' => ∃ v L, o = .returned v ∧ Q_zeros1 Z cc h0 n0 v U'.heap L ∧ FrameEnd U o U' L R_zeros1.cells R_zeros1.slots) := by
  refine MetFree.of_bodySF (plainFor_of_name pn_1) hisR ?_
  intro p e s m args below meth c s₁ Bd hml0 hP hK
  obtain ⟨rfl, hZ, hh⟩ := hP
  have hx := Bd.exec
  have hby := Bd.bytes
  have hml : c.maxLocals = 4 := hml0
  have hown : s.vm.findClass "com/example/thingstead/thingstead/mimir/Grids" = some m.cls := findClass_of_methodNamed Bd.named
  have hnm := (name_of_methodNamed Bd.named Bd.method).1
  have hlk : meth.locks = false := BodyLoose.notSynchronized Bd
  have X0 : Stand p l e R_zeros1 s m #[(.int (1 : Int32)), (.int cc)] below meth c s₁ [] 0 0 := Stand.of_body Bd
  have e0 : s₁.heap = h0 := by rw [← hh, Bd.state]; rfl
  have N0 := Fr.nil n0
  refine enter (P := PQ s R_zeros1.cells R_zeros1.slots (Q_zeros1 Z cc h0 n0)) (ef_zeros1 m cc) ?_
  refine goS (n := 1) (Ls' := #[.val (.int (1 : Int32)), .val (.int cc), .unset, .unset]) (st' := [(.int (1 : Int32))]) (fun _ kz => XS.iloadN X0.here hx rfl (hb hby d1_0) rfl kz) ?_
  obtain ⟨T1, h1, k1, X1, e1, E1, A1, Ex1, O_1, st1⟩ := newRA X0 hx hZ hown (ty := .int) (by decide +kernel) (hw _ (List.mem_of_getElem? (i := 4) rfl)) (hw _ (List.mem_of_getElem? (i := 5) rfl)) e0 (g := (mkF m 1 #[.val (.int (1 : Int32)), .val (.int cc), .unset, .unset] [(.int (1 : Int32))])) rfl (hb hby d1_1) rfl (by decide) (cap := 1) (by decide) (by decide) (by decide) (by decide) (ad := "[[I") (by decide +kernel)
  obtain ⟨b1, g1⟩ : ∃ z, z = h0.size := ⟨_, rfl⟩
  rw [← g1] at A1 st1 Ex1
  have g_b1 : n0 ≤ b1 := Nat.le_trans (O0.1 ▸ O0.2.1) (Nat.le_of_eq g1.symm)
  have z_b1 : h0.size ≤ b1 := Nat.le_trans (Keep.refl h0 []).1 (Nat.le_of_eq g1.symm)
  have E_b1 : Exa Z h1 b1 "[[I" := Ex1
  have V_b1 : Arv Z h1 b1 k1 (.array .int) (1 : Int32) [.null] .null := (Arv.new A1 (by decide)).pad (pad_rep [] .null 1)
  have O1 := O0.ext E1
  have KK1 : Keep h0 h1 [] := (Keep.refl h0 []).ext E1
  refine goS (n := 4) (Ls' := #[.val (.int (1 : Int32)), .val (.int cc), .unset, .unset]) (st' := [(.ref b1)]) st1 ?_
  refine goS (n := 5) (Ls' := #[.val (.int (1 : Int32)), .val (.int cc), .val (.ref b1), .unset]) (st' := []) (fun _ kz => XS.astoreN X1.here hx rfl (hb hby d1_4) rfl rfl (l' := #[.val (.int (1 : Int32)), .val (.int cc), .val (.ref b1), .unset]) rfl kz) ?_
  refine goS (n := 6) (Ls' := #[.val (.int (1 : Int32)), .val (.int cc), .val (.ref b1), .unset]) (st' := [(.int (0 : Int32))]) (fun _ kz => XS.iconst X1.here hx rfl (hb hby d1_5) kz) ?_
  refine goS (n := 7) (Ls' := #[.val (.int (1 : Int32)), .val (.int cc), .val (.ref b1), .val (.int (0 : Int32))]) (st' := []) (fun _ kz => XS.istoreN X1.here hx rfl (hb hby d1_6) rfl (l' := #[.val (.int (1 : Int32)), .val (.int cc), .val (.ref b1), .val (.int (0 : Int32))]) rfl kz) ?_
  refine goS (n := 8) (Ls' := #[.val (.int (1 : Int32)), .val (.int cc), .val (.ref b1), .val (.int (0 : Int32))]) (st' := [(.int (0 : Int32))]) (fun _ kz => XS.iloadN X1.here hx rfl (hb hby d1_7) rfl kz) ?_
  refine goS (n := 9) (Ls' := #[.val (.int (1 : Int32)), .val (.int cc), .val (.ref b1), .val (.int (0 : Int32))]) (st' := [(.int (1 : Int32)), (.int (0 : Int32))]) (fun _ kz => XS.iloadN X1.here hx rfl (hb hby d1_8) rfl kz) ?_
  refine goS (n := 12) (Ls' := #[.val (.int (1 : Int32)), .val (.int cc), .val (.ref b1), .val (.int (0 : Int32))]) (st' := []) (fun _ kz => XS.icmpNo X1.here hx rfl (hb hby d1_9) rfl (by decide) kz) ?_
  refine goS (n := 13) (Ls' := #[.val (.int (1 : Int32)), .val (.int cc), .val (.ref b1), .val (.int (0 : Int32))]) (st' := [(.ref b1)]) (fun _ kz => XS.aloadN X1.here hx rfl (hb hby d1_12) rfl rfl kz) ?_
  refine goS (n := 14) (Ls' := #[.val (.int (1 : Int32)), .val (.int cc), .val (.ref b1), .val (.int (0 : Int32))]) (st' := [(.int (0 : Int32)), (.ref b1)]) (fun _ kz => XS.iloadN X1.here hx rfl (hb hby d1_13) rfl kz) ?_
  refine goS (n := 15) (Ls' := #[.val (.int (1 : Int32)), .val (.int cc), .val (.ref b1), .val (.int (0 : Int32))]) (st' := [(.int cc), (.int (0 : Int32)), (.ref b1)]) (fun _ kz => XS.iloadN X1.here hx rfl (hb hby d1_14) rfl kz) ?_
  obtain ⟨T2, h2, k2, X2, e2, E2, A2, Ex2, st2⟩ := newPE X1 hx hZ (hw _ (List.mem_of_getElem? (i := 13) rfl)) e1 (g := (mkF m 15 #[.val (.int (1 : Int32)), .val (.int cc), .val (.ref b1), .val (.int (0 : Int32))] [(.int cc), (.int (0 : Int32)), (.ref b1)])) rfl (hb hby d1_15) rfl hc0 (cap := 3) hc3 (by decide) (by decide) (by decide) (ad := "[I") (by decide +kernel)
  obtain ⟨b2, g2⟩ : ∃ z, z = h1.size := ⟨_, rfl⟩
  rw [← g2] at A2 st2 Ex2
  have g_b2 : n0 ≤ b2 := Nat.le_trans (O1.1 ▸ O1.2.1) (Nat.le_of_eq g2.symm)
  have z_b2 : h0.size ≤ b2 := Nat.le_trans KK1.1 (Nat.le_of_eq g2.symm)
  have ne_b1_b2 : b1 ≠ b2 := Nat.ne_of_lt (Nat.lt_of_lt_of_le E_b1.lt (Nat.le_of_eq g2.symm))
  have E_b1 : Exa Z h2 b1 "[[I" := E_b1.ext E2
  have V_b1 : Arv Z h2 b1 k1 (.array .int) (1 : Int32) [.null] .null := V_b1.ext E2
  have E_b2 : Exa Z h2 b2 "[I" := Ex2
  have V_b2 : Arv Z h2 b2 k2 .int cc [] (.int (0 : Int32)) := Arv.new A2 hc0
  have O2 := O1.ext E2
  have KK2 : Keep h0 h2 [] := KK1.ext E2
  refine goS (n := 17) (Ls' := #[.val (.int (1 : Int32)), .val (.int cc), .val (.ref b1), .val (.int (0 : Int32))]) (st' := [(.ref b2), (.int (0 : Int32)), (.ref b1)]) st2 ?_
  obtain ⟨cl3, Ar3, q3, S3, Nn3, H3, G3⟩ := V_b1
  have hin3 : ¬ ((0 : Int32) < 0 ∨ cl3.slots.size ≤ ((0 : Int32)).toNatClampNeg) := inb_of S3 ⟨by decide, by decide⟩
  obtain ⟨T4, h4, X4, e4, W4, st4⟩ := stR X2 hx hZ e2 Ar3 (j := (0 : Int32)) hin3 rfl (Sto.ofVA Ar3 q3 O_1 (Ins.self E_b2)) (g := (mkF m 17 #[.val (.int (1 : Int32)), .val (.int cc), .val (.ref b1), .val (.int (0 : Int32))] [(.ref b2), (.int (0 : Int32)), (.ref b1)])) rfl rfl (hb hby d1_17)
  have E_b1 : Exa Z h4 b1 "[[I" := E_b1.wr W4
  have E_b2 : Exa Z h4 b2 "[I" := E_b2.wr W4
  have V_b2 : Arv Z h4 b2 k2 .int cc [] (.int (0 : Int32)) := V_b2.other W4 (Ne.symm ne_b1_b2)
  have V_b1 : Arv Z h4 b1 k1 (.array .int) (1 : Int32) [(.ref b2)] .null := Arv.set Ar3 q3 S3 Nn3 H3 G3 rfl W4 0 rfl (Nat.le_of_ble_eq_true rfl)
  have N4 := Fr.snoc X4 N0 g_b1
  have O4 := O2.wr W4 g_b1
  have KK4 : Keep h0 h4 [] := KK2.wr W4 (Or.inr z_b1)
  refine goS (n := 18) (Ls' := #[.val (.int (1 : Int32)), .val (.int cc), .val (.ref b1), .val (.int (0 : Int32))]) (st' := []) st4 ?_
  refine goS (n := 21) (Ls' := #[.val (.int (1 : Int32)), .val (.int cc), .val (.ref b1), .val (.int (1 : Int32))]) (st' := []) (fun _ kz => XS.iinc X4.here hx rfl (hb hby d1_18) rfl (l' := #[.val (.int (1 : Int32)), .val (.int cc), .val (.ref b1), .val (.int (1 : Int32))]) rfl kz) ?_
  refine goS (n := 7) (Ls' := #[.val (.int (1 : Int32)), .val (.int cc), .val (.ref b1), .val (.int (1 : Int32))]) (st' := []) (fun _ kz => XS.goto X4.here hx rfl (pc0 := 21) (pc' := 7) rfl (hb hby d1_21) (by decide) (by decide) kz) ?_
  refine goS (n := 8) (Ls' := #[.val (.int (1 : Int32)), .val (.int cc), .val (.ref b1), .val (.int (1 : Int32))]) (st' := [(.int (1 : Int32))]) (fun _ kz => XS.iloadN X4.here hx rfl (hb hby d1_7) rfl kz) ?_
  refine goS (n := 9) (Ls' := #[.val (.int (1 : Int32)), .val (.int cc), .val (.ref b1), .val (.int (1 : Int32))]) (st' := [(.int (1 : Int32)), (.int (1 : Int32))]) (fun _ kz => XS.iloadN X4.here hx rfl (hb hby d1_8) rfl kz) ?_
  refine goS (n := 24) (Ls' := #[.val (.int (1 : Int32)), .val (.int cc), .val (.ref b1), .val (.int (1 : Int32))]) (st' := []) (fun _ kz => XS.icmpYes X4.here hx rfl (pc0 := 9) (pc' := 24) rfl (hb hby d1_9) rfl (by decide) (by decide) (by decide) kz) ?_
  refine goS (n := 25) (Ls' := #[.val (.int (1 : Int32)), .val (.int cc), .val (.ref b1), .val (.int (1 : Int32))]) (st' := [(.ref b1)]) (fun _ kz => XS.aloadN X4.here hx rfl (hb hby d1_24) rfl rfl kz) ?_
  exact goRetA X4 hx hlk Bd.returns rfl rfl (hb hby d1_25) (by decide) (by decide) (by rw [e4]; exact ⟨b1, _, b2, _, rfl, N4, KK4, V_b1, V_b2⟩)
theorem ef_zeros2 (m : MethodId) (cc : Int32) : entryFrame m #[(.int (2 : Int32)), (.int cc)] 4 = mkF m 0 #[.val (.int (2 : Int32)), .val (.int cc), .unset, .unset] [] := by first | (simp [entryFrame, mkF, argsToLocals, Value.category]; done) | rfl
abbrev R_zeros2 : Room := { frames := 0, cells := 3, slots := 8, locals := 0 }
def Q_zeros2 (Z : State) (cc : Int32) (h0 : Heap) (n0 : Nat) (v : Option Value) (h : Heap) (L : List Loc) : Prop := ∃ (a : Addr) (k : ClassId) (x0 : Addr) (kx0 : ClassId) (x1 : Addr) (kx1 : ClassId), v = some (.ref a) ∧ Fr n0 L ∧ Keep h0 h [] ∧ Arv Z h a k (.array .int) (2 : Int32) [(.ref x0), (.ref x1)] .null ∧ Arv Z h x0 kx0 .int cc [] (.int (0 : Int32)) ∧ Arv Z h x1 kx1 .int cc [] (.int (0 : Int32)) ∧ x0 ≠ x1
set_option maxRecDepth 65536 in
set_option maxHeartbeats 40000000 in
theorem rm_zeros2 (l : Launch) (Z : State) (a0 : Array Value) (hw : ∀ d ∈ tables_1, d.before a0 Z = true) (ws : List Jvm.Cond) (cc : Int32) (h0 : Heap) (n0 : Nat) (O0 : Old Z n0 h0) (hc0 : ¬ cc < 0) (hc3 : cc.toNatClampNeg ≤ 3) :
    MetFree l (⟨"com/example/thingstead/thingstead/mimir/Grids", "zeros", "(II)[[I"⟩ : MethodName) (head1 (Jvm.Cond.code (⟨"com/example/thingstead/thingstead/mimir/Grids", "zeros", "(II)[[I"⟩ : MethodName) prog_7_method_2_code 4 (some (.array (.array .int))) :: ws) R_zeros2) (fun as_ U => as_ = #[(.int (2 : Int32)), (.int cc)] ∧ Z.Warmed39 U.vm ∧ U.heap = h0) (fun _ _ _ _ _ => True) (fun _ U o U' => ∃ v L, o = .returned v ∧ Q_zeros2 Z cc h0 n0 v U'.heap L ∧ FrameEnd U o U' L R_zeros2.cells R_zeros2.slots) := by
  refine MetFree.of_bodySF (plainFor_of_name pn_1) hisR ?_
  intro p e s m args below meth c s₁ Bd hml0 hP hK
  obtain ⟨rfl, hZ, hh⟩ := hP
  have hx := Bd.exec
  have hby := Bd.bytes
  have hml : c.maxLocals = 4 := hml0
  have hown : s.vm.findClass "com/example/thingstead/thingstead/mimir/Grids" = some m.cls := findClass_of_methodNamed Bd.named
  have hnm := (name_of_methodNamed Bd.named Bd.method).1
  have hlk : meth.locks = false := BodyLoose.notSynchronized Bd
  have X0 : Stand p l e R_zeros2 s m #[(.int (2 : Int32)), (.int cc)] below meth c s₁ [] 0 0 := Stand.of_body Bd
  have e0 : s₁.heap = h0 := by rw [← hh, Bd.state]; rfl
  have N0 := Fr.nil n0
  refine enter (P := PQ s R_zeros2.cells R_zeros2.slots (Q_zeros2 Z cc h0 n0)) (ef_zeros2 m cc) ?_
  refine goS (n := 1) (Ls' := #[.val (.int (2 : Int32)), .val (.int cc), .unset, .unset]) (st' := [(.int (2 : Int32))]) (fun _ kz => XS.iloadN X0.here hx rfl (hb hby d1_0) rfl kz) ?_
  obtain ⟨T1, h1, k1, X1, e1, E1, A1, Ex1, O_1, st1⟩ := newRA X0 hx hZ hown (ty := .int) (by decide +kernel) (hw _ (List.mem_of_getElem? (i := 4) rfl)) (hw _ (List.mem_of_getElem? (i := 5) rfl)) e0 (g := (mkF m 1 #[.val (.int (2 : Int32)), .val (.int cc), .unset, .unset] [(.int (2 : Int32))])) rfl (hb hby d1_1) rfl (by decide) (cap := 2) (by decide) (by decide) (by decide) (by decide) (ad := "[[I") (by decide +kernel)
  obtain ⟨b1, g1⟩ : ∃ z, z = h0.size := ⟨_, rfl⟩
  rw [← g1] at A1 st1 Ex1
  have g_b1 : n0 ≤ b1 := Nat.le_trans (O0.1 ▸ O0.2.1) (Nat.le_of_eq g1.symm)
  have z_b1 : h0.size ≤ b1 := Nat.le_trans (Keep.refl h0 []).1 (Nat.le_of_eq g1.symm)
  have E_b1 : Exa Z h1 b1 "[[I" := Ex1
  have V_b1 : Arv Z h1 b1 k1 (.array .int) (2 : Int32) [.null, .null] .null := (Arv.new A1 (by decide)).pad (pad_rep [] .null 2)
  have O1 := O0.ext E1
  have KK1 : Keep h0 h1 [] := (Keep.refl h0 []).ext E1
  refine goS (n := 4) (Ls' := #[.val (.int (2 : Int32)), .val (.int cc), .unset, .unset]) (st' := [(.ref b1)]) st1 ?_
  refine goS (n := 5) (Ls' := #[.val (.int (2 : Int32)), .val (.int cc), .val (.ref b1), .unset]) (st' := []) (fun _ kz => XS.astoreN X1.here hx rfl (hb hby d1_4) rfl rfl (l' := #[.val (.int (2 : Int32)), .val (.int cc), .val (.ref b1), .unset]) rfl kz) ?_
  refine goS (n := 6) (Ls' := #[.val (.int (2 : Int32)), .val (.int cc), .val (.ref b1), .unset]) (st' := [(.int (0 : Int32))]) (fun _ kz => XS.iconst X1.here hx rfl (hb hby d1_5) kz) ?_
  refine goS (n := 7) (Ls' := #[.val (.int (2 : Int32)), .val (.int cc), .val (.ref b1), .val (.int (0 : Int32))]) (st' := []) (fun _ kz => XS.istoreN X1.here hx rfl (hb hby d1_6) rfl (l' := #[.val (.int (2 : Int32)), .val (.int cc), .val (.ref b1), .val (.int (0 : Int32))]) rfl kz) ?_
  refine goS (n := 8) (Ls' := #[.val (.int (2 : Int32)), .val (.int cc), .val (.ref b1), .val (.int (0 : Int32))]) (st' := [(.int (0 : Int32))]) (fun _ kz => XS.iloadN X1.here hx rfl (hb hby d1_7) rfl kz) ?_
  refine goS (n := 9) (Ls' := #[.val (.int (2 : Int32)), .val (.int cc), .val (.ref b1), .val (.int (0 : Int32))]) (st' := [(.int (2 : Int32)), (.int (0 : Int32))]) (fun _ kz => XS.iloadN X1.here hx rfl (hb hby d1_8) rfl kz) ?_
  refine goS (n := 12) (Ls' := #[.val (.int (2 : Int32)), .val (.int cc), .val (.ref b1), .val (.int (0 : Int32))]) (st' := []) (fun _ kz => XS.icmpNo X1.here hx rfl (hb hby d1_9) rfl (by decide) kz) ?_
  refine goS (n := 13) (Ls' := #[.val (.int (2 : Int32)), .val (.int cc), .val (.ref b1), .val (.int (0 : Int32))]) (st' := [(.ref b1)]) (fun _ kz => XS.aloadN X1.here hx rfl (hb hby d1_12) rfl rfl kz) ?_
  refine goS (n := 14) (Ls' := #[.val (.int (2 : Int32)), .val (.int cc), .val (.ref b1), .val (.int (0 : Int32))]) (st' := [(.int (0 : Int32)), (.ref b1)]) (fun _ kz => XS.iloadN X1.here hx rfl (hb hby d1_13) rfl kz) ?_
  refine goS (n := 15) (Ls' := #[.val (.int (2 : Int32)), .val (.int cc), .val (.ref b1), .val (.int (0 : Int32))]) (st' := [(.int cc), (.int (0 : Int32)), (.ref b1)]) (fun _ kz => XS.iloadN X1.here hx rfl (hb hby d1_14) rfl kz) ?_
  obtain ⟨T2, h2, k2, X2, e2, E2, A2, Ex2, st2⟩ := newPE X1 hx hZ (hw _ (List.mem_of_getElem? (i := 13) rfl)) e1 (g := (mkF m 15 #[.val (.int (2 : Int32)), .val (.int cc), .val (.ref b1), .val (.int (0 : Int32))] [(.int cc), (.int (0 : Int32)), (.ref b1)])) rfl (hb hby d1_15) rfl hc0 (cap := 3) hc3 (by decide) (by decide) (by decide) (ad := "[I") (by decide +kernel)
  obtain ⟨b2, g2⟩ : ∃ z, z = h1.size := ⟨_, rfl⟩
  rw [← g2] at A2 st2 Ex2
  have g_b2 : n0 ≤ b2 := Nat.le_trans (O1.1 ▸ O1.2.1) (Nat.le_of_eq g2.symm)
  have z_b2 : h0.size ≤ b2 := Nat.le_trans KK1.1 (Nat.le_of_eq g2.symm)
  have ne_b1_b2 : b1 ≠ b2 := Nat.ne_of_lt (Nat.lt_of_lt_of_le E_b1.lt (Nat.le_of_eq g2.symm))
  have E_b1 : Exa Z h2 b1 "[[I" := E_b1.ext E2
  have V_b1 : Arv Z h2 b1 k1 (.array .int) (2 : Int32) [.null, .null] .null := V_b1.ext E2
  have E_b2 : Exa Z h2 b2 "[I" := Ex2
  have V_b2 : Arv Z h2 b2 k2 .int cc [] (.int (0 : Int32)) := Arv.new A2 hc0
  have O2 := O1.ext E2
  have KK2 : Keep h0 h2 [] := KK1.ext E2
  refine goS (n := 17) (Ls' := #[.val (.int (2 : Int32)), .val (.int cc), .val (.ref b1), .val (.int (0 : Int32))]) (st' := [(.ref b2), (.int (0 : Int32)), (.ref b1)]) st2 ?_
  obtain ⟨cl3, Ar3, q3, S3, Nn3, H3, G3⟩ := V_b1
  have hin3 : ¬ ((0 : Int32) < 0 ∨ cl3.slots.size ≤ ((0 : Int32)).toNatClampNeg) := inb_of S3 ⟨by decide, by decide⟩
  obtain ⟨T4, h4, X4, e4, W4, st4⟩ := stR X2 hx hZ e2 Ar3 (j := (0 : Int32)) hin3 rfl (Sto.ofVA Ar3 q3 O_1 (Ins.self E_b2)) (g := (mkF m 17 #[.val (.int (2 : Int32)), .val (.int cc), .val (.ref b1), .val (.int (0 : Int32))] [(.ref b2), (.int (0 : Int32)), (.ref b1)])) rfl rfl (hb hby d1_17)
  have E_b1 : Exa Z h4 b1 "[[I" := E_b1.wr W4
  have E_b2 : Exa Z h4 b2 "[I" := E_b2.wr W4
  have V_b2 : Arv Z h4 b2 k2 .int cc [] (.int (0 : Int32)) := V_b2.other W4 (Ne.symm ne_b1_b2)
  have V_b1 : Arv Z h4 b1 k1 (.array .int) (2 : Int32) [(.ref b2), .null] .null := Arv.set Ar3 q3 S3 Nn3 H3 G3 rfl W4 0 rfl (Nat.le_of_ble_eq_true rfl)
  have N4 := Fr.snoc X4 N0 g_b1
  have O4 := O2.wr W4 g_b1
  have KK4 : Keep h0 h4 [] := KK2.wr W4 (Or.inr z_b1)
  refine goS (n := 18) (Ls' := #[.val (.int (2 : Int32)), .val (.int cc), .val (.ref b1), .val (.int (0 : Int32))]) (st' := []) st4 ?_
  refine goS (n := 21) (Ls' := #[.val (.int (2 : Int32)), .val (.int cc), .val (.ref b1), .val (.int (1 : Int32))]) (st' := []) (fun _ kz => XS.iinc X4.here hx rfl (hb hby d1_18) rfl (l' := #[.val (.int (2 : Int32)), .val (.int cc), .val (.ref b1), .val (.int (1 : Int32))]) rfl kz) ?_
  refine goS (n := 7) (Ls' := #[.val (.int (2 : Int32)), .val (.int cc), .val (.ref b1), .val (.int (1 : Int32))]) (st' := []) (fun _ kz => XS.goto X4.here hx rfl (pc0 := 21) (pc' := 7) rfl (hb hby d1_21) (by decide) (by decide) kz) ?_
  refine goS (n := 8) (Ls' := #[.val (.int (2 : Int32)), .val (.int cc), .val (.ref b1), .val (.int (1 : Int32))]) (st' := [(.int (1 : Int32))]) (fun _ kz => XS.iloadN X4.here hx rfl (hb hby d1_7) rfl kz) ?_
  refine goS (n := 9) (Ls' := #[.val (.int (2 : Int32)), .val (.int cc), .val (.ref b1), .val (.int (1 : Int32))]) (st' := [(.int (2 : Int32)), (.int (1 : Int32))]) (fun _ kz => XS.iloadN X4.here hx rfl (hb hby d1_8) rfl kz) ?_
  refine goS (n := 12) (Ls' := #[.val (.int (2 : Int32)), .val (.int cc), .val (.ref b1), .val (.int (1 : Int32))]) (st' := []) (fun _ kz => XS.icmpNo X4.here hx rfl (hb hby d1_9) rfl (by decide) kz) ?_
  refine goS (n := 13) (Ls' := #[.val (.int (2 : Int32)), .val (.int cc), .val (.ref b1), .val (.int (1 : Int32))]) (st' := [(.ref b1)]) (fun _ kz => XS.aloadN X4.here hx rfl (hb hby d1_12) rfl rfl kz) ?_
  refine goS (n := 14) (Ls' := #[.val (.int (2 : Int32)), .val (.int cc), .val (.ref b1), .val (.int (1 : Int32))]) (st' := [(.int (1 : Int32)), (.ref b1)]) (fun _ kz => XS.iloadN X4.here hx rfl (hb hby d1_13) rfl kz) ?_
  refine goS (n := 15) (Ls' := #[.val (.int (2 : Int32)), .val (.int cc), .val (.ref b1), .val (.int (1 : Int32))]) (st' := [(.int cc), (.int (1 : Int32)), (.ref b1)]) (fun _ kz => XS.iloadN X4.here hx rfl (hb hby d1_14) rfl kz) ?_
  obtain ⟨T5, h5, k5, X5, e5, E5, A5, Ex5, st5⟩ := newPE X4 hx hZ (hw _ (List.mem_of_getElem? (i := 13) rfl)) e4 (g := (mkF m 15 #[.val (.int (2 : Int32)), .val (.int cc), .val (.ref b1), .val (.int (1 : Int32))] [(.int cc), (.int (1 : Int32)), (.ref b1)])) rfl (hb hby d1_15) rfl hc0 (cap := 3) hc3 (by decide) (by decide) (by decide) (ad := "[I") (by decide +kernel)
  obtain ⟨b5, g5⟩ : ∃ z, z = h4.size := ⟨_, rfl⟩
  rw [← g5] at A5 st5 Ex5
  have g_b5 : n0 ≤ b5 := Nat.le_trans (O4.1 ▸ O4.2.1) (Nat.le_of_eq g5.symm)
  have z_b5 : h0.size ≤ b5 := Nat.le_trans KK4.1 (Nat.le_of_eq g5.symm)
  have ne_b1_b5 : b1 ≠ b5 := Nat.ne_of_lt (Nat.lt_of_lt_of_le E_b1.lt (Nat.le_of_eq g5.symm))
  have ne_b2_b5 : b2 ≠ b5 := Nat.ne_of_lt (Nat.lt_of_lt_of_le E_b2.lt (Nat.le_of_eq g5.symm))
  have E_b1 : Exa Z h5 b1 "[[I" := E_b1.ext E5
  have E_b2 : Exa Z h5 b2 "[I" := E_b2.ext E5
  have V_b2 : Arv Z h5 b2 k2 .int cc [] (.int (0 : Int32)) := V_b2.ext E5
  have V_b1 : Arv Z h5 b1 k1 (.array .int) (2 : Int32) [(.ref b2), .null] .null := V_b1.ext E5
  have E_b5 : Exa Z h5 b5 "[I" := Ex5
  have V_b5 : Arv Z h5 b5 k5 .int cc [] (.int (0 : Int32)) := Arv.new A5 hc0
  have O5 := O4.ext E5
  have KK5 : Keep h0 h5 [] := KK4.ext E5
  refine goS (n := 17) (Ls' := #[.val (.int (2 : Int32)), .val (.int cc), .val (.ref b1), .val (.int (1 : Int32))]) (st' := [(.ref b5), (.int (1 : Int32)), (.ref b1)]) st5 ?_
  obtain ⟨cl6, Ar6, q6, S6, Nn6, H6, G6⟩ := V_b1
  have hin6 : ¬ ((1 : Int32) < 0 ∨ cl6.slots.size ≤ ((1 : Int32)).toNatClampNeg) := inb_of S6 ⟨by decide, by decide⟩
  obtain ⟨T7, h7, X7, e7, W7, st7⟩ := stR X5 hx hZ e5 Ar6 (j := (1 : Int32)) hin6 rfl (Sto.ofVA Ar6 q6 O_1 (Ins.self E_b5)) (g := (mkF m 17 #[.val (.int (2 : Int32)), .val (.int cc), .val (.ref b1), .val (.int (1 : Int32))] [(.ref b5), (.int (1 : Int32)), (.ref b1)])) rfl rfl (hb hby d1_17)
  have E_b1 : Exa Z h7 b1 "[[I" := E_b1.wr W7
  have E_b2 : Exa Z h7 b2 "[I" := E_b2.wr W7
  have V_b2 : Arv Z h7 b2 k2 .int cc [] (.int (0 : Int32)) := V_b2.other W7 (Ne.symm ne_b1_b2)
  have E_b5 : Exa Z h7 b5 "[I" := E_b5.wr W7
  have V_b5 : Arv Z h7 b5 k5 .int cc [] (.int (0 : Int32)) := V_b5.other W7 (Ne.symm ne_b1_b5)
  have V_b1 : Arv Z h7 b1 k1 (.array .int) (2 : Int32) [(.ref b2), (.ref b5)] .null := Arv.set Ar6 q6 S6 Nn6 H6 G6 rfl W7 1 rfl (Nat.le_of_ble_eq_true rfl)
  have N7 := Fr.snoc X7 N4 g_b1
  have O7 := O5.wr W7 g_b1
  have KK7 : Keep h0 h7 [] := KK5.wr W7 (Or.inr z_b1)
  refine goS (n := 18) (Ls' := #[.val (.int (2 : Int32)), .val (.int cc), .val (.ref b1), .val (.int (1 : Int32))]) (st' := []) st7 ?_
  refine goS (n := 21) (Ls' := #[.val (.int (2 : Int32)), .val (.int cc), .val (.ref b1), .val (.int (2 : Int32))]) (st' := []) (fun _ kz => XS.iinc X7.here hx rfl (hb hby d1_18) rfl (l' := #[.val (.int (2 : Int32)), .val (.int cc), .val (.ref b1), .val (.int (2 : Int32))]) rfl kz) ?_
  refine goS (n := 7) (Ls' := #[.val (.int (2 : Int32)), .val (.int cc), .val (.ref b1), .val (.int (2 : Int32))]) (st' := []) (fun _ kz => XS.goto X7.here hx rfl (pc0 := 21) (pc' := 7) rfl (hb hby d1_21) (by decide) (by decide) kz) ?_
  refine goS (n := 8) (Ls' := #[.val (.int (2 : Int32)), .val (.int cc), .val (.ref b1), .val (.int (2 : Int32))]) (st' := [(.int (2 : Int32))]) (fun _ kz => XS.iloadN X7.here hx rfl (hb hby d1_7) rfl kz) ?_
  refine goS (n := 9) (Ls' := #[.val (.int (2 : Int32)), .val (.int cc), .val (.ref b1), .val (.int (2 : Int32))]) (st' := [(.int (2 : Int32)), (.int (2 : Int32))]) (fun _ kz => XS.iloadN X7.here hx rfl (hb hby d1_8) rfl kz) ?_
  refine goS (n := 24) (Ls' := #[.val (.int (2 : Int32)), .val (.int cc), .val (.ref b1), .val (.int (2 : Int32))]) (st' := []) (fun _ kz => XS.icmpYes X7.here hx rfl (pc0 := 9) (pc' := 24) rfl (hb hby d1_9) rfl (by decide) (by decide) (by decide) kz) ?_
  refine goS (n := 25) (Ls' := #[.val (.int (2 : Int32)), .val (.int cc), .val (.ref b1), .val (.int (2 : Int32))]) (st' := [(.ref b1)]) (fun _ kz => XS.aloadN X7.here hx rfl (hb hby d1_24) rfl rfl kz) ?_
  exact goRetA X7 hx hlk Bd.returns rfl rfl (hb hby d1_25) (by decide) (by decide) (by rw [e7]; exact ⟨b1, _, b2, _, b5, _, rfl, N7, KK7, V_b1, V_b2, V_b5, ne_b2_b5⟩)
theorem ef_zeros3 (m : MethodId) (cc : Int32) : entryFrame m #[(.int (3 : Int32)), (.int cc)] 4 = mkF m 0 #[.val (.int (3 : Int32)), .val (.int cc), .unset, .unset] [] := by first | (simp [entryFrame, mkF, argsToLocals, Value.category]; done) | rfl
abbrev R_zeros3 : Room := { frames := 0, cells := 4, slots := 12, locals := 0 }
def Q_zeros3 (Z : State) (cc : Int32) (h0 : Heap) (n0 : Nat) (v : Option Value) (h : Heap) (L : List Loc) : Prop := ∃ (a : Addr) (k : ClassId) (x0 : Addr) (kx0 : ClassId) (x1 : Addr) (kx1 : ClassId) (x2 : Addr) (kx2 : ClassId), v = some (.ref a) ∧ Fr n0 L ∧ Keep h0 h [] ∧ Arv Z h a k (.array .int) (3 : Int32) [(.ref x0), (.ref x1), (.ref x2)] .null ∧ Arv Z h x0 kx0 .int cc [] (.int (0 : Int32)) ∧ Arv Z h x1 kx1 .int cc [] (.int (0 : Int32)) ∧ Arv Z h x2 kx2 .int cc [] (.int (0 : Int32)) ∧ x0 ≠ x1 ∧ x0 ≠ x2 ∧ x1 ≠ x2
set_option maxRecDepth 65536 in
set_option maxHeartbeats 40000000 in
theorem rm_zeros3 (l : Launch) (Z : State) (a0 : Array Value) (hw : ∀ d ∈ tables_1, d.before a0 Z = true) (ws : List Jvm.Cond) (cc : Int32) (h0 : Heap) (n0 : Nat) (O0 : Old Z n0 h0) (hc0 : ¬ cc < 0) (hc3 : cc.toNatClampNeg ≤ 3) :
    MetFree l (⟨"com/example/thingstead/thingstead/mimir/Grids", "zeros", "(II)[[I"⟩ : MethodName) (head1 (Jvm.Cond.code (⟨"com/example/thingstead/thingstead/mimir/Grids", "zeros", "(II)[[I"⟩ : MethodName) prog_7_method_2_code 4 (some (.array (.array .int))) :: ws) R_zeros3) (fun as_ U => as_ = #[(.int (3 : Int32)), (.int cc)] ∧ Z.Warmed39 U.vm ∧ U.heap = h0) (fun _ _ _ _ _ => True) (fun _ U o U' => ∃ v L, o = .returned v ∧ Q_zeros3 Z cc h0 n0 v U'.heap L ∧ FrameEnd U o U' L R_zeros3.cells R_zeros3.slots) := by
  refine MetFree.of_bodySF (plainFor_of_name pn_1) hisR ?_
  intro p e s m args below meth c s₁ Bd hml0 hP hK
  obtain ⟨rfl, hZ, hh⟩ := hP
  have hx := Bd.exec
  have hby := Bd.bytes
  have hml : c.maxLocals = 4 := hml0
  have hown : s.vm.findClass "com/example/thingstead/thingstead/mimir/Grids" = some m.cls := findClass_of_methodNamed Bd.named
  have hnm := (name_of_methodNamed Bd.named Bd.method).1
  have hlk : meth.locks = false := BodyLoose.notSynchronized Bd
  have X0 : Stand p l e R_zeros3 s m #[(.int (3 : Int32)), (.int cc)] below meth c s₁ [] 0 0 := Stand.of_body Bd
  have e0 : s₁.heap = h0 := by rw [← hh, Bd.state]; rfl
  have N0 := Fr.nil n0
  refine enter (P := PQ s R_zeros3.cells R_zeros3.slots (Q_zeros3 Z cc h0 n0)) (ef_zeros3 m cc) ?_
  refine goS (n := 1) (Ls' := #[.val (.int (3 : Int32)), .val (.int cc), .unset, .unset]) (st' := [(.int (3 : Int32))]) (fun _ kz => XS.iloadN X0.here hx rfl (hb hby d1_0) rfl kz) ?_
  obtain ⟨T1, h1, k1, X1, e1, E1, A1, Ex1, O_1, st1⟩ := newRA X0 hx hZ hown (ty := .int) (by decide +kernel) (hw _ (List.mem_of_getElem? (i := 4) rfl)) (hw _ (List.mem_of_getElem? (i := 5) rfl)) e0 (g := (mkF m 1 #[.val (.int (3 : Int32)), .val (.int cc), .unset, .unset] [(.int (3 : Int32))])) rfl (hb hby d1_1) rfl (by decide) (cap := 3) (by decide) (by decide) (by decide) (by decide) (ad := "[[I") (by decide +kernel)
  obtain ⟨b1, g1⟩ : ∃ z, z = h0.size := ⟨_, rfl⟩
  rw [← g1] at A1 st1 Ex1
  have g_b1 : n0 ≤ b1 := Nat.le_trans (O0.1 ▸ O0.2.1) (Nat.le_of_eq g1.symm)
  have z_b1 : h0.size ≤ b1 := Nat.le_trans (Keep.refl h0 []).1 (Nat.le_of_eq g1.symm)
  have E_b1 : Exa Z h1 b1 "[[I" := Ex1
  have V_b1 : Arv Z h1 b1 k1 (.array .int) (3 : Int32) [.null, .null, .null] .null := (Arv.new A1 (by decide)).pad (pad_rep [] .null 3)
  have O1 := O0.ext E1
  have KK1 : Keep h0 h1 [] := (Keep.refl h0 []).ext E1
  refine goS (n := 4) (Ls' := #[.val (.int (3 : Int32)), .val (.int cc), .unset, .unset]) (st' := [(.ref b1)]) st1 ?_
  refine goS (n := 5) (Ls' := #[.val (.int (3 : Int32)), .val (.int cc), .val (.ref b1), .unset]) (st' := []) (fun _ kz => XS.astoreN X1.here hx rfl (hb hby d1_4) rfl rfl (l' := #[.val (.int (3 : Int32)), .val (.int cc), .val (.ref b1), .unset]) rfl kz) ?_
  refine goS (n := 6) (Ls' := #[.val (.int (3 : Int32)), .val (.int cc), .val (.ref b1), .unset]) (st' := [(.int (0 : Int32))]) (fun _ kz => XS.iconst X1.here hx rfl (hb hby d1_5) kz) ?_
  refine goS (n := 7) (Ls' := #[.val (.int (3 : Int32)), .val (.int cc), .val (.ref b1), .val (.int (0 : Int32))]) (st' := []) (fun _ kz => XS.istoreN X1.here hx rfl (hb hby d1_6) rfl (l' := #[.val (.int (3 : Int32)), .val (.int cc), .val (.ref b1), .val (.int (0 : Int32))]) rfl kz) ?_
  refine goS (n := 8) (Ls' := #[.val (.int (3 : Int32)), .val (.int cc), .val (.ref b1), .val (.int (0 : Int32))]) (st' := [(.int (0 : Int32))]) (fun _ kz => XS.iloadN X1.here hx rfl (hb hby d1_7) rfl kz) ?_
  refine goS (n := 9) (Ls' := #[.val (.int (3 : Int32)), .val (.int cc), .val (.ref b1), .val (.int (0 : Int32))]) (st' := [(.int (3 : Int32)), (.int (0 : Int32))]) (fun _ kz => XS.iloadN X1.here hx rfl (hb hby d1_8) rfl kz) ?_
  refine goS (n := 12) (Ls' := #[.val (.int (3 : Int32)), .val (.int cc), .val (.ref b1), .val (.int (0 : Int32))]) (st' := []) (fun _ kz => XS.icmpNo X1.here hx rfl (hb hby d1_9) rfl (by decide) kz) ?_
  refine goS (n := 13) (Ls' := #[.val (.int (3 : Int32)), .val (.int cc), .val (.ref b1), .val (.int (0 : Int32))]) (st' := [(.ref b1)]) (fun _ kz => XS.aloadN X1.here hx rfl (hb hby d1_12) rfl rfl kz) ?_
  refine goS (n := 14) (Ls' := #[.val (.int (3 : Int32)), .val (.int cc), .val (.ref b1), .val (.int (0 : Int32))]) (st' := [(.int (0 : Int32)), (.ref b1)]) (fun _ kz => XS.iloadN X1.here hx rfl (hb hby d1_13) rfl kz) ?_
  refine goS (n := 15) (Ls' := #[.val (.int (3 : Int32)), .val (.int cc), .val (.ref b1), .val (.int (0 : Int32))]) (st' := [(.int cc), (.int (0 : Int32)), (.ref b1)]) (fun _ kz => XS.iloadN X1.here hx rfl (hb hby d1_14) rfl kz) ?_
  obtain ⟨T2, h2, k2, X2, e2, E2, A2, Ex2, st2⟩ := newPE X1 hx hZ (hw _ (List.mem_of_getElem? (i := 13) rfl)) e1 (g := (mkF m 15 #[.val (.int (3 : Int32)), .val (.int cc), .val (.ref b1), .val (.int (0 : Int32))] [(.int cc), (.int (0 : Int32)), (.ref b1)])) rfl (hb hby d1_15) rfl hc0 (cap := 3) hc3 (by decide) (by decide) (by decide) (ad := "[I") (by decide +kernel)
  obtain ⟨b2, g2⟩ : ∃ z, z = h1.size := ⟨_, rfl⟩
  rw [← g2] at A2 st2 Ex2
  have g_b2 : n0 ≤ b2 := Nat.le_trans (O1.1 ▸ O1.2.1) (Nat.le_of_eq g2.symm)
  have z_b2 : h0.size ≤ b2 := Nat.le_trans KK1.1 (Nat.le_of_eq g2.symm)
  have ne_b1_b2 : b1 ≠ b2 := Nat.ne_of_lt (Nat.lt_of_lt_of_le E_b1.lt (Nat.le_of_eq g2.symm))
  have E_b1 : Exa Z h2 b1 "[[I" := E_b1.ext E2
  have V_b1 : Arv Z h2 b1 k1 (.array .int) (3 : Int32) [.null, .null, .null] .null := V_b1.ext E2
  have E_b2 : Exa Z h2 b2 "[I" := Ex2
  have V_b2 : Arv Z h2 b2 k2 .int cc [] (.int (0 : Int32)) := Arv.new A2 hc0
  have O2 := O1.ext E2
  have KK2 : Keep h0 h2 [] := KK1.ext E2
  refine goS (n := 17) (Ls' := #[.val (.int (3 : Int32)), .val (.int cc), .val (.ref b1), .val (.int (0 : Int32))]) (st' := [(.ref b2), (.int (0 : Int32)), (.ref b1)]) st2 ?_
  obtain ⟨cl3, Ar3, q3, S3, Nn3, H3, G3⟩ := V_b1
  have hin3 : ¬ ((0 : Int32) < 0 ∨ cl3.slots.size ≤ ((0 : Int32)).toNatClampNeg) := inb_of S3 ⟨by decide, by decide⟩
  obtain ⟨T4, h4, X4, e4, W4, st4⟩ := stR X2 hx hZ e2 Ar3 (j := (0 : Int32)) hin3 rfl (Sto.ofVA Ar3 q3 O_1 (Ins.self E_b2)) (g := (mkF m 17 #[.val (.int (3 : Int32)), .val (.int cc), .val (.ref b1), .val (.int (0 : Int32))] [(.ref b2), (.int (0 : Int32)), (.ref b1)])) rfl rfl (hb hby d1_17)
  have E_b1 : Exa Z h4 b1 "[[I" := E_b1.wr W4
  have E_b2 : Exa Z h4 b2 "[I" := E_b2.wr W4
  have V_b2 : Arv Z h4 b2 k2 .int cc [] (.int (0 : Int32)) := V_b2.other W4 (Ne.symm ne_b1_b2)
  have V_b1 : Arv Z h4 b1 k1 (.array .int) (3 : Int32) [(.ref b2), .null, .null] .null := Arv.set Ar3 q3 S3 Nn3 H3 G3 rfl W4 0 rfl (Nat.le_of_ble_eq_true rfl)
  have N4 := Fr.snoc X4 N0 g_b1
  have O4 := O2.wr W4 g_b1
  have KK4 : Keep h0 h4 [] := KK2.wr W4 (Or.inr z_b1)
  refine goS (n := 18) (Ls' := #[.val (.int (3 : Int32)), .val (.int cc), .val (.ref b1), .val (.int (0 : Int32))]) (st' := []) st4 ?_
  refine goS (n := 21) (Ls' := #[.val (.int (3 : Int32)), .val (.int cc), .val (.ref b1), .val (.int (1 : Int32))]) (st' := []) (fun _ kz => XS.iinc X4.here hx rfl (hb hby d1_18) rfl (l' := #[.val (.int (3 : Int32)), .val (.int cc), .val (.ref b1), .val (.int (1 : Int32))]) rfl kz) ?_
  refine goS (n := 7) (Ls' := #[.val (.int (3 : Int32)), .val (.int cc), .val (.ref b1), .val (.int (1 : Int32))]) (st' := []) (fun _ kz => XS.goto X4.here hx rfl (pc0 := 21) (pc' := 7) rfl (hb hby d1_21) (by decide) (by decide) kz) ?_
  refine goS (n := 8) (Ls' := #[.val (.int (3 : Int32)), .val (.int cc), .val (.ref b1), .val (.int (1 : Int32))]) (st' := [(.int (1 : Int32))]) (fun _ kz => XS.iloadN X4.here hx rfl (hb hby d1_7) rfl kz) ?_
  refine goS (n := 9) (Ls' := #[.val (.int (3 : Int32)), .val (.int cc), .val (.ref b1), .val (.int (1 : Int32))]) (st' := [(.int (3 : Int32)), (.int (1 : Int32))]) (fun _ kz => XS.iloadN X4.here hx rfl (hb hby d1_8) rfl kz) ?_
  refine goS (n := 12) (Ls' := #[.val (.int (3 : Int32)), .val (.int cc), .val (.ref b1), .val (.int (1 : Int32))]) (st' := []) (fun _ kz => XS.icmpNo X4.here hx rfl (hb hby d1_9) rfl (by decide) kz) ?_
  refine goS (n := 13) (Ls' := #[.val (.int (3 : Int32)), .val (.int cc), .val (.ref b1), .val (.int (1 : Int32))]) (st' := [(.ref b1)]) (fun _ kz => XS.aloadN X4.here hx rfl (hb hby d1_12) rfl rfl kz) ?_
  refine goS (n := 14) (Ls' := #[.val (.int (3 : Int32)), .val (.int cc), .val (.ref b1), .val (.int (1 : Int32))]) (st' := [(.int (1 : Int32)), (.ref b1)]) (fun _ kz => XS.iloadN X4.here hx rfl (hb hby d1_13) rfl kz) ?_
  refine goS (n := 15) (Ls' := #[.val (.int (3 : Int32)), .val (.int cc), .val (.ref b1), .val (.int (1 : Int32))]) (st' := [(.int cc), (.int (1 : Int32)), (.ref b1)]) (fun _ kz => XS.iloadN X4.here hx rfl (hb hby d1_14) rfl kz) ?_
  obtain ⟨T5, h5, k5, X5, e5, E5, A5, Ex5, st5⟩ := newPE X4 hx hZ (hw _ (List.mem_of_getElem? (i := 13) rfl)) e4 (g := (mkF m 15 #[.val (.int (3 : Int32)), .val (.int cc), .val (.ref b1), .val (.int (1 : Int32))] [(.int cc), (.int (1 : Int32)), (.ref b1)])) rfl (hb hby d1_15) rfl hc0 (cap := 3) hc3 (by decide) (by decide) (by decide) (ad := "[I") (by decide +kernel)
  obtain ⟨b5, g5⟩ : ∃ z, z = h4.size := ⟨_, rfl⟩
  rw [← g5] at A5 st5 Ex5
  have g_b5 : n0 ≤ b5 := Nat.le_trans (O4.1 ▸ O4.2.1) (Nat.le_of_eq g5.symm)
  have z_b5 : h0.size ≤ b5 := Nat.le_trans KK4.1 (Nat.le_of_eq g5.symm)
  have ne_b1_b5 : b1 ≠ b5 := Nat.ne_of_lt (Nat.lt_of_lt_of_le E_b1.lt (Nat.le_of_eq g5.symm))
  have ne_b2_b5 : b2 ≠ b5 := Nat.ne_of_lt (Nat.lt_of_lt_of_le E_b2.lt (Nat.le_of_eq g5.symm))
  have E_b1 : Exa Z h5 b1 "[[I" := E_b1.ext E5
  have E_b2 : Exa Z h5 b2 "[I" := E_b2.ext E5
  have V_b2 : Arv Z h5 b2 k2 .int cc [] (.int (0 : Int32)) := V_b2.ext E5
  have V_b1 : Arv Z h5 b1 k1 (.array .int) (3 : Int32) [(.ref b2), .null, .null] .null := V_b1.ext E5
  have E_b5 : Exa Z h5 b5 "[I" := Ex5
  have V_b5 : Arv Z h5 b5 k5 .int cc [] (.int (0 : Int32)) := Arv.new A5 hc0
  have O5 := O4.ext E5
  have KK5 : Keep h0 h5 [] := KK4.ext E5
  refine goS (n := 17) (Ls' := #[.val (.int (3 : Int32)), .val (.int cc), .val (.ref b1), .val (.int (1 : Int32))]) (st' := [(.ref b5), (.int (1 : Int32)), (.ref b1)]) st5 ?_
  obtain ⟨cl6, Ar6, q6, S6, Nn6, H6, G6⟩ := V_b1
  have hin6 : ¬ ((1 : Int32) < 0 ∨ cl6.slots.size ≤ ((1 : Int32)).toNatClampNeg) := inb_of S6 ⟨by decide, by decide⟩
  obtain ⟨T7, h7, X7, e7, W7, st7⟩ := stR X5 hx hZ e5 Ar6 (j := (1 : Int32)) hin6 rfl (Sto.ofVA Ar6 q6 O_1 (Ins.self E_b5)) (g := (mkF m 17 #[.val (.int (3 : Int32)), .val (.int cc), .val (.ref b1), .val (.int (1 : Int32))] [(.ref b5), (.int (1 : Int32)), (.ref b1)])) rfl rfl (hb hby d1_17)
  have E_b1 : Exa Z h7 b1 "[[I" := E_b1.wr W7
  have E_b2 : Exa Z h7 b2 "[I" := E_b2.wr W7
  have V_b2 : Arv Z h7 b2 k2 .int cc [] (.int (0 : Int32)) := V_b2.other W7 (Ne.symm ne_b1_b2)
  have E_b5 : Exa Z h7 b5 "[I" := E_b5.wr W7
  have V_b5 : Arv Z h7 b5 k5 .int cc [] (.int (0 : Int32)) := V_b5.other W7 (Ne.symm ne_b1_b5)
  have V_b1 : Arv Z h7 b1 k1 (.array .int) (3 : Int32) [(.ref b2), (.ref b5), .null] .null := Arv.set Ar6 q6 S6 Nn6 H6 G6 rfl W7 1 rfl (Nat.le_of_ble_eq_true rfl)
  have N7 := Fr.snoc X7 N4 g_b1
  have O7 := O5.wr W7 g_b1
  have KK7 : Keep h0 h7 [] := KK5.wr W7 (Or.inr z_b1)
  refine goS (n := 18) (Ls' := #[.val (.int (3 : Int32)), .val (.int cc), .val (.ref b1), .val (.int (1 : Int32))]) (st' := []) st7 ?_
  refine goS (n := 21) (Ls' := #[.val (.int (3 : Int32)), .val (.int cc), .val (.ref b1), .val (.int (2 : Int32))]) (st' := []) (fun _ kz => XS.iinc X7.here hx rfl (hb hby d1_18) rfl (l' := #[.val (.int (3 : Int32)), .val (.int cc), .val (.ref b1), .val (.int (2 : Int32))]) rfl kz) ?_
  refine goS (n := 7) (Ls' := #[.val (.int (3 : Int32)), .val (.int cc), .val (.ref b1), .val (.int (2 : Int32))]) (st' := []) (fun _ kz => XS.goto X7.here hx rfl (pc0 := 21) (pc' := 7) rfl (hb hby d1_21) (by decide) (by decide) kz) ?_
  refine goS (n := 8) (Ls' := #[.val (.int (3 : Int32)), .val (.int cc), .val (.ref b1), .val (.int (2 : Int32))]) (st' := [(.int (2 : Int32))]) (fun _ kz => XS.iloadN X7.here hx rfl (hb hby d1_7) rfl kz) ?_
  refine goS (n := 9) (Ls' := #[.val (.int (3 : Int32)), .val (.int cc), .val (.ref b1), .val (.int (2 : Int32))]) (st' := [(.int (3 : Int32)), (.int (2 : Int32))]) (fun _ kz => XS.iloadN X7.here hx rfl (hb hby d1_8) rfl kz) ?_
  refine goS (n := 12) (Ls' := #[.val (.int (3 : Int32)), .val (.int cc), .val (.ref b1), .val (.int (2 : Int32))]) (st' := []) (fun _ kz => XS.icmpNo X7.here hx rfl (hb hby d1_9) rfl (by decide) kz) ?_
  refine goS (n := 13) (Ls' := #[.val (.int (3 : Int32)), .val (.int cc), .val (.ref b1), .val (.int (2 : Int32))]) (st' := [(.ref b1)]) (fun _ kz => XS.aloadN X7.here hx rfl (hb hby d1_12) rfl rfl kz) ?_
  refine goS (n := 14) (Ls' := #[.val (.int (3 : Int32)), .val (.int cc), .val (.ref b1), .val (.int (2 : Int32))]) (st' := [(.int (2 : Int32)), (.ref b1)]) (fun _ kz => XS.iloadN X7.here hx rfl (hb hby d1_13) rfl kz) ?_
  refine goS (n := 15) (Ls' := #[.val (.int (3 : Int32)), .val (.int cc), .val (.ref b1), .val (.int (2 : Int32))]) (st' := [(.int cc), (.int (2 : Int32)), (.ref b1)]) (fun _ kz => XS.iloadN X7.here hx rfl (hb hby d1_14) rfl kz) ?_
  obtain ⟨T8, h8, k8, X8, e8, E8, A8, Ex8, st8⟩ := newPE X7 hx hZ (hw _ (List.mem_of_getElem? (i := 13) rfl)) e7 (g := (mkF m 15 #[.val (.int (3 : Int32)), .val (.int cc), .val (.ref b1), .val (.int (2 : Int32))] [(.int cc), (.int (2 : Int32)), (.ref b1)])) rfl (hb hby d1_15) rfl hc0 (cap := 3) hc3 (by decide) (by decide) (by decide) (ad := "[I") (by decide +kernel)
  obtain ⟨b8, g8⟩ : ∃ z, z = h7.size := ⟨_, rfl⟩
  rw [← g8] at A8 st8 Ex8
  have g_b8 : n0 ≤ b8 := Nat.le_trans (O7.1 ▸ O7.2.1) (Nat.le_of_eq g8.symm)
  have z_b8 : h0.size ≤ b8 := Nat.le_trans KK7.1 (Nat.le_of_eq g8.symm)
  have ne_b1_b8 : b1 ≠ b8 := Nat.ne_of_lt (Nat.lt_of_lt_of_le E_b1.lt (Nat.le_of_eq g8.symm))
  have ne_b2_b8 : b2 ≠ b8 := Nat.ne_of_lt (Nat.lt_of_lt_of_le E_b2.lt (Nat.le_of_eq g8.symm))
  have ne_b5_b8 : b5 ≠ b8 := Nat.ne_of_lt (Nat.lt_of_lt_of_le E_b5.lt (Nat.le_of_eq g8.symm))
  have E_b1 : Exa Z h8 b1 "[[I" := E_b1.ext E8
  have E_b2 : Exa Z h8 b2 "[I" := E_b2.ext E8
  have V_b2 : Arv Z h8 b2 k2 .int cc [] (.int (0 : Int32)) := V_b2.ext E8
  have E_b5 : Exa Z h8 b5 "[I" := E_b5.ext E8
  have V_b5 : Arv Z h8 b5 k5 .int cc [] (.int (0 : Int32)) := V_b5.ext E8
  have V_b1 : Arv Z h8 b1 k1 (.array .int) (3 : Int32) [(.ref b2), (.ref b5), .null] .null := V_b1.ext E8
  have E_b8 : Exa Z h8 b8 "[I" := Ex8
  have V_b8 : Arv Z h8 b8 k8 .int cc [] (.int (0 : Int32)) := Arv.new A8 hc0
  have O8 := O7.ext E8
  have KK8 : Keep h0 h8 [] := KK7.ext E8
  refine goS (n := 17) (Ls' := #[.val (.int (3 : Int32)), .val (.int cc), .val (.ref b1), .val (.int (2 : Int32))]) (st' := [(.ref b8), (.int (2 : Int32)), (.ref b1)]) st8 ?_
  obtain ⟨cl9, Ar9, q9, S9, Nn9, H9, G9⟩ := V_b1
  have hin9 : ¬ ((2 : Int32) < 0 ∨ cl9.slots.size ≤ ((2 : Int32)).toNatClampNeg) := inb_of S9 ⟨by decide, by decide⟩
  obtain ⟨T10, h10, X10, e10, W10, st10⟩ := stR X8 hx hZ e8 Ar9 (j := (2 : Int32)) hin9 rfl (Sto.ofVA Ar9 q9 O_1 (Ins.self E_b8)) (g := (mkF m 17 #[.val (.int (3 : Int32)), .val (.int cc), .val (.ref b1), .val (.int (2 : Int32))] [(.ref b8), (.int (2 : Int32)), (.ref b1)])) rfl rfl (hb hby d1_17)
  have E_b1 : Exa Z h10 b1 "[[I" := E_b1.wr W10
  have E_b2 : Exa Z h10 b2 "[I" := E_b2.wr W10
  have V_b2 : Arv Z h10 b2 k2 .int cc [] (.int (0 : Int32)) := V_b2.other W10 (Ne.symm ne_b1_b2)
  have E_b5 : Exa Z h10 b5 "[I" := E_b5.wr W10
  have V_b5 : Arv Z h10 b5 k5 .int cc [] (.int (0 : Int32)) := V_b5.other W10 (Ne.symm ne_b1_b5)
  have E_b8 : Exa Z h10 b8 "[I" := E_b8.wr W10
  have V_b8 : Arv Z h10 b8 k8 .int cc [] (.int (0 : Int32)) := V_b8.other W10 (Ne.symm ne_b1_b8)
  have V_b1 : Arv Z h10 b1 k1 (.array .int) (3 : Int32) [(.ref b2), (.ref b5), (.ref b8)] .null := Arv.set Ar9 q9 S9 Nn9 H9 G9 rfl W10 2 rfl (Nat.le_of_ble_eq_true rfl)
  have N10 := Fr.snoc X10 N7 g_b1
  have O10 := O8.wr W10 g_b1
  have KK10 : Keep h0 h10 [] := KK8.wr W10 (Or.inr z_b1)
  refine goS (n := 18) (Ls' := #[.val (.int (3 : Int32)), .val (.int cc), .val (.ref b1), .val (.int (2 : Int32))]) (st' := []) st10 ?_
  refine goS (n := 21) (Ls' := #[.val (.int (3 : Int32)), .val (.int cc), .val (.ref b1), .val (.int (3 : Int32))]) (st' := []) (fun _ kz => XS.iinc X10.here hx rfl (hb hby d1_18) rfl (l' := #[.val (.int (3 : Int32)), .val (.int cc), .val (.ref b1), .val (.int (3 : Int32))]) rfl kz) ?_
  refine goS (n := 7) (Ls' := #[.val (.int (3 : Int32)), .val (.int cc), .val (.ref b1), .val (.int (3 : Int32))]) (st' := []) (fun _ kz => XS.goto X10.here hx rfl (pc0 := 21) (pc' := 7) rfl (hb hby d1_21) (by decide) (by decide) kz) ?_
  refine goS (n := 8) (Ls' := #[.val (.int (3 : Int32)), .val (.int cc), .val (.ref b1), .val (.int (3 : Int32))]) (st' := [(.int (3 : Int32))]) (fun _ kz => XS.iloadN X10.here hx rfl (hb hby d1_7) rfl kz) ?_
  refine goS (n := 9) (Ls' := #[.val (.int (3 : Int32)), .val (.int cc), .val (.ref b1), .val (.int (3 : Int32))]) (st' := [(.int (3 : Int32)), (.int (3 : Int32))]) (fun _ kz => XS.iloadN X10.here hx rfl (hb hby d1_8) rfl kz) ?_
  refine goS (n := 24) (Ls' := #[.val (.int (3 : Int32)), .val (.int cc), .val (.ref b1), .val (.int (3 : Int32))]) (st' := []) (fun _ kz => XS.icmpYes X10.here hx rfl (pc0 := 9) (pc' := 24) rfl (hb hby d1_9) rfl (by decide) (by decide) (by decide) kz) ?_
  refine goS (n := 25) (Ls' := #[.val (.int (3 : Int32)), .val (.int cc), .val (.ref b1), .val (.int (3 : Int32))]) (st' := [(.ref b1)]) (fun _ kz => XS.aloadN X10.here hx rfl (hb hby d1_24) rfl rfl kz) ?_
  exact goRetA X10 hx hlk Bd.returns rfl rfl (hb hby d1_25) (by decide) (by decide) (by rw [e10]; exact ⟨b1, _, b2, _, b5, _, b8, _, rfl, N10, KK10, V_b1, V_b2, V_b5, V_b8, ne_b2_b5, ne_b2_b8, ne_b5_b8⟩)
theorem pd_1 : parseMethodDescriptor "(II)[[I" = some ⟨[.int, .int], some (.array (.array .int))⟩ := by decide +kernel
theorem pd_2 : parseMethodDescriptor "([[IIII)Z" = some ⟨[(.array (.array .int)), .int, .int, .int], some .boolean⟩ := by decide +kernel
theorem ef_law (m : MethodId) (p1 : Int32) (p2 : Int32) : entryFrame m #[(.int p1), (.int p2)] maxLocals = mkF m 0 #[.val (.int p1), .val (.int p2), .unset, .unset, .unset] [] := by first | (simp [entryFrame, mkF, argsToLocals, Value.category, maxLocals]; done) | rfl
def Q_law (Z : State) (p1 : Int32) (p2 : Int32) (h0 : Heap) (n0 : Nat) (v : Option Value) (h : Heap) (L : List Loc) : Prop := v = some (.int 1) ∧ Fr n0 L
set_option maxRecDepth 65536 in
set_option maxHeartbeats 40000000 in
theorem rm_law (l : Launch) (Z : State) (a0 : Array Value) (hw : ∀ d ∈ tables_1, d.before a0 Z = true) (ws : List Jvm.Cond) (p1 : Int32) (p2 : Int32) (h0 : Heap) (n0 : Nat) (O0 : Old Z n0 h0) :
    MetFree l x (head1 (Jvm.Cond.code x code maxLocals ret :: ws) room_1) (fun as_ U => as_ = #[(.int p1), (.int p2)] ∧ Z.Warmed39 U.vm ∧ U.heap = h0) (fun _ _ _ _ _ => True) (fun _ U o U' => ∃ v L, o = .returned v ∧ Q_law Z p1 p2 h0 n0 v U'.heap L ∧ FrameEnd U o U' L room_1.cells room_1.slots) := by
  refine MetFree.of_bodySF (plainFor_of_name pn_0) hisR ?_
  intro p e s m args below meth c s₁ Bd hml0 hP hK
  obtain ⟨rfl, hZ, hh⟩ := hP
  have hx := Bd.exec
  have hby := Bd.bytes
  have hml : c.maxLocals = 5 := hml0
  have hown : s.vm.findClass "com/example/thingstead/thingstead/mimir/GridsZerosPinLaw" = some m.cls := findClass_of_methodNamed Bd.named
  have hnm := (name_of_methodNamed Bd.named Bd.method).1
  have hlk : meth.locks = false := BodyLoose.notSynchronized Bd
  have X0 : Stand p l e room_1 s m #[(.int p1), (.int p2)] below meth c s₁ [] 0 0 := Stand.of_body Bd
  have e0 : s₁.heap = h0 := by rw [← hh, Bd.state]; rfl
  have N0 := Fr.nil n0
  refine enter (P := PQ s room_1.cells room_1.slots (Q_law Z p1 p2 h0 n0)) (ef_law m p1 p2) ?_
  refine goS (n := 1) (Ls' := #[.val (.int p1), .val (.int p2), .unset, .unset, .unset]) (st' := [(.int p1)]) (fun _ kz => XS.iloadN X0.here hx rfl (hb hby at_0) rfl kz) ?_
  refine goS (n := 2) (Ls' := #[.val (.int p1), .val (.int p2), .unset, .unset, .unset]) (st' := [(.int (3 : Int32)), (.int p1)]) (fun _ kz => XS.iconst X0.here hx rfl (hb hby at_1) kz) ?_
  refine goS (n := 3) (Ls' := #[.val (.int p1), .val (.int p2), .unset, .unset, .unset]) (st' := [(.int (p1 &&& (3 : Int32)))]) (fun _ kz => XS.iand X0.here hx rfl (hb hby at_2) rfl kz) ?_
  refine goS (n := 4) (Ls' := #[.val (.int p1), .val (.int p2), .val (.int (p1 &&& (3 : Int32))), .unset, .unset]) (st' := []) (fun _ kz => XS.istoreN X0.here hx rfl (hb hby at_3) rfl (l' := #[.val (.int p1), .val (.int p2), .val (.int (p1 &&& (3 : Int32))), .unset, .unset]) rfl kz) ?_
  refine goS (n := 5) (Ls' := #[.val (.int p1), .val (.int p2), .val (.int (p1 &&& (3 : Int32))), .unset, .unset]) (st' := [(.int p2)]) (fun _ kz => XS.iloadN X0.here hx rfl (hb hby at_4) rfl kz) ?_
  refine goS (n := 6) (Ls' := #[.val (.int p1), .val (.int p2), .val (.int (p1 &&& (3 : Int32))), .unset, .unset]) (st' := [(.int (3 : Int32)), (.int p2)]) (fun _ kz => XS.iconst X0.here hx rfl (hb hby at_5) kz) ?_
  refine goS (n := 7) (Ls' := #[.val (.int p1), .val (.int p2), .val (.int (p1 &&& (3 : Int32))), .unset, .unset]) (st' := [(.int (p2 &&& (3 : Int32)))]) (fun _ kz => XS.iand X0.here hx rfl (hb hby at_6) rfl kz) ?_
  refine goS (n := 8) (Ls' := #[.val (.int p1), .val (.int p2), .val (.int (p1 &&& (3 : Int32))), .val (.int (p2 &&& (3 : Int32))), .unset]) (st' := []) (fun _ kz => XS.istoreN X0.here hx rfl (hb hby at_7) rfl (l' := #[.val (.int p1), .val (.int p2), .val (.int (p1 &&& (3 : Int32))), .val (.int (p2 &&& (3 : Int32))), .unset]) rfl kz) ?_
  obtain ⟨cc, d_cc⟩ : ∃ i : Int32, i = (p2 &&& (3 : Int32)) := ⟨_, rfl⟩
  rw [← d_cc]
  have hc0 : ¬ cc < 0 := by rcases own_m3 p2 with q | q | q | q <;> rw [d_cc, q] <;> decide
  have hc3 : cc.toNatClampNeg ≤ 3 := by rcases own_m3 p2 with q | q | q | q <;> rw [d_cc, q] <;> decide
  rcases own_m3 p1 with q | q | q | q
  · rw [q]
    refine goS (n := 9) (Ls' := #[.val (.int p1), .val (.int p2), .val (.int (0 : Int32)), .val (.int cc), .unset]) (st' := [(.int (0 : Int32))]) (fun _ kz => XS.iloadN X0.here hx rfl (hb hby at_8) rfl kz) ?_
    refine goS (n := 10) (Ls' := #[.val (.int p1), .val (.int p2), .val (.int (0 : Int32)), .val (.int cc), .unset]) (st' := [(.int cc), (.int (0 : Int32))]) (fun _ kz => XS.iloadN X0.here hx rfl (hb hby at_9) rfl kz) ?_
    obtain ⟨_, _, ⟨T1, L1, k1, n1⟩, -, X1, ⟨Lc1, hQ1, l1, y1, z1⟩, st1⟩ := Jvm.LawKit.callS X0 hx (y := (⟨"com/example/thingstead/thingstead/mimir/Grids", "zeros", "(II)[[I"⟩ : MethodName)) hown (mvT hZ (hw _ (List.mem_of_getElem? (i := 0) rfl))) (mvT hZ (hw _ (List.mem_of_getElem? (i := 1) rfl))) (mvT hZ (hw _ (List.mem_of_getElem? (i := 2) rfl))) (mvT hZ (hw _ (List.mem_of_getElem? (i := 3) rfl))) (by decide) (backOf (W := 0) (rm_zeros0 l Z a0 hw [] cc h0 n0 O0 hc0 hc3) hZ (hw _ (List.mem_of_getElem? (i := 3) rfl)) (hw _ (List.mem_of_getElem? (i := 2) rfl)) (by decide) (by decide)) (g := (mkF m 10 #[.val (.int p1), .val (.int p2), .val (.int (0 : Int32)), .val (.int cc), .unset] [(.int cc), (.int (0 : Int32))])) rfl (by rw [hml]; rfl) (argsL := [(.int (0 : Int32)), (.int cc)]) (rest := []) (lenOf pd_1 rfl) rfl (by show 2 * 0 + _ ≤ _; exact Nat.le_of_eq rfl) (hb hby at_10) (fun _ _ => ⟨rfl, e0, (Nat.le_of_ble_eq_true rfl), (Nat.le_of_ble_eq_true rfl)⟩)
    dsimp only [Pt.U, Pt.locs, Pt.cells, Pt.slots] at X1 l1 y1 z1 st1 hQ1
    subst l1 y1 z1
    obtain ⟨a1, ka1, rfl, N1q, K1, V_a1⟩ := hQ1
    have N1 := Fr.app N0 N1q
    have e1 : T1.heap = T1.heap := rfl
    have O1 := O0.keep K1 all0
    refine goS (n := 13) (Ls' := #[.val (.int p1), .val (.int p2), .val (.int (0 : Int32)), .val (.int cc), .unset]) (st' := [(.ref a1)]) st1 ?_
    refine goS (n := 15) (Ls' := #[.val (.int p1), .val (.int p2), .val (.int (0 : Int32)), .val (.int cc), .val (.ref a1)]) (st' := []) (fun _ kz => XS.astore X1.here hx rfl (hb hby at_13) rfl rfl (l' := #[.val (.int p1), .val (.int p2), .val (.int (0 : Int32)), .val (.int cc), .val (.ref a1)]) rfl kz) ?_
    refine goS (n := 17) (Ls' := #[.val (.int p1), .val (.int p2), .val (.int (0 : Int32)), .val (.int cc), .val (.ref a1)]) (st' := [(.ref a1)]) (fun _ kz => XS.aload X1.here hx rfl (hb hby at_15) rfl rfl kz) ?_
    refine goS (n := 20) (Ls' := #[.val (.int p1), .val (.int p2), .val (.int (0 : Int32)), .val (.int cc), .val (.ref a1)]) (st' := []) (fun _ kz => XS.ifnullNo X1.here hx rfl (hb hby at_17) rfl kz) ?_
    refine goS (n := 22) (Ls' := #[.val (.int p1), .val (.int p2), .val (.int (0 : Int32)), .val (.int cc), .val (.ref a1)]) (st' := [(.ref a1)]) (fun _ kz => XS.aload X1.here hx rfl (hb hby at_20) rfl rfl kz) ?_
    have vv2 := V_a1
    obtain ⟨cl2, Ar2, -, S2, Nn2, -, -⟩ := vv2
    refine goS (n := 23) (Ls' := #[.val (.int p1), .val (.int p2), .val (.int (0 : Int32)), .val (.int cc), .val (.ref a1)]) (st' := [(.int (0 : Int32))]) (fun tz kz => X1.arraylength hx (by rw [e1]; exact Ar2.1) (State.isArrayOf_alike hZ.alike Ar2.2.1) (g := (mkF m 22 #[.val (.int p1), .val (.int p2), .val (.int (0 : Int32)), .val (.int cc), .val (.ref a1)] [(.ref a1)])) rfl rfl (hb hby at_22) tz (by rw [len_of S2 Nn2]; exact kz)) ?_
    refine goS (n := 24) (Ls' := #[.val (.int p1), .val (.int p2), .val (.int (0 : Int32)), .val (.int cc), .val (.ref a1)]) (st' := [(.int (0 : Int32)), (.int (0 : Int32))]) (fun _ kz => XS.iloadN X1.here hx rfl (hb hby at_23) rfl kz) ?_
    refine goS (n := 29) (Ls' := #[.val (.int p1), .val (.int p2), .val (.int (0 : Int32)), .val (.int cc), .val (.ref a1)]) (st' := []) (fun _ kz => XS.icmpYes X1.here hx rfl (pc0 := 24) (pc' := 29) rfl (hb hby at_24) rfl (by decide) (by decide) (by decide) kz) ?_
    refine goS (n := 31) (Ls' := #[.val (.int p1), .val (.int p2), .val (.int (0 : Int32)), .val (.int cc), .val (.ref a1)]) (st' := [(.ref a1)]) (fun _ kz => XS.aload X1.here hx rfl (hb hby at_29) rfl rfl kz) ?_
    refine goS (n := 32) (Ls' := #[.val (.int p1), .val (.int p2), .val (.int (0 : Int32)), .val (.int cc), .val (.ref a1)]) (st' := [(.int (0 : Int32)), (.ref a1)]) (fun _ kz => XS.iconst X1.here hx rfl (hb hby at_31) kz) ?_
    refine goS (n := 33) (Ls' := #[.val (.int p1), .val (.int p2), .val (.int (0 : Int32)), .val (.int cc), .val (.ref a1)]) (st' := [(.int (0 : Int32)), (.int (0 : Int32)), (.ref a1)]) (fun _ kz => XS.iloadN X1.here hx rfl (hb hby at_32) rfl kz) ?_
    refine goS (n := 34) (Ls' := #[.val (.int p1), .val (.int p2), .val (.int (0 : Int32)), .val (.int cc), .val (.ref a1)]) (st' := [(.int cc), (.int (0 : Int32)), (.int (0 : Int32)), (.ref a1)]) (fun _ kz => XS.iloadN X1.here hx rfl (hb hby at_33) rfl kz) ?_
    obtain ⟨_, _, ⟨T3, L3, k3, n3⟩, -, X3, ⟨Lc3, hQ3, l3, y3, z3⟩, st3⟩ := Jvm.LawKit.callS X1 hx (y := (⟨"com/example/thingstead/thingstead/mimir/GridsZerosPinLaw", "rowOk", "([[IIII)Z"⟩ : MethodName)) hown (mvT hZ (hw _ (List.mem_of_getElem? (i := 6) rfl))) (mvT hZ (hw _ (List.mem_of_getElem? (i := 7) rfl))) (mvT hZ (hw _ (List.mem_of_getElem? (i := 8) rfl))) (mvT hZ (hw _ (List.mem_of_getElem? (i := 9) rfl))) (by decide) (backOf (W := 0) (rm_roF l Z a0 hw [] a1 (0 : Int32) (0 : Int32) cc T1.heap n0 O1 (by decide)) hZ (hw _ (List.mem_of_getElem? (i := 9) rfl)) (hw _ (List.mem_of_getElem? (i := 8) rfl)) (by decide) (by decide)) (g := (mkF m 34 #[.val (.int p1), .val (.int p2), .val (.int (0 : Int32)), .val (.int cc), .val (.ref a1)] [(.int cc), (.int (0 : Int32)), (.int (0 : Int32)), (.ref a1)])) rfl (by rw [hml]; rfl) (argsL := [(.ref a1), (.int (0 : Int32)), (.int (0 : Int32)), (.int cc)]) (rest := []) (lenOf pd_2 rfl) rfl (by show 2 * 0 + _ ≤ _; exact Nat.le_of_eq rfl) (hb hby at_34) (fun _ _ => ⟨rfl, e1, (Nat.le_of_ble_eq_true rfl), (Nat.le_of_ble_eq_true rfl)⟩)
    dsimp only [Pt.U, Pt.locs, Pt.cells, Pt.slots] at X3 l3 y3 z3 st3 hQ3
    subst l3 y3 z3
    obtain ⟨rfl, N3q, e3⟩ := hQ3
    have N3 := Fr.app N1 N3q
    refine goS (n := 37) (Ls' := #[.val (.int p1), .val (.int p2), .val (.int (0 : Int32)), .val (.int cc), .val (.ref a1)]) (st' := [(.int (1 : Int32))]) st3 ?_
    refine goS (n := 40) (Ls' := #[.val (.int p1), .val (.int p2), .val (.int (0 : Int32)), .val (.int cc), .val (.ref a1)]) (st' := []) (fun _ kz => XS.ifNo X3.here hx rfl (hb hby at_37) rfl (by decide) kz) ?_
    refine goS (n := 42) (Ls' := #[.val (.int p1), .val (.int p2), .val (.int (0 : Int32)), .val (.int cc), .val (.ref a1)]) (st' := [(.ref a1)]) (fun _ kz => XS.aload X3.here hx rfl (hb hby at_40) rfl rfl kz) ?_
    refine goS (n := 43) (Ls' := #[.val (.int p1), .val (.int p2), .val (.int (0 : Int32)), .val (.int cc), .val (.ref a1)]) (st' := [(.int (1 : Int32)), (.ref a1)]) (fun _ kz => XS.iconst X3.here hx rfl (hb hby at_42) kz) ?_
    refine goS (n := 44) (Ls' := #[.val (.int p1), .val (.int p2), .val (.int (0 : Int32)), .val (.int cc), .val (.ref a1)]) (st' := [(.int (0 : Int32)), (.int (1 : Int32)), (.ref a1)]) (fun _ kz => XS.iloadN X3.here hx rfl (hb hby at_43) rfl kz) ?_
    refine goS (n := 45) (Ls' := #[.val (.int p1), .val (.int p2), .val (.int (0 : Int32)), .val (.int cc), .val (.ref a1)]) (st' := [(.int cc), (.int (0 : Int32)), (.int (1 : Int32)), (.ref a1)]) (fun _ kz => XS.iloadN X3.here hx rfl (hb hby at_44) rfl kz) ?_
    obtain ⟨_, _, ⟨T4, L4, k4, n4⟩, -, X4, ⟨Lc4, hQ4, l4, y4, z4⟩, st4⟩ := Jvm.LawKit.callS X3 hx (y := (⟨"com/example/thingstead/thingstead/mimir/GridsZerosPinLaw", "rowOk", "([[IIII)Z"⟩ : MethodName)) hown (mvT hZ (hw _ (List.mem_of_getElem? (i := 6) rfl))) (mvT hZ (hw _ (List.mem_of_getElem? (i := 7) rfl))) (mvT hZ (hw _ (List.mem_of_getElem? (i := 8) rfl))) (mvT hZ (hw _ (List.mem_of_getElem? (i := 9) rfl))) (by decide) (backOf (W := 0) (rm_roF l Z a0 hw [] a1 (1 : Int32) (0 : Int32) cc T1.heap n0 O1 (by decide)) hZ (hw _ (List.mem_of_getElem? (i := 9) rfl)) (hw _ (List.mem_of_getElem? (i := 8) rfl)) (by decide) (by decide)) (g := (mkF m 45 #[.val (.int p1), .val (.int p2), .val (.int (0 : Int32)), .val (.int cc), .val (.ref a1)] [(.int cc), (.int (0 : Int32)), (.int (1 : Int32)), (.ref a1)])) rfl (by rw [hml]; rfl) (argsL := [(.ref a1), (.int (1 : Int32)), (.int (0 : Int32)), (.int cc)]) (rest := []) (lenOf pd_2 rfl) rfl (by show 2 * 0 + _ ≤ _; exact Nat.le_of_eq rfl) (hb hby at_45) (fun _ _ => ⟨rfl, e3, (Nat.le_of_ble_eq_true rfl), (Nat.le_of_ble_eq_true rfl)⟩)
    dsimp only [Pt.U, Pt.locs, Pt.cells, Pt.slots] at X4 l4 y4 z4 st4 hQ4
    subst l4 y4 z4
    obtain ⟨rfl, N4q, e4⟩ := hQ4
    have N4 := Fr.app N3 N4q
    refine goS (n := 48) (Ls' := #[.val (.int p1), .val (.int p2), .val (.int (0 : Int32)), .val (.int cc), .val (.ref a1)]) (st' := [(.int (1 : Int32))]) st4 ?_
    refine goS (n := 51) (Ls' := #[.val (.int p1), .val (.int p2), .val (.int (0 : Int32)), .val (.int cc), .val (.ref a1)]) (st' := []) (fun _ kz => XS.ifNo X4.here hx rfl (hb hby at_48) rfl (by decide) kz) ?_
    refine goS (n := 53) (Ls' := #[.val (.int p1), .val (.int p2), .val (.int (0 : Int32)), .val (.int cc), .val (.ref a1)]) (st' := [(.ref a1)]) (fun _ kz => XS.aload X4.here hx rfl (hb hby at_51) rfl rfl kz) ?_
    refine goS (n := 54) (Ls' := #[.val (.int p1), .val (.int p2), .val (.int (0 : Int32)), .val (.int cc), .val (.ref a1)]) (st' := [(.int (2 : Int32)), (.ref a1)]) (fun _ kz => XS.iconst X4.here hx rfl (hb hby at_53) kz) ?_
    refine goS (n := 55) (Ls' := #[.val (.int p1), .val (.int p2), .val (.int (0 : Int32)), .val (.int cc), .val (.ref a1)]) (st' := [(.int (0 : Int32)), (.int (2 : Int32)), (.ref a1)]) (fun _ kz => XS.iloadN X4.here hx rfl (hb hby at_54) rfl kz) ?_
    refine goS (n := 56) (Ls' := #[.val (.int p1), .val (.int p2), .val (.int (0 : Int32)), .val (.int cc), .val (.ref a1)]) (st' := [(.int cc), (.int (0 : Int32)), (.int (2 : Int32)), (.ref a1)]) (fun _ kz => XS.iloadN X4.here hx rfl (hb hby at_55) rfl kz) ?_
    obtain ⟨_, _, ⟨T5, L5, k5, n5⟩, -, X5, ⟨Lc5, hQ5, l5, y5, z5⟩, st5⟩ := Jvm.LawKit.callS X4 hx (y := (⟨"com/example/thingstead/thingstead/mimir/GridsZerosPinLaw", "rowOk", "([[IIII)Z"⟩ : MethodName)) hown (mvT hZ (hw _ (List.mem_of_getElem? (i := 6) rfl))) (mvT hZ (hw _ (List.mem_of_getElem? (i := 7) rfl))) (mvT hZ (hw _ (List.mem_of_getElem? (i := 8) rfl))) (mvT hZ (hw _ (List.mem_of_getElem? (i := 9) rfl))) (by decide) (backOf (W := 0) (rm_roF l Z a0 hw [] a1 (2 : Int32) (0 : Int32) cc T1.heap n0 O1 (by decide)) hZ (hw _ (List.mem_of_getElem? (i := 9) rfl)) (hw _ (List.mem_of_getElem? (i := 8) rfl)) (by decide) (by decide)) (g := (mkF m 56 #[.val (.int p1), .val (.int p2), .val (.int (0 : Int32)), .val (.int cc), .val (.ref a1)] [(.int cc), (.int (0 : Int32)), (.int (2 : Int32)), (.ref a1)])) rfl (by rw [hml]; rfl) (argsL := [(.ref a1), (.int (2 : Int32)), (.int (0 : Int32)), (.int cc)]) (rest := []) (lenOf pd_2 rfl) rfl (by show 2 * 0 + _ ≤ _; exact Nat.le_of_eq rfl) (hb hby at_56) (fun _ _ => ⟨rfl, e4, (Nat.le_of_ble_eq_true rfl), (Nat.le_of_ble_eq_true rfl)⟩)
    dsimp only [Pt.U, Pt.locs, Pt.cells, Pt.slots] at X5 l5 y5 z5 st5 hQ5
    subst l5 y5 z5
    obtain ⟨rfl, N5q, e5⟩ := hQ5
    have N5 := Fr.app N4 N5q
    refine goS (n := 59) (Ls' := #[.val (.int p1), .val (.int p2), .val (.int (0 : Int32)), .val (.int cc), .val (.ref a1)]) (st' := [(.int (1 : Int32))]) st5 ?_
    refine goS (n := 62) (Ls' := #[.val (.int p1), .val (.int p2), .val (.int (0 : Int32)), .val (.int cc), .val (.ref a1)]) (st' := []) (fun _ kz => XS.ifNo X5.here hx rfl (hb hby at_59) rfl (by decide) kz) ?_
    refine goS (n := 64) (Ls' := #[.val (.int p1), .val (.int p2), .val (.int (0 : Int32)), .val (.int cc), .val (.ref a1)]) (st' := [(.ref a1)]) (fun _ kz => XS.aload X5.here hx rfl (hb hby at_62) rfl rfl kz) ?_
    refine goS (n := 65) (Ls' := #[.val (.int p1), .val (.int p2), .val (.int (0 : Int32)), .val (.int cc), .val (.ref a1)]) (st' := [(.int (0 : Int32)), (.ref a1)]) (fun _ kz => XS.iconst X5.here hx rfl (hb hby at_64) kz) ?_
    refine goS (n := 66) (Ls' := #[.val (.int p1), .val (.int p2), .val (.int (0 : Int32)), .val (.int cc), .val (.ref a1)]) (st' := [(.int (1 : Int32)), (.int (0 : Int32)), (.ref a1)]) (fun _ kz => XS.iconst X5.here hx rfl (hb hby at_65) kz) ?_
    refine goS (n := 67) (Ls' := #[.val (.int p1), .val (.int p2), .val (.int (0 : Int32)), .val (.int cc), .val (.ref a1)]) (st' := [(.int (0 : Int32)), (.int (1 : Int32)), (.int (0 : Int32)), (.ref a1)]) (fun _ kz => XS.iloadN X5.here hx rfl (hb hby at_66) rfl kz) ?_
    obtain ⟨_, _, ⟨T6, L6, k6, n6⟩, -, X6, ⟨Lc6, hQ6, l6, y6, z6⟩, st6⟩ := Jvm.LawKit.callS X5 hx (y := (⟨"com/example/thingstead/thingstead/mimir/GridsZerosPinLaw", "distinct", "([[IIII)Z"⟩ : MethodName)) hown (mvT hZ (hw _ (List.mem_of_getElem? (i := 10) rfl))) (mvT hZ (hw _ (List.mem_of_getElem? (i := 11) rfl))) (mvT hZ (hw _ (List.mem_of_getElem? (i := 8) rfl))) (mvT hZ (hw _ (List.mem_of_getElem? (i := 12) rfl))) (by decide) (backOf (W := 0) (rm_diF l Z a0 hw [] a1 (0 : Int32) (1 : Int32) (0 : Int32) T1.heap n0 O1 (by decide)) hZ (hw _ (List.mem_of_getElem? (i := 12) rfl)) (hw _ (List.mem_of_getElem? (i := 8) rfl)) (by decide) (by decide)) (g := (mkF m 67 #[.val (.int p1), .val (.int p2), .val (.int (0 : Int32)), .val (.int cc), .val (.ref a1)] [(.int (0 : Int32)), (.int (1 : Int32)), (.int (0 : Int32)), (.ref a1)])) rfl (by rw [hml]; rfl) (argsL := [(.ref a1), (.int (0 : Int32)), (.int (1 : Int32)), (.int (0 : Int32))]) (rest := []) (lenOf pd_2 rfl) rfl (by show 2 * 0 + _ ≤ _; exact Nat.le_of_eq rfl) (hb hby at_67) (fun _ _ => ⟨rfl, e5, (Nat.le_of_ble_eq_true rfl), (Nat.le_of_ble_eq_true rfl)⟩)
    dsimp only [Pt.U, Pt.locs, Pt.cells, Pt.slots] at X6 l6 y6 z6 st6 hQ6
    subst l6 y6 z6
    obtain ⟨rfl, N6q, e6⟩ := hQ6
    have N6 := Fr.app N5 N6q
    refine goS (n := 70) (Ls' := #[.val (.int p1), .val (.int p2), .val (.int (0 : Int32)), .val (.int cc), .val (.ref a1)]) (st' := [(.int (1 : Int32))]) st6 ?_
    refine goS (n := 73) (Ls' := #[.val (.int p1), .val (.int p2), .val (.int (0 : Int32)), .val (.int cc), .val (.ref a1)]) (st' := []) (fun _ kz => XS.ifNo X6.here hx rfl (hb hby at_70) rfl (by decide) kz) ?_
    refine goS (n := 75) (Ls' := #[.val (.int p1), .val (.int p2), .val (.int (0 : Int32)), .val (.int cc), .val (.ref a1)]) (st' := [(.ref a1)]) (fun _ kz => XS.aload X6.here hx rfl (hb hby at_73) rfl rfl kz) ?_
    refine goS (n := 76) (Ls' := #[.val (.int p1), .val (.int p2), .val (.int (0 : Int32)), .val (.int cc), .val (.ref a1)]) (st' := [(.int (0 : Int32)), (.ref a1)]) (fun _ kz => XS.iconst X6.here hx rfl (hb hby at_75) kz) ?_
    refine goS (n := 77) (Ls' := #[.val (.int p1), .val (.int p2), .val (.int (0 : Int32)), .val (.int cc), .val (.ref a1)]) (st' := [(.int (2 : Int32)), (.int (0 : Int32)), (.ref a1)]) (fun _ kz => XS.iconst X6.here hx rfl (hb hby at_76) kz) ?_
    refine goS (n := 78) (Ls' := #[.val (.int p1), .val (.int p2), .val (.int (0 : Int32)), .val (.int cc), .val (.ref a1)]) (st' := [(.int (0 : Int32)), (.int (2 : Int32)), (.int (0 : Int32)), (.ref a1)]) (fun _ kz => XS.iloadN X6.here hx rfl (hb hby at_77) rfl kz) ?_
    obtain ⟨_, _, ⟨T7, L7, k7, n7⟩, -, X7, ⟨Lc7, hQ7, l7, y7, z7⟩, st7⟩ := Jvm.LawKit.callS X6 hx (y := (⟨"com/example/thingstead/thingstead/mimir/GridsZerosPinLaw", "distinct", "([[IIII)Z"⟩ : MethodName)) hown (mvT hZ (hw _ (List.mem_of_getElem? (i := 10) rfl))) (mvT hZ (hw _ (List.mem_of_getElem? (i := 11) rfl))) (mvT hZ (hw _ (List.mem_of_getElem? (i := 8) rfl))) (mvT hZ (hw _ (List.mem_of_getElem? (i := 12) rfl))) (by decide) (backOf (W := 0) (rm_diF l Z a0 hw [] a1 (0 : Int32) (2 : Int32) (0 : Int32) T1.heap n0 O1 (by decide)) hZ (hw _ (List.mem_of_getElem? (i := 12) rfl)) (hw _ (List.mem_of_getElem? (i := 8) rfl)) (by decide) (by decide)) (g := (mkF m 78 #[.val (.int p1), .val (.int p2), .val (.int (0 : Int32)), .val (.int cc), .val (.ref a1)] [(.int (0 : Int32)), (.int (2 : Int32)), (.int (0 : Int32)), (.ref a1)])) rfl (by rw [hml]; rfl) (argsL := [(.ref a1), (.int (0 : Int32)), (.int (2 : Int32)), (.int (0 : Int32))]) (rest := []) (lenOf pd_2 rfl) rfl (by show 2 * 0 + _ ≤ _; exact Nat.le_of_eq rfl) (hb hby at_78) (fun _ _ => ⟨rfl, e6, (Nat.le_of_ble_eq_true rfl), (Nat.le_of_ble_eq_true rfl)⟩)
    dsimp only [Pt.U, Pt.locs, Pt.cells, Pt.slots] at X7 l7 y7 z7 st7 hQ7
    subst l7 y7 z7
    obtain ⟨rfl, N7q, e7⟩ := hQ7
    have N7 := Fr.app N6 N7q
    refine goS (n := 81) (Ls' := #[.val (.int p1), .val (.int p2), .val (.int (0 : Int32)), .val (.int cc), .val (.ref a1)]) (st' := [(.int (1 : Int32))]) st7 ?_
    refine goS (n := 84) (Ls' := #[.val (.int p1), .val (.int p2), .val (.int (0 : Int32)), .val (.int cc), .val (.ref a1)]) (st' := []) (fun _ kz => XS.ifNo X7.here hx rfl (hb hby at_81) rfl (by decide) kz) ?_
    refine goS (n := 86) (Ls' := #[.val (.int p1), .val (.int p2), .val (.int (0 : Int32)), .val (.int cc), .val (.ref a1)]) (st' := [(.ref a1)]) (fun _ kz => XS.aload X7.here hx rfl (hb hby at_84) rfl rfl kz) ?_
    refine goS (n := 87) (Ls' := #[.val (.int p1), .val (.int p2), .val (.int (0 : Int32)), .val (.int cc), .val (.ref a1)]) (st' := [(.int (1 : Int32)), (.ref a1)]) (fun _ kz => XS.iconst X7.here hx rfl (hb hby at_86) kz) ?_
    refine goS (n := 88) (Ls' := #[.val (.int p1), .val (.int p2), .val (.int (0 : Int32)), .val (.int cc), .val (.ref a1)]) (st' := [(.int (2 : Int32)), (.int (1 : Int32)), (.ref a1)]) (fun _ kz => XS.iconst X7.here hx rfl (hb hby at_87) kz) ?_
    refine goS (n := 89) (Ls' := #[.val (.int p1), .val (.int p2), .val (.int (0 : Int32)), .val (.int cc), .val (.ref a1)]) (st' := [(.int (0 : Int32)), (.int (2 : Int32)), (.int (1 : Int32)), (.ref a1)]) (fun _ kz => XS.iloadN X7.here hx rfl (hb hby at_88) rfl kz) ?_
    obtain ⟨_, _, ⟨T8, L8, k8, n8⟩, -, X8, ⟨Lc8, hQ8, l8, y8, z8⟩, st8⟩ := Jvm.LawKit.callS X7 hx (y := (⟨"com/example/thingstead/thingstead/mimir/GridsZerosPinLaw", "distinct", "([[IIII)Z"⟩ : MethodName)) hown (mvT hZ (hw _ (List.mem_of_getElem? (i := 10) rfl))) (mvT hZ (hw _ (List.mem_of_getElem? (i := 11) rfl))) (mvT hZ (hw _ (List.mem_of_getElem? (i := 8) rfl))) (mvT hZ (hw _ (List.mem_of_getElem? (i := 12) rfl))) (by decide) (backOf (W := 0) (rm_diF l Z a0 hw [] a1 (1 : Int32) (2 : Int32) (0 : Int32) T1.heap n0 O1 (by decide)) hZ (hw _ (List.mem_of_getElem? (i := 12) rfl)) (hw _ (List.mem_of_getElem? (i := 8) rfl)) (by decide) (by decide)) (g := (mkF m 89 #[.val (.int p1), .val (.int p2), .val (.int (0 : Int32)), .val (.int cc), .val (.ref a1)] [(.int (0 : Int32)), (.int (2 : Int32)), (.int (1 : Int32)), (.ref a1)])) rfl (by rw [hml]; rfl) (argsL := [(.ref a1), (.int (1 : Int32)), (.int (2 : Int32)), (.int (0 : Int32))]) (rest := []) (lenOf pd_2 rfl) rfl (by show 2 * 0 + _ ≤ _; exact Nat.le_of_eq rfl) (hb hby at_89) (fun _ _ => ⟨rfl, e7, (Nat.le_of_ble_eq_true rfl), (Nat.le_of_ble_eq_true rfl)⟩)
    dsimp only [Pt.U, Pt.locs, Pt.cells, Pt.slots] at X8 l8 y8 z8 st8 hQ8
    subst l8 y8 z8
    obtain ⟨rfl, N8q, e8⟩ := hQ8
    have N8 := Fr.app N7 N8q
    refine goS (n := 92) (Ls' := #[.val (.int p1), .val (.int p2), .val (.int (0 : Int32)), .val (.int cc), .val (.ref a1)]) (st' := [(.int (1 : Int32))]) st8 ?_
    refine goS (n := 95) (Ls' := #[.val (.int p1), .val (.int p2), .val (.int (0 : Int32)), .val (.int cc), .val (.ref a1)]) (st' := []) (fun _ kz => XS.ifNo X8.here hx rfl (hb hby at_92) rfl (by decide) kz) ?_
    refine goS (n := 96) (Ls' := #[.val (.int p1), .val (.int p2), .val (.int (0 : Int32)), .val (.int cc), .val (.ref a1)]) (st' := [(.int (1 : Int32))]) (fun _ kz => XS.iconst X8.here hx rfl (hb hby at_95) kz) ?_
    refine goS (n := 100) (Ls' := #[.val (.int p1), .val (.int p2), .val (.int (0 : Int32)), .val (.int cc), .val (.ref a1)]) (st' := [(.int (1 : Int32))]) (fun _ kz => XS.goto X8.here hx rfl (pc0 := 96) (pc' := 100) rfl (hb hby at_96) (by decide) (by decide) kz) ?_
    exact goRetZ X8 hx hlk Bd.returns (Or.inr rfl) (hb hby at_100) (by decide) (by decide) (by rw [e8]; exact ⟨rfl, N8⟩)
  · rw [q]
    refine goS (n := 9) (Ls' := #[.val (.int p1), .val (.int p2), .val (.int (1 : Int32)), .val (.int cc), .unset]) (st' := [(.int (1 : Int32))]) (fun _ kz => XS.iloadN X0.here hx rfl (hb hby at_8) rfl kz) ?_
    refine goS (n := 10) (Ls' := #[.val (.int p1), .val (.int p2), .val (.int (1 : Int32)), .val (.int cc), .unset]) (st' := [(.int cc), (.int (1 : Int32))]) (fun _ kz => XS.iloadN X0.here hx rfl (hb hby at_9) rfl kz) ?_
    obtain ⟨_, _, ⟨T9, L9, k9, n9⟩, -, X9, ⟨Lc9, hQ9, l9, y9, z9⟩, st9⟩ := Jvm.LawKit.callS X0 hx (y := (⟨"com/example/thingstead/thingstead/mimir/Grids", "zeros", "(II)[[I"⟩ : MethodName)) hown (mvT hZ (hw _ (List.mem_of_getElem? (i := 0) rfl))) (mvT hZ (hw _ (List.mem_of_getElem? (i := 1) rfl))) (mvT hZ (hw _ (List.mem_of_getElem? (i := 2) rfl))) (mvT hZ (hw _ (List.mem_of_getElem? (i := 3) rfl))) (by decide) (backOf (W := 0) (rm_zeros1 l Z a0 hw [] cc h0 n0 O0 hc0 hc3) hZ (hw _ (List.mem_of_getElem? (i := 3) rfl)) (hw _ (List.mem_of_getElem? (i := 2) rfl)) (by decide) (by decide)) (g := (mkF m 10 #[.val (.int p1), .val (.int p2), .val (.int (1 : Int32)), .val (.int cc), .unset] [(.int cc), (.int (1 : Int32))])) rfl (by rw [hml]; rfl) (argsL := [(.int (1 : Int32)), (.int cc)]) (rest := []) (lenOf pd_1 rfl) rfl (by show 2 * 0 + _ ≤ _; exact Nat.le_of_eq rfl) (hb hby at_10) (fun _ _ => ⟨rfl, e0, (Nat.le_of_ble_eq_true rfl), (Nat.le_of_ble_eq_true rfl)⟩)
    dsimp only [Pt.U, Pt.locs, Pt.cells, Pt.slots] at X9 l9 y9 z9 st9 hQ9
    subst l9 y9 z9
    obtain ⟨a9, ka9, x9_0, kx9_0, rfl, N9q, K9, V_a9, V_x9_0⟩ := hQ9
    have N9 := Fr.app N0 N9q
    have e9 : T9.heap = T9.heap := rfl
    have O9 := O0.keep K9 all0
    refine goS (n := 13) (Ls' := #[.val (.int p1), .val (.int p2), .val (.int (1 : Int32)), .val (.int cc), .unset]) (st' := [(.ref a9)]) st9 ?_
    refine goS (n := 15) (Ls' := #[.val (.int p1), .val (.int p2), .val (.int (1 : Int32)), .val (.int cc), .val (.ref a9)]) (st' := []) (fun _ kz => XS.astore X9.here hx rfl (hb hby at_13) rfl rfl (l' := #[.val (.int p1), .val (.int p2), .val (.int (1 : Int32)), .val (.int cc), .val (.ref a9)]) rfl kz) ?_
    refine goS (n := 17) (Ls' := #[.val (.int p1), .val (.int p2), .val (.int (1 : Int32)), .val (.int cc), .val (.ref a9)]) (st' := [(.ref a9)]) (fun _ kz => XS.aload X9.here hx rfl (hb hby at_15) rfl rfl kz) ?_
    refine goS (n := 20) (Ls' := #[.val (.int p1), .val (.int p2), .val (.int (1 : Int32)), .val (.int cc), .val (.ref a9)]) (st' := []) (fun _ kz => XS.ifnullNo X9.here hx rfl (hb hby at_17) rfl kz) ?_
    refine goS (n := 22) (Ls' := #[.val (.int p1), .val (.int p2), .val (.int (1 : Int32)), .val (.int cc), .val (.ref a9)]) (st' := [(.ref a9)]) (fun _ kz => XS.aload X9.here hx rfl (hb hby at_20) rfl rfl kz) ?_
    have vv10 := V_a9
    obtain ⟨cl10, Ar10, -, S10, Nn10, -, -⟩ := vv10
    refine goS (n := 23) (Ls' := #[.val (.int p1), .val (.int p2), .val (.int (1 : Int32)), .val (.int cc), .val (.ref a9)]) (st' := [(.int (1 : Int32))]) (fun tz kz => X9.arraylength hx (by rw [e9]; exact Ar10.1) (State.isArrayOf_alike hZ.alike Ar10.2.1) (g := (mkF m 22 #[.val (.int p1), .val (.int p2), .val (.int (1 : Int32)), .val (.int cc), .val (.ref a9)] [(.ref a9)])) rfl rfl (hb hby at_22) tz (by rw [len_of S10 Nn10]; exact kz)) ?_
    refine goS (n := 24) (Ls' := #[.val (.int p1), .val (.int p2), .val (.int (1 : Int32)), .val (.int cc), .val (.ref a9)]) (st' := [(.int (1 : Int32)), (.int (1 : Int32))]) (fun _ kz => XS.iloadN X9.here hx rfl (hb hby at_23) rfl kz) ?_
    refine goS (n := 29) (Ls' := #[.val (.int p1), .val (.int p2), .val (.int (1 : Int32)), .val (.int cc), .val (.ref a9)]) (st' := []) (fun _ kz => XS.icmpYes X9.here hx rfl (pc0 := 24) (pc' := 29) rfl (hb hby at_24) rfl (by decide) (by decide) (by decide) kz) ?_
    refine goS (n := 31) (Ls' := #[.val (.int p1), .val (.int p2), .val (.int (1 : Int32)), .val (.int cc), .val (.ref a9)]) (st' := [(.ref a9)]) (fun _ kz => XS.aload X9.here hx rfl (hb hby at_29) rfl rfl kz) ?_
    refine goS (n := 32) (Ls' := #[.val (.int p1), .val (.int p2), .val (.int (1 : Int32)), .val (.int cc), .val (.ref a9)]) (st' := [(.int (0 : Int32)), (.ref a9)]) (fun _ kz => XS.iconst X9.here hx rfl (hb hby at_31) kz) ?_
    refine goS (n := 33) (Ls' := #[.val (.int p1), .val (.int p2), .val (.int (1 : Int32)), .val (.int cc), .val (.ref a9)]) (st' := [(.int (1 : Int32)), (.int (0 : Int32)), (.ref a9)]) (fun _ kz => XS.iloadN X9.here hx rfl (hb hby at_32) rfl kz) ?_
    refine goS (n := 34) (Ls' := #[.val (.int p1), .val (.int p2), .val (.int (1 : Int32)), .val (.int cc), .val (.ref a9)]) (st' := [(.int cc), (.int (1 : Int32)), (.int (0 : Int32)), (.ref a9)]) (fun _ kz => XS.iloadN X9.here hx rfl (hb hby at_33) rfl kz) ?_
    obtain ⟨_, _, ⟨T11, L11, k11, n11⟩, -, X11, ⟨Lc11, hQ11, l11, y11, z11⟩, st11⟩ := Jvm.LawKit.callS X9 hx (y := (⟨"com/example/thingstead/thingstead/mimir/GridsZerosPinLaw", "rowOk", "([[IIII)Z"⟩ : MethodName)) hown (mvT hZ (hw _ (List.mem_of_getElem? (i := 6) rfl))) (mvT hZ (hw _ (List.mem_of_getElem? (i := 7) rfl))) (mvT hZ (hw _ (List.mem_of_getElem? (i := 8) rfl))) (mvT hZ (hw _ (List.mem_of_getElem? (i := 9) rfl))) (by decide) (backOf (W := 0) (rm_roT l Z a0 hw [] a9 ka9 (0 : Int32) (1 : Int32) [(.ref x9_0)] x9_0 kx9_0 cc T9.heap n0 O9 V_a9 V_x9_0 (by decide) (by decide) rfl) hZ (hw _ (List.mem_of_getElem? (i := 9) rfl)) (hw _ (List.mem_of_getElem? (i := 8) rfl)) (by decide) (by decide)) (g := (mkF m 34 #[.val (.int p1), .val (.int p2), .val (.int (1 : Int32)), .val (.int cc), .val (.ref a9)] [(.int cc), (.int (1 : Int32)), (.int (0 : Int32)), (.ref a9)])) rfl (by rw [hml]; rfl) (argsL := [(.ref a9), (.int (0 : Int32)), (.int (1 : Int32)), (.int cc)]) (rest := []) (lenOf pd_2 rfl) rfl (by show 2 * 0 + _ ≤ _; exact Nat.le_of_eq rfl) (hb hby at_34) (fun _ _ => ⟨rfl, e9, (Nat.le_of_ble_eq_true rfl), (Nat.le_of_ble_eq_true rfl)⟩)
    dsimp only [Pt.U, Pt.locs, Pt.cells, Pt.slots] at X11 l11 y11 z11 st11 hQ11
    subst l11 y11 z11
    obtain ⟨rfl, N11q, e11⟩ := hQ11
    have N11 := Fr.app N9 N11q
    refine goS (n := 37) (Ls' := #[.val (.int p1), .val (.int p2), .val (.int (1 : Int32)), .val (.int cc), .val (.ref a9)]) (st' := [(.int (1 : Int32))]) st11 ?_
    refine goS (n := 40) (Ls' := #[.val (.int p1), .val (.int p2), .val (.int (1 : Int32)), .val (.int cc), .val (.ref a9)]) (st' := []) (fun _ kz => XS.ifNo X11.here hx rfl (hb hby at_37) rfl (by decide) kz) ?_
    refine goS (n := 42) (Ls' := #[.val (.int p1), .val (.int p2), .val (.int (1 : Int32)), .val (.int cc), .val (.ref a9)]) (st' := [(.ref a9)]) (fun _ kz => XS.aload X11.here hx rfl (hb hby at_40) rfl rfl kz) ?_
    refine goS (n := 43) (Ls' := #[.val (.int p1), .val (.int p2), .val (.int (1 : Int32)), .val (.int cc), .val (.ref a9)]) (st' := [(.int (1 : Int32)), (.ref a9)]) (fun _ kz => XS.iconst X11.here hx rfl (hb hby at_42) kz) ?_
    refine goS (n := 44) (Ls' := #[.val (.int p1), .val (.int p2), .val (.int (1 : Int32)), .val (.int cc), .val (.ref a9)]) (st' := [(.int (1 : Int32)), (.int (1 : Int32)), (.ref a9)]) (fun _ kz => XS.iloadN X11.here hx rfl (hb hby at_43) rfl kz) ?_
    refine goS (n := 45) (Ls' := #[.val (.int p1), .val (.int p2), .val (.int (1 : Int32)), .val (.int cc), .val (.ref a9)]) (st' := [(.int cc), (.int (1 : Int32)), (.int (1 : Int32)), (.ref a9)]) (fun _ kz => XS.iloadN X11.here hx rfl (hb hby at_44) rfl kz) ?_
    obtain ⟨_, _, ⟨T12, L12, k12, n12⟩, -, X12, ⟨Lc12, hQ12, l12, y12, z12⟩, st12⟩ := Jvm.LawKit.callS X11 hx (y := (⟨"com/example/thingstead/thingstead/mimir/GridsZerosPinLaw", "rowOk", "([[IIII)Z"⟩ : MethodName)) hown (mvT hZ (hw _ (List.mem_of_getElem? (i := 6) rfl))) (mvT hZ (hw _ (List.mem_of_getElem? (i := 7) rfl))) (mvT hZ (hw _ (List.mem_of_getElem? (i := 8) rfl))) (mvT hZ (hw _ (List.mem_of_getElem? (i := 9) rfl))) (by decide) (backOf (W := 0) (rm_roF l Z a0 hw [] a9 (1 : Int32) (1 : Int32) cc T9.heap n0 O9 (by decide)) hZ (hw _ (List.mem_of_getElem? (i := 9) rfl)) (hw _ (List.mem_of_getElem? (i := 8) rfl)) (by decide) (by decide)) (g := (mkF m 45 #[.val (.int p1), .val (.int p2), .val (.int (1 : Int32)), .val (.int cc), .val (.ref a9)] [(.int cc), (.int (1 : Int32)), (.int (1 : Int32)), (.ref a9)])) rfl (by rw [hml]; rfl) (argsL := [(.ref a9), (.int (1 : Int32)), (.int (1 : Int32)), (.int cc)]) (rest := []) (lenOf pd_2 rfl) rfl (by show 2 * 0 + _ ≤ _; exact Nat.le_of_eq rfl) (hb hby at_45) (fun _ _ => ⟨rfl, e11, (Nat.le_of_ble_eq_true rfl), (Nat.le_of_ble_eq_true rfl)⟩)
    dsimp only [Pt.U, Pt.locs, Pt.cells, Pt.slots] at X12 l12 y12 z12 st12 hQ12
    subst l12 y12 z12
    obtain ⟨rfl, N12q, e12⟩ := hQ12
    have N12 := Fr.app N11 N12q
    refine goS (n := 48) (Ls' := #[.val (.int p1), .val (.int p2), .val (.int (1 : Int32)), .val (.int cc), .val (.ref a9)]) (st' := [(.int (1 : Int32))]) st12 ?_
    refine goS (n := 51) (Ls' := #[.val (.int p1), .val (.int p2), .val (.int (1 : Int32)), .val (.int cc), .val (.ref a9)]) (st' := []) (fun _ kz => XS.ifNo X12.here hx rfl (hb hby at_48) rfl (by decide) kz) ?_
    refine goS (n := 53) (Ls' := #[.val (.int p1), .val (.int p2), .val (.int (1 : Int32)), .val (.int cc), .val (.ref a9)]) (st' := [(.ref a9)]) (fun _ kz => XS.aload X12.here hx rfl (hb hby at_51) rfl rfl kz) ?_
    refine goS (n := 54) (Ls' := #[.val (.int p1), .val (.int p2), .val (.int (1 : Int32)), .val (.int cc), .val (.ref a9)]) (st' := [(.int (2 : Int32)), (.ref a9)]) (fun _ kz => XS.iconst X12.here hx rfl (hb hby at_53) kz) ?_
    refine goS (n := 55) (Ls' := #[.val (.int p1), .val (.int p2), .val (.int (1 : Int32)), .val (.int cc), .val (.ref a9)]) (st' := [(.int (1 : Int32)), (.int (2 : Int32)), (.ref a9)]) (fun _ kz => XS.iloadN X12.here hx rfl (hb hby at_54) rfl kz) ?_
    refine goS (n := 56) (Ls' := #[.val (.int p1), .val (.int p2), .val (.int (1 : Int32)), .val (.int cc), .val (.ref a9)]) (st' := [(.int cc), (.int (1 : Int32)), (.int (2 : Int32)), (.ref a9)]) (fun _ kz => XS.iloadN X12.here hx rfl (hb hby at_55) rfl kz) ?_
    obtain ⟨_, _, ⟨T13, L13, k13, n13⟩, -, X13, ⟨Lc13, hQ13, l13, y13, z13⟩, st13⟩ := Jvm.LawKit.callS X12 hx (y := (⟨"com/example/thingstead/thingstead/mimir/GridsZerosPinLaw", "rowOk", "([[IIII)Z"⟩ : MethodName)) hown (mvT hZ (hw _ (List.mem_of_getElem? (i := 6) rfl))) (mvT hZ (hw _ (List.mem_of_getElem? (i := 7) rfl))) (mvT hZ (hw _ (List.mem_of_getElem? (i := 8) rfl))) (mvT hZ (hw _ (List.mem_of_getElem? (i := 9) rfl))) (by decide) (backOf (W := 0) (rm_roF l Z a0 hw [] a9 (2 : Int32) (1 : Int32) cc T9.heap n0 O9 (by decide)) hZ (hw _ (List.mem_of_getElem? (i := 9) rfl)) (hw _ (List.mem_of_getElem? (i := 8) rfl)) (by decide) (by decide)) (g := (mkF m 56 #[.val (.int p1), .val (.int p2), .val (.int (1 : Int32)), .val (.int cc), .val (.ref a9)] [(.int cc), (.int (1 : Int32)), (.int (2 : Int32)), (.ref a9)])) rfl (by rw [hml]; rfl) (argsL := [(.ref a9), (.int (2 : Int32)), (.int (1 : Int32)), (.int cc)]) (rest := []) (lenOf pd_2 rfl) rfl (by show 2 * 0 + _ ≤ _; exact Nat.le_of_eq rfl) (hb hby at_56) (fun _ _ => ⟨rfl, e12, (Nat.le_of_ble_eq_true rfl), (Nat.le_of_ble_eq_true rfl)⟩)
    dsimp only [Pt.U, Pt.locs, Pt.cells, Pt.slots] at X13 l13 y13 z13 st13 hQ13
    subst l13 y13 z13
    obtain ⟨rfl, N13q, e13⟩ := hQ13
    have N13 := Fr.app N12 N13q
    refine goS (n := 59) (Ls' := #[.val (.int p1), .val (.int p2), .val (.int (1 : Int32)), .val (.int cc), .val (.ref a9)]) (st' := [(.int (1 : Int32))]) st13 ?_
    refine goS (n := 62) (Ls' := #[.val (.int p1), .val (.int p2), .val (.int (1 : Int32)), .val (.int cc), .val (.ref a9)]) (st' := []) (fun _ kz => XS.ifNo X13.here hx rfl (hb hby at_59) rfl (by decide) kz) ?_
    refine goS (n := 64) (Ls' := #[.val (.int p1), .val (.int p2), .val (.int (1 : Int32)), .val (.int cc), .val (.ref a9)]) (st' := [(.ref a9)]) (fun _ kz => XS.aload X13.here hx rfl (hb hby at_62) rfl rfl kz) ?_
    refine goS (n := 65) (Ls' := #[.val (.int p1), .val (.int p2), .val (.int (1 : Int32)), .val (.int cc), .val (.ref a9)]) (st' := [(.int (0 : Int32)), (.ref a9)]) (fun _ kz => XS.iconst X13.here hx rfl (hb hby at_64) kz) ?_
    refine goS (n := 66) (Ls' := #[.val (.int p1), .val (.int p2), .val (.int (1 : Int32)), .val (.int cc), .val (.ref a9)]) (st' := [(.int (1 : Int32)), (.int (0 : Int32)), (.ref a9)]) (fun _ kz => XS.iconst X13.here hx rfl (hb hby at_65) kz) ?_
    refine goS (n := 67) (Ls' := #[.val (.int p1), .val (.int p2), .val (.int (1 : Int32)), .val (.int cc), .val (.ref a9)]) (st' := [(.int (1 : Int32)), (.int (1 : Int32)), (.int (0 : Int32)), (.ref a9)]) (fun _ kz => XS.iloadN X13.here hx rfl (hb hby at_66) rfl kz) ?_
    obtain ⟨_, _, ⟨T14, L14, k14, n14⟩, -, X14, ⟨Lc14, hQ14, l14, y14, z14⟩, st14⟩ := Jvm.LawKit.callS X13 hx (y := (⟨"com/example/thingstead/thingstead/mimir/GridsZerosPinLaw", "distinct", "([[IIII)Z"⟩ : MethodName)) hown (mvT hZ (hw _ (List.mem_of_getElem? (i := 10) rfl))) (mvT hZ (hw _ (List.mem_of_getElem? (i := 11) rfl))) (mvT hZ (hw _ (List.mem_of_getElem? (i := 8) rfl))) (mvT hZ (hw _ (List.mem_of_getElem? (i := 12) rfl))) (by decide) (backOf (W := 0) (rm_diF l Z a0 hw [] a9 (0 : Int32) (1 : Int32) (1 : Int32) T9.heap n0 O9 (by decide)) hZ (hw _ (List.mem_of_getElem? (i := 12) rfl)) (hw _ (List.mem_of_getElem? (i := 8) rfl)) (by decide) (by decide)) (g := (mkF m 67 #[.val (.int p1), .val (.int p2), .val (.int (1 : Int32)), .val (.int cc), .val (.ref a9)] [(.int (1 : Int32)), (.int (1 : Int32)), (.int (0 : Int32)), (.ref a9)])) rfl (by rw [hml]; rfl) (argsL := [(.ref a9), (.int (0 : Int32)), (.int (1 : Int32)), (.int (1 : Int32))]) (rest := []) (lenOf pd_2 rfl) rfl (by show 2 * 0 + _ ≤ _; exact Nat.le_of_eq rfl) (hb hby at_67) (fun _ _ => ⟨rfl, e13, (Nat.le_of_ble_eq_true rfl), (Nat.le_of_ble_eq_true rfl)⟩)
    dsimp only [Pt.U, Pt.locs, Pt.cells, Pt.slots] at X14 l14 y14 z14 st14 hQ14
    subst l14 y14 z14
    obtain ⟨rfl, N14q, e14⟩ := hQ14
    have N14 := Fr.app N13 N14q
    refine goS (n := 70) (Ls' := #[.val (.int p1), .val (.int p2), .val (.int (1 : Int32)), .val (.int cc), .val (.ref a9)]) (st' := [(.int (1 : Int32))]) st14 ?_
    refine goS (n := 73) (Ls' := #[.val (.int p1), .val (.int p2), .val (.int (1 : Int32)), .val (.int cc), .val (.ref a9)]) (st' := []) (fun _ kz => XS.ifNo X14.here hx rfl (hb hby at_70) rfl (by decide) kz) ?_
    refine goS (n := 75) (Ls' := #[.val (.int p1), .val (.int p2), .val (.int (1 : Int32)), .val (.int cc), .val (.ref a9)]) (st' := [(.ref a9)]) (fun _ kz => XS.aload X14.here hx rfl (hb hby at_73) rfl rfl kz) ?_
    refine goS (n := 76) (Ls' := #[.val (.int p1), .val (.int p2), .val (.int (1 : Int32)), .val (.int cc), .val (.ref a9)]) (st' := [(.int (0 : Int32)), (.ref a9)]) (fun _ kz => XS.iconst X14.here hx rfl (hb hby at_75) kz) ?_
    refine goS (n := 77) (Ls' := #[.val (.int p1), .val (.int p2), .val (.int (1 : Int32)), .val (.int cc), .val (.ref a9)]) (st' := [(.int (2 : Int32)), (.int (0 : Int32)), (.ref a9)]) (fun _ kz => XS.iconst X14.here hx rfl (hb hby at_76) kz) ?_
    refine goS (n := 78) (Ls' := #[.val (.int p1), .val (.int p2), .val (.int (1 : Int32)), .val (.int cc), .val (.ref a9)]) (st' := [(.int (1 : Int32)), (.int (2 : Int32)), (.int (0 : Int32)), (.ref a9)]) (fun _ kz => XS.iloadN X14.here hx rfl (hb hby at_77) rfl kz) ?_
    obtain ⟨_, _, ⟨T15, L15, k15, n15⟩, -, X15, ⟨Lc15, hQ15, l15, y15, z15⟩, st15⟩ := Jvm.LawKit.callS X14 hx (y := (⟨"com/example/thingstead/thingstead/mimir/GridsZerosPinLaw", "distinct", "([[IIII)Z"⟩ : MethodName)) hown (mvT hZ (hw _ (List.mem_of_getElem? (i := 10) rfl))) (mvT hZ (hw _ (List.mem_of_getElem? (i := 11) rfl))) (mvT hZ (hw _ (List.mem_of_getElem? (i := 8) rfl))) (mvT hZ (hw _ (List.mem_of_getElem? (i := 12) rfl))) (by decide) (backOf (W := 0) (rm_diF l Z a0 hw [] a9 (0 : Int32) (2 : Int32) (1 : Int32) T9.heap n0 O9 (by decide)) hZ (hw _ (List.mem_of_getElem? (i := 12) rfl)) (hw _ (List.mem_of_getElem? (i := 8) rfl)) (by decide) (by decide)) (g := (mkF m 78 #[.val (.int p1), .val (.int p2), .val (.int (1 : Int32)), .val (.int cc), .val (.ref a9)] [(.int (1 : Int32)), (.int (2 : Int32)), (.int (0 : Int32)), (.ref a9)])) rfl (by rw [hml]; rfl) (argsL := [(.ref a9), (.int (0 : Int32)), (.int (2 : Int32)), (.int (1 : Int32))]) (rest := []) (lenOf pd_2 rfl) rfl (by show 2 * 0 + _ ≤ _; exact Nat.le_of_eq rfl) (hb hby at_78) (fun _ _ => ⟨rfl, e14, (Nat.le_of_ble_eq_true rfl), (Nat.le_of_ble_eq_true rfl)⟩)
    dsimp only [Pt.U, Pt.locs, Pt.cells, Pt.slots] at X15 l15 y15 z15 st15 hQ15
    subst l15 y15 z15
    obtain ⟨rfl, N15q, e15⟩ := hQ15
    have N15 := Fr.app N14 N15q
    refine goS (n := 81) (Ls' := #[.val (.int p1), .val (.int p2), .val (.int (1 : Int32)), .val (.int cc), .val (.ref a9)]) (st' := [(.int (1 : Int32))]) st15 ?_
    refine goS (n := 84) (Ls' := #[.val (.int p1), .val (.int p2), .val (.int (1 : Int32)), .val (.int cc), .val (.ref a9)]) (st' := []) (fun _ kz => XS.ifNo X15.here hx rfl (hb hby at_81) rfl (by decide) kz) ?_
    refine goS (n := 86) (Ls' := #[.val (.int p1), .val (.int p2), .val (.int (1 : Int32)), .val (.int cc), .val (.ref a9)]) (st' := [(.ref a9)]) (fun _ kz => XS.aload X15.here hx rfl (hb hby at_84) rfl rfl kz) ?_
    refine goS (n := 87) (Ls' := #[.val (.int p1), .val (.int p2), .val (.int (1 : Int32)), .val (.int cc), .val (.ref a9)]) (st' := [(.int (1 : Int32)), (.ref a9)]) (fun _ kz => XS.iconst X15.here hx rfl (hb hby at_86) kz) ?_
    refine goS (n := 88) (Ls' := #[.val (.int p1), .val (.int p2), .val (.int (1 : Int32)), .val (.int cc), .val (.ref a9)]) (st' := [(.int (2 : Int32)), (.int (1 : Int32)), (.ref a9)]) (fun _ kz => XS.iconst X15.here hx rfl (hb hby at_87) kz) ?_
    refine goS (n := 89) (Ls' := #[.val (.int p1), .val (.int p2), .val (.int (1 : Int32)), .val (.int cc), .val (.ref a9)]) (st' := [(.int (1 : Int32)), (.int (2 : Int32)), (.int (1 : Int32)), (.ref a9)]) (fun _ kz => XS.iloadN X15.here hx rfl (hb hby at_88) rfl kz) ?_
    obtain ⟨_, _, ⟨T16, L16, k16, n16⟩, -, X16, ⟨Lc16, hQ16, l16, y16, z16⟩, st16⟩ := Jvm.LawKit.callS X15 hx (y := (⟨"com/example/thingstead/thingstead/mimir/GridsZerosPinLaw", "distinct", "([[IIII)Z"⟩ : MethodName)) hown (mvT hZ (hw _ (List.mem_of_getElem? (i := 10) rfl))) (mvT hZ (hw _ (List.mem_of_getElem? (i := 11) rfl))) (mvT hZ (hw _ (List.mem_of_getElem? (i := 8) rfl))) (mvT hZ (hw _ (List.mem_of_getElem? (i := 12) rfl))) (by decide) (backOf (W := 0) (rm_diF l Z a0 hw [] a9 (1 : Int32) (2 : Int32) (1 : Int32) T9.heap n0 O9 (by decide)) hZ (hw _ (List.mem_of_getElem? (i := 12) rfl)) (hw _ (List.mem_of_getElem? (i := 8) rfl)) (by decide) (by decide)) (g := (mkF m 89 #[.val (.int p1), .val (.int p2), .val (.int (1 : Int32)), .val (.int cc), .val (.ref a9)] [(.int (1 : Int32)), (.int (2 : Int32)), (.int (1 : Int32)), (.ref a9)])) rfl (by rw [hml]; rfl) (argsL := [(.ref a9), (.int (1 : Int32)), (.int (2 : Int32)), (.int (1 : Int32))]) (rest := []) (lenOf pd_2 rfl) rfl (by show 2 * 0 + _ ≤ _; exact Nat.le_of_eq rfl) (hb hby at_89) (fun _ _ => ⟨rfl, e15, (Nat.le_of_ble_eq_true rfl), (Nat.le_of_ble_eq_true rfl)⟩)
    dsimp only [Pt.U, Pt.locs, Pt.cells, Pt.slots] at X16 l16 y16 z16 st16 hQ16
    subst l16 y16 z16
    obtain ⟨rfl, N16q, e16⟩ := hQ16
    have N16 := Fr.app N15 N16q
    refine goS (n := 92) (Ls' := #[.val (.int p1), .val (.int p2), .val (.int (1 : Int32)), .val (.int cc), .val (.ref a9)]) (st' := [(.int (1 : Int32))]) st16 ?_
    refine goS (n := 95) (Ls' := #[.val (.int p1), .val (.int p2), .val (.int (1 : Int32)), .val (.int cc), .val (.ref a9)]) (st' := []) (fun _ kz => XS.ifNo X16.here hx rfl (hb hby at_92) rfl (by decide) kz) ?_
    refine goS (n := 96) (Ls' := #[.val (.int p1), .val (.int p2), .val (.int (1 : Int32)), .val (.int cc), .val (.ref a9)]) (st' := [(.int (1 : Int32))]) (fun _ kz => XS.iconst X16.here hx rfl (hb hby at_95) kz) ?_
    refine goS (n := 100) (Ls' := #[.val (.int p1), .val (.int p2), .val (.int (1 : Int32)), .val (.int cc), .val (.ref a9)]) (st' := [(.int (1 : Int32))]) (fun _ kz => XS.goto X16.here hx rfl (pc0 := 96) (pc' := 100) rfl (hb hby at_96) (by decide) (by decide) kz) ?_
    exact goRetZ X16 hx hlk Bd.returns (Or.inr rfl) (hb hby at_100) (by decide) (by decide) (by rw [e16]; exact ⟨rfl, N16⟩)
  · rw [q]
    refine goS (n := 9) (Ls' := #[.val (.int p1), .val (.int p2), .val (.int (2 : Int32)), .val (.int cc), .unset]) (st' := [(.int (2 : Int32))]) (fun _ kz => XS.iloadN X0.here hx rfl (hb hby at_8) rfl kz) ?_
    refine goS (n := 10) (Ls' := #[.val (.int p1), .val (.int p2), .val (.int (2 : Int32)), .val (.int cc), .unset]) (st' := [(.int cc), (.int (2 : Int32))]) (fun _ kz => XS.iloadN X0.here hx rfl (hb hby at_9) rfl kz) ?_
    obtain ⟨_, _, ⟨T17, L17, k17, n17⟩, -, X17, ⟨Lc17, hQ17, l17, y17, z17⟩, st17⟩ := Jvm.LawKit.callS X0 hx (y := (⟨"com/example/thingstead/thingstead/mimir/Grids", "zeros", "(II)[[I"⟩ : MethodName)) hown (mvT hZ (hw _ (List.mem_of_getElem? (i := 0) rfl))) (mvT hZ (hw _ (List.mem_of_getElem? (i := 1) rfl))) (mvT hZ (hw _ (List.mem_of_getElem? (i := 2) rfl))) (mvT hZ (hw _ (List.mem_of_getElem? (i := 3) rfl))) (by decide) (backOf (W := 0) (rm_zeros2 l Z a0 hw [] cc h0 n0 O0 hc0 hc3) hZ (hw _ (List.mem_of_getElem? (i := 3) rfl)) (hw _ (List.mem_of_getElem? (i := 2) rfl)) (by decide) (by decide)) (g := (mkF m 10 #[.val (.int p1), .val (.int p2), .val (.int (2 : Int32)), .val (.int cc), .unset] [(.int cc), (.int (2 : Int32))])) rfl (by rw [hml]; rfl) (argsL := [(.int (2 : Int32)), (.int cc)]) (rest := []) (lenOf pd_1 rfl) rfl (by show 2 * 0 + _ ≤ _; exact Nat.le_of_eq rfl) (hb hby at_10) (fun _ _ => ⟨rfl, e0, (Nat.le_of_ble_eq_true rfl), (Nat.le_of_ble_eq_true rfl)⟩)
    dsimp only [Pt.U, Pt.locs, Pt.cells, Pt.slots] at X17 l17 y17 z17 st17 hQ17
    subst l17 y17 z17
    obtain ⟨a17, ka17, x17_0, kx17_0, x17_1, kx17_1, rfl, N17q, K17, V_a17, V_x17_0, V_x17_1, n17_0_1⟩ := hQ17
    have N17 := Fr.app N0 N17q
    have e17 : T17.heap = T17.heap := rfl
    have O17 := O0.keep K17 all0
    refine goS (n := 13) (Ls' := #[.val (.int p1), .val (.int p2), .val (.int (2 : Int32)), .val (.int cc), .unset]) (st' := [(.ref a17)]) st17 ?_
    refine goS (n := 15) (Ls' := #[.val (.int p1), .val (.int p2), .val (.int (2 : Int32)), .val (.int cc), .val (.ref a17)]) (st' := []) (fun _ kz => XS.astore X17.here hx rfl (hb hby at_13) rfl rfl (l' := #[.val (.int p1), .val (.int p2), .val (.int (2 : Int32)), .val (.int cc), .val (.ref a17)]) rfl kz) ?_
    refine goS (n := 17) (Ls' := #[.val (.int p1), .val (.int p2), .val (.int (2 : Int32)), .val (.int cc), .val (.ref a17)]) (st' := [(.ref a17)]) (fun _ kz => XS.aload X17.here hx rfl (hb hby at_15) rfl rfl kz) ?_
    refine goS (n := 20) (Ls' := #[.val (.int p1), .val (.int p2), .val (.int (2 : Int32)), .val (.int cc), .val (.ref a17)]) (st' := []) (fun _ kz => XS.ifnullNo X17.here hx rfl (hb hby at_17) rfl kz) ?_
    refine goS (n := 22) (Ls' := #[.val (.int p1), .val (.int p2), .val (.int (2 : Int32)), .val (.int cc), .val (.ref a17)]) (st' := [(.ref a17)]) (fun _ kz => XS.aload X17.here hx rfl (hb hby at_20) rfl rfl kz) ?_
    have vv18 := V_a17
    obtain ⟨cl18, Ar18, -, S18, Nn18, -, -⟩ := vv18
    refine goS (n := 23) (Ls' := #[.val (.int p1), .val (.int p2), .val (.int (2 : Int32)), .val (.int cc), .val (.ref a17)]) (st' := [(.int (2 : Int32))]) (fun tz kz => X17.arraylength hx (by rw [e17]; exact Ar18.1) (State.isArrayOf_alike hZ.alike Ar18.2.1) (g := (mkF m 22 #[.val (.int p1), .val (.int p2), .val (.int (2 : Int32)), .val (.int cc), .val (.ref a17)] [(.ref a17)])) rfl rfl (hb hby at_22) tz (by rw [len_of S18 Nn18]; exact kz)) ?_
    refine goS (n := 24) (Ls' := #[.val (.int p1), .val (.int p2), .val (.int (2 : Int32)), .val (.int cc), .val (.ref a17)]) (st' := [(.int (2 : Int32)), (.int (2 : Int32))]) (fun _ kz => XS.iloadN X17.here hx rfl (hb hby at_23) rfl kz) ?_
    refine goS (n := 29) (Ls' := #[.val (.int p1), .val (.int p2), .val (.int (2 : Int32)), .val (.int cc), .val (.ref a17)]) (st' := []) (fun _ kz => XS.icmpYes X17.here hx rfl (pc0 := 24) (pc' := 29) rfl (hb hby at_24) rfl (by decide) (by decide) (by decide) kz) ?_
    refine goS (n := 31) (Ls' := #[.val (.int p1), .val (.int p2), .val (.int (2 : Int32)), .val (.int cc), .val (.ref a17)]) (st' := [(.ref a17)]) (fun _ kz => XS.aload X17.here hx rfl (hb hby at_29) rfl rfl kz) ?_
    refine goS (n := 32) (Ls' := #[.val (.int p1), .val (.int p2), .val (.int (2 : Int32)), .val (.int cc), .val (.ref a17)]) (st' := [(.int (0 : Int32)), (.ref a17)]) (fun _ kz => XS.iconst X17.here hx rfl (hb hby at_31) kz) ?_
    refine goS (n := 33) (Ls' := #[.val (.int p1), .val (.int p2), .val (.int (2 : Int32)), .val (.int cc), .val (.ref a17)]) (st' := [(.int (2 : Int32)), (.int (0 : Int32)), (.ref a17)]) (fun _ kz => XS.iloadN X17.here hx rfl (hb hby at_32) rfl kz) ?_
    refine goS (n := 34) (Ls' := #[.val (.int p1), .val (.int p2), .val (.int (2 : Int32)), .val (.int cc), .val (.ref a17)]) (st' := [(.int cc), (.int (2 : Int32)), (.int (0 : Int32)), (.ref a17)]) (fun _ kz => XS.iloadN X17.here hx rfl (hb hby at_33) rfl kz) ?_
    obtain ⟨_, _, ⟨T19, L19, k19, n19⟩, -, X19, ⟨Lc19, hQ19, l19, y19, z19⟩, st19⟩ := Jvm.LawKit.callS X17 hx (y := (⟨"com/example/thingstead/thingstead/mimir/GridsZerosPinLaw", "rowOk", "([[IIII)Z"⟩ : MethodName)) hown (mvT hZ (hw _ (List.mem_of_getElem? (i := 6) rfl))) (mvT hZ (hw _ (List.mem_of_getElem? (i := 7) rfl))) (mvT hZ (hw _ (List.mem_of_getElem? (i := 8) rfl))) (mvT hZ (hw _ (List.mem_of_getElem? (i := 9) rfl))) (by decide) (backOf (W := 0) (rm_roT l Z a0 hw [] a17 ka17 (0 : Int32) (2 : Int32) [(.ref x17_0), (.ref x17_1)] x17_0 kx17_0 cc T17.heap n0 O17 V_a17 V_x17_0 (by decide) (by decide) rfl) hZ (hw _ (List.mem_of_getElem? (i := 9) rfl)) (hw _ (List.mem_of_getElem? (i := 8) rfl)) (by decide) (by decide)) (g := (mkF m 34 #[.val (.int p1), .val (.int p2), .val (.int (2 : Int32)), .val (.int cc), .val (.ref a17)] [(.int cc), (.int (2 : Int32)), (.int (0 : Int32)), (.ref a17)])) rfl (by rw [hml]; rfl) (argsL := [(.ref a17), (.int (0 : Int32)), (.int (2 : Int32)), (.int cc)]) (rest := []) (lenOf pd_2 rfl) rfl (by show 2 * 0 + _ ≤ _; exact Nat.le_of_eq rfl) (hb hby at_34) (fun _ _ => ⟨rfl, e17, (Nat.le_of_ble_eq_true rfl), (Nat.le_of_ble_eq_true rfl)⟩)
    dsimp only [Pt.U, Pt.locs, Pt.cells, Pt.slots] at X19 l19 y19 z19 st19 hQ19
    subst l19 y19 z19
    obtain ⟨rfl, N19q, e19⟩ := hQ19
    have N19 := Fr.app N17 N19q
    refine goS (n := 37) (Ls' := #[.val (.int p1), .val (.int p2), .val (.int (2 : Int32)), .val (.int cc), .val (.ref a17)]) (st' := [(.int (1 : Int32))]) st19 ?_
    refine goS (n := 40) (Ls' := #[.val (.int p1), .val (.int p2), .val (.int (2 : Int32)), .val (.int cc), .val (.ref a17)]) (st' := []) (fun _ kz => XS.ifNo X19.here hx rfl (hb hby at_37) rfl (by decide) kz) ?_
    refine goS (n := 42) (Ls' := #[.val (.int p1), .val (.int p2), .val (.int (2 : Int32)), .val (.int cc), .val (.ref a17)]) (st' := [(.ref a17)]) (fun _ kz => XS.aload X19.here hx rfl (hb hby at_40) rfl rfl kz) ?_
    refine goS (n := 43) (Ls' := #[.val (.int p1), .val (.int p2), .val (.int (2 : Int32)), .val (.int cc), .val (.ref a17)]) (st' := [(.int (1 : Int32)), (.ref a17)]) (fun _ kz => XS.iconst X19.here hx rfl (hb hby at_42) kz) ?_
    refine goS (n := 44) (Ls' := #[.val (.int p1), .val (.int p2), .val (.int (2 : Int32)), .val (.int cc), .val (.ref a17)]) (st' := [(.int (2 : Int32)), (.int (1 : Int32)), (.ref a17)]) (fun _ kz => XS.iloadN X19.here hx rfl (hb hby at_43) rfl kz) ?_
    refine goS (n := 45) (Ls' := #[.val (.int p1), .val (.int p2), .val (.int (2 : Int32)), .val (.int cc), .val (.ref a17)]) (st' := [(.int cc), (.int (2 : Int32)), (.int (1 : Int32)), (.ref a17)]) (fun _ kz => XS.iloadN X19.here hx rfl (hb hby at_44) rfl kz) ?_
    obtain ⟨_, _, ⟨T20, L20, k20, n20⟩, -, X20, ⟨Lc20, hQ20, l20, y20, z20⟩, st20⟩ := Jvm.LawKit.callS X19 hx (y := (⟨"com/example/thingstead/thingstead/mimir/GridsZerosPinLaw", "rowOk", "([[IIII)Z"⟩ : MethodName)) hown (mvT hZ (hw _ (List.mem_of_getElem? (i := 6) rfl))) (mvT hZ (hw _ (List.mem_of_getElem? (i := 7) rfl))) (mvT hZ (hw _ (List.mem_of_getElem? (i := 8) rfl))) (mvT hZ (hw _ (List.mem_of_getElem? (i := 9) rfl))) (by decide) (backOf (W := 0) (rm_roT l Z a0 hw [] a17 ka17 (1 : Int32) (2 : Int32) [(.ref x17_0), (.ref x17_1)] x17_1 kx17_1 cc T17.heap n0 O17 V_a17 V_x17_1 (by decide) (by decide) rfl) hZ (hw _ (List.mem_of_getElem? (i := 9) rfl)) (hw _ (List.mem_of_getElem? (i := 8) rfl)) (by decide) (by decide)) (g := (mkF m 45 #[.val (.int p1), .val (.int p2), .val (.int (2 : Int32)), .val (.int cc), .val (.ref a17)] [(.int cc), (.int (2 : Int32)), (.int (1 : Int32)), (.ref a17)])) rfl (by rw [hml]; rfl) (argsL := [(.ref a17), (.int (1 : Int32)), (.int (2 : Int32)), (.int cc)]) (rest := []) (lenOf pd_2 rfl) rfl (by show 2 * 0 + _ ≤ _; exact Nat.le_of_eq rfl) (hb hby at_45) (fun _ _ => ⟨rfl, e19, (Nat.le_of_ble_eq_true rfl), (Nat.le_of_ble_eq_true rfl)⟩)
    dsimp only [Pt.U, Pt.locs, Pt.cells, Pt.slots] at X20 l20 y20 z20 st20 hQ20
    subst l20 y20 z20
    obtain ⟨rfl, N20q, e20⟩ := hQ20
    have N20 := Fr.app N19 N20q
    refine goS (n := 48) (Ls' := #[.val (.int p1), .val (.int p2), .val (.int (2 : Int32)), .val (.int cc), .val (.ref a17)]) (st' := [(.int (1 : Int32))]) st20 ?_
    refine goS (n := 51) (Ls' := #[.val (.int p1), .val (.int p2), .val (.int (2 : Int32)), .val (.int cc), .val (.ref a17)]) (st' := []) (fun _ kz => XS.ifNo X20.here hx rfl (hb hby at_48) rfl (by decide) kz) ?_
    refine goS (n := 53) (Ls' := #[.val (.int p1), .val (.int p2), .val (.int (2 : Int32)), .val (.int cc), .val (.ref a17)]) (st' := [(.ref a17)]) (fun _ kz => XS.aload X20.here hx rfl (hb hby at_51) rfl rfl kz) ?_
    refine goS (n := 54) (Ls' := #[.val (.int p1), .val (.int p2), .val (.int (2 : Int32)), .val (.int cc), .val (.ref a17)]) (st' := [(.int (2 : Int32)), (.ref a17)]) (fun _ kz => XS.iconst X20.here hx rfl (hb hby at_53) kz) ?_
    refine goS (n := 55) (Ls' := #[.val (.int p1), .val (.int p2), .val (.int (2 : Int32)), .val (.int cc), .val (.ref a17)]) (st' := [(.int (2 : Int32)), (.int (2 : Int32)), (.ref a17)]) (fun _ kz => XS.iloadN X20.here hx rfl (hb hby at_54) rfl kz) ?_
    refine goS (n := 56) (Ls' := #[.val (.int p1), .val (.int p2), .val (.int (2 : Int32)), .val (.int cc), .val (.ref a17)]) (st' := [(.int cc), (.int (2 : Int32)), (.int (2 : Int32)), (.ref a17)]) (fun _ kz => XS.iloadN X20.here hx rfl (hb hby at_55) rfl kz) ?_
    obtain ⟨_, _, ⟨T21, L21, k21, n21⟩, -, X21, ⟨Lc21, hQ21, l21, y21, z21⟩, st21⟩ := Jvm.LawKit.callS X20 hx (y := (⟨"com/example/thingstead/thingstead/mimir/GridsZerosPinLaw", "rowOk", "([[IIII)Z"⟩ : MethodName)) hown (mvT hZ (hw _ (List.mem_of_getElem? (i := 6) rfl))) (mvT hZ (hw _ (List.mem_of_getElem? (i := 7) rfl))) (mvT hZ (hw _ (List.mem_of_getElem? (i := 8) rfl))) (mvT hZ (hw _ (List.mem_of_getElem? (i := 9) rfl))) (by decide) (backOf (W := 0) (rm_roF l Z a0 hw [] a17 (2 : Int32) (2 : Int32) cc T17.heap n0 O17 (by decide)) hZ (hw _ (List.mem_of_getElem? (i := 9) rfl)) (hw _ (List.mem_of_getElem? (i := 8) rfl)) (by decide) (by decide)) (g := (mkF m 56 #[.val (.int p1), .val (.int p2), .val (.int (2 : Int32)), .val (.int cc), .val (.ref a17)] [(.int cc), (.int (2 : Int32)), (.int (2 : Int32)), (.ref a17)])) rfl (by rw [hml]; rfl) (argsL := [(.ref a17), (.int (2 : Int32)), (.int (2 : Int32)), (.int cc)]) (rest := []) (lenOf pd_2 rfl) rfl (by show 2 * 0 + _ ≤ _; exact Nat.le_of_eq rfl) (hb hby at_56) (fun _ _ => ⟨rfl, e20, (Nat.le_of_ble_eq_true rfl), (Nat.le_of_ble_eq_true rfl)⟩)
    dsimp only [Pt.U, Pt.locs, Pt.cells, Pt.slots] at X21 l21 y21 z21 st21 hQ21
    subst l21 y21 z21
    obtain ⟨rfl, N21q, e21⟩ := hQ21
    have N21 := Fr.app N20 N21q
    refine goS (n := 59) (Ls' := #[.val (.int p1), .val (.int p2), .val (.int (2 : Int32)), .val (.int cc), .val (.ref a17)]) (st' := [(.int (1 : Int32))]) st21 ?_
    refine goS (n := 62) (Ls' := #[.val (.int p1), .val (.int p2), .val (.int (2 : Int32)), .val (.int cc), .val (.ref a17)]) (st' := []) (fun _ kz => XS.ifNo X21.here hx rfl (hb hby at_59) rfl (by decide) kz) ?_
    refine goS (n := 64) (Ls' := #[.val (.int p1), .val (.int p2), .val (.int (2 : Int32)), .val (.int cc), .val (.ref a17)]) (st' := [(.ref a17)]) (fun _ kz => XS.aload X21.here hx rfl (hb hby at_62) rfl rfl kz) ?_
    refine goS (n := 65) (Ls' := #[.val (.int p1), .val (.int p2), .val (.int (2 : Int32)), .val (.int cc), .val (.ref a17)]) (st' := [(.int (0 : Int32)), (.ref a17)]) (fun _ kz => XS.iconst X21.here hx rfl (hb hby at_64) kz) ?_
    refine goS (n := 66) (Ls' := #[.val (.int p1), .val (.int p2), .val (.int (2 : Int32)), .val (.int cc), .val (.ref a17)]) (st' := [(.int (1 : Int32)), (.int (0 : Int32)), (.ref a17)]) (fun _ kz => XS.iconst X21.here hx rfl (hb hby at_65) kz) ?_
    refine goS (n := 67) (Ls' := #[.val (.int p1), .val (.int p2), .val (.int (2 : Int32)), .val (.int cc), .val (.ref a17)]) (st' := [(.int (2 : Int32)), (.int (1 : Int32)), (.int (0 : Int32)), (.ref a17)]) (fun _ kz => XS.iloadN X21.here hx rfl (hb hby at_66) rfl kz) ?_
    obtain ⟨_, _, ⟨T22, L22, k22, n22⟩, -, X22, ⟨Lc22, hQ22, l22, y22, z22⟩, st22⟩ := Jvm.LawKit.callS X21 hx (y := (⟨"com/example/thingstead/thingstead/mimir/GridsZerosPinLaw", "distinct", "([[IIII)Z"⟩ : MethodName)) hown (mvT hZ (hw _ (List.mem_of_getElem? (i := 10) rfl))) (mvT hZ (hw _ (List.mem_of_getElem? (i := 11) rfl))) (mvT hZ (hw _ (List.mem_of_getElem? (i := 8) rfl))) (mvT hZ (hw _ (List.mem_of_getElem? (i := 12) rfl))) (by decide) (backOf (W := 0) (rm_diT l Z a0 hw [] a17 ka17 (0 : Int32) (1 : Int32) (2 : Int32) [(.ref x17_0), (.ref x17_1)] x17_0 x17_1 T17.heap n0 O17 V_a17 (by decide) (by decide) (by decide) (by decide) rfl rfl n17_0_1) hZ (hw _ (List.mem_of_getElem? (i := 12) rfl)) (hw _ (List.mem_of_getElem? (i := 8) rfl)) (by decide) (by decide)) (g := (mkF m 67 #[.val (.int p1), .val (.int p2), .val (.int (2 : Int32)), .val (.int cc), .val (.ref a17)] [(.int (2 : Int32)), (.int (1 : Int32)), (.int (0 : Int32)), (.ref a17)])) rfl (by rw [hml]; rfl) (argsL := [(.ref a17), (.int (0 : Int32)), (.int (1 : Int32)), (.int (2 : Int32))]) (rest := []) (lenOf pd_2 rfl) rfl (by show 2 * 0 + _ ≤ _; exact Nat.le_of_eq rfl) (hb hby at_67) (fun _ _ => ⟨rfl, e21, (Nat.le_of_ble_eq_true rfl), (Nat.le_of_ble_eq_true rfl)⟩)
    dsimp only [Pt.U, Pt.locs, Pt.cells, Pt.slots] at X22 l22 y22 z22 st22 hQ22
    subst l22 y22 z22
    obtain ⟨rfl, N22q, e22⟩ := hQ22
    have N22 := Fr.app N21 N22q
    refine goS (n := 70) (Ls' := #[.val (.int p1), .val (.int p2), .val (.int (2 : Int32)), .val (.int cc), .val (.ref a17)]) (st' := [(.int (1 : Int32))]) st22 ?_
    refine goS (n := 73) (Ls' := #[.val (.int p1), .val (.int p2), .val (.int (2 : Int32)), .val (.int cc), .val (.ref a17)]) (st' := []) (fun _ kz => XS.ifNo X22.here hx rfl (hb hby at_70) rfl (by decide) kz) ?_
    refine goS (n := 75) (Ls' := #[.val (.int p1), .val (.int p2), .val (.int (2 : Int32)), .val (.int cc), .val (.ref a17)]) (st' := [(.ref a17)]) (fun _ kz => XS.aload X22.here hx rfl (hb hby at_73) rfl rfl kz) ?_
    refine goS (n := 76) (Ls' := #[.val (.int p1), .val (.int p2), .val (.int (2 : Int32)), .val (.int cc), .val (.ref a17)]) (st' := [(.int (0 : Int32)), (.ref a17)]) (fun _ kz => XS.iconst X22.here hx rfl (hb hby at_75) kz) ?_
    refine goS (n := 77) (Ls' := #[.val (.int p1), .val (.int p2), .val (.int (2 : Int32)), .val (.int cc), .val (.ref a17)]) (st' := [(.int (2 : Int32)), (.int (0 : Int32)), (.ref a17)]) (fun _ kz => XS.iconst X22.here hx rfl (hb hby at_76) kz) ?_
    refine goS (n := 78) (Ls' := #[.val (.int p1), .val (.int p2), .val (.int (2 : Int32)), .val (.int cc), .val (.ref a17)]) (st' := [(.int (2 : Int32)), (.int (2 : Int32)), (.int (0 : Int32)), (.ref a17)]) (fun _ kz => XS.iloadN X22.here hx rfl (hb hby at_77) rfl kz) ?_
    obtain ⟨_, _, ⟨T23, L23, k23, n23⟩, -, X23, ⟨Lc23, hQ23, l23, y23, z23⟩, st23⟩ := Jvm.LawKit.callS X22 hx (y := (⟨"com/example/thingstead/thingstead/mimir/GridsZerosPinLaw", "distinct", "([[IIII)Z"⟩ : MethodName)) hown (mvT hZ (hw _ (List.mem_of_getElem? (i := 10) rfl))) (mvT hZ (hw _ (List.mem_of_getElem? (i := 11) rfl))) (mvT hZ (hw _ (List.mem_of_getElem? (i := 8) rfl))) (mvT hZ (hw _ (List.mem_of_getElem? (i := 12) rfl))) (by decide) (backOf (W := 0) (rm_diF l Z a0 hw [] a17 (0 : Int32) (2 : Int32) (2 : Int32) T17.heap n0 O17 (by decide)) hZ (hw _ (List.mem_of_getElem? (i := 12) rfl)) (hw _ (List.mem_of_getElem? (i := 8) rfl)) (by decide) (by decide)) (g := (mkF m 78 #[.val (.int p1), .val (.int p2), .val (.int (2 : Int32)), .val (.int cc), .val (.ref a17)] [(.int (2 : Int32)), (.int (2 : Int32)), (.int (0 : Int32)), (.ref a17)])) rfl (by rw [hml]; rfl) (argsL := [(.ref a17), (.int (0 : Int32)), (.int (2 : Int32)), (.int (2 : Int32))]) (rest := []) (lenOf pd_2 rfl) rfl (by show 2 * 0 + _ ≤ _; exact Nat.le_of_eq rfl) (hb hby at_78) (fun _ _ => ⟨rfl, e22, (Nat.le_of_ble_eq_true rfl), (Nat.le_of_ble_eq_true rfl)⟩)
    dsimp only [Pt.U, Pt.locs, Pt.cells, Pt.slots] at X23 l23 y23 z23 st23 hQ23
    subst l23 y23 z23
    obtain ⟨rfl, N23q, e23⟩ := hQ23
    have N23 := Fr.app N22 N23q
    refine goS (n := 81) (Ls' := #[.val (.int p1), .val (.int p2), .val (.int (2 : Int32)), .val (.int cc), .val (.ref a17)]) (st' := [(.int (1 : Int32))]) st23 ?_
    refine goS (n := 84) (Ls' := #[.val (.int p1), .val (.int p2), .val (.int (2 : Int32)), .val (.int cc), .val (.ref a17)]) (st' := []) (fun _ kz => XS.ifNo X23.here hx rfl (hb hby at_81) rfl (by decide) kz) ?_
    refine goS (n := 86) (Ls' := #[.val (.int p1), .val (.int p2), .val (.int (2 : Int32)), .val (.int cc), .val (.ref a17)]) (st' := [(.ref a17)]) (fun _ kz => XS.aload X23.here hx rfl (hb hby at_84) rfl rfl kz) ?_
    refine goS (n := 87) (Ls' := #[.val (.int p1), .val (.int p2), .val (.int (2 : Int32)), .val (.int cc), .val (.ref a17)]) (st' := [(.int (1 : Int32)), (.ref a17)]) (fun _ kz => XS.iconst X23.here hx rfl (hb hby at_86) kz) ?_
    refine goS (n := 88) (Ls' := #[.val (.int p1), .val (.int p2), .val (.int (2 : Int32)), .val (.int cc), .val (.ref a17)]) (st' := [(.int (2 : Int32)), (.int (1 : Int32)), (.ref a17)]) (fun _ kz => XS.iconst X23.here hx rfl (hb hby at_87) kz) ?_
    refine goS (n := 89) (Ls' := #[.val (.int p1), .val (.int p2), .val (.int (2 : Int32)), .val (.int cc), .val (.ref a17)]) (st' := [(.int (2 : Int32)), (.int (2 : Int32)), (.int (1 : Int32)), (.ref a17)]) (fun _ kz => XS.iloadN X23.here hx rfl (hb hby at_88) rfl kz) ?_
    obtain ⟨_, _, ⟨T24, L24, k24, n24⟩, -, X24, ⟨Lc24, hQ24, l24, y24, z24⟩, st24⟩ := Jvm.LawKit.callS X23 hx (y := (⟨"com/example/thingstead/thingstead/mimir/GridsZerosPinLaw", "distinct", "([[IIII)Z"⟩ : MethodName)) hown (mvT hZ (hw _ (List.mem_of_getElem? (i := 10) rfl))) (mvT hZ (hw _ (List.mem_of_getElem? (i := 11) rfl))) (mvT hZ (hw _ (List.mem_of_getElem? (i := 8) rfl))) (mvT hZ (hw _ (List.mem_of_getElem? (i := 12) rfl))) (by decide) (backOf (W := 0) (rm_diF l Z a0 hw [] a17 (1 : Int32) (2 : Int32) (2 : Int32) T17.heap n0 O17 (by decide)) hZ (hw _ (List.mem_of_getElem? (i := 12) rfl)) (hw _ (List.mem_of_getElem? (i := 8) rfl)) (by decide) (by decide)) (g := (mkF m 89 #[.val (.int p1), .val (.int p2), .val (.int (2 : Int32)), .val (.int cc), .val (.ref a17)] [(.int (2 : Int32)), (.int (2 : Int32)), (.int (1 : Int32)), (.ref a17)])) rfl (by rw [hml]; rfl) (argsL := [(.ref a17), (.int (1 : Int32)), (.int (2 : Int32)), (.int (2 : Int32))]) (rest := []) (lenOf pd_2 rfl) rfl (by show 2 * 0 + _ ≤ _; exact Nat.le_of_eq rfl) (hb hby at_89) (fun _ _ => ⟨rfl, e23, (Nat.le_of_ble_eq_true rfl), (Nat.le_of_ble_eq_true rfl)⟩)
    dsimp only [Pt.U, Pt.locs, Pt.cells, Pt.slots] at X24 l24 y24 z24 st24 hQ24
    subst l24 y24 z24
    obtain ⟨rfl, N24q, e24⟩ := hQ24
    have N24 := Fr.app N23 N24q
    refine goS (n := 92) (Ls' := #[.val (.int p1), .val (.int p2), .val (.int (2 : Int32)), .val (.int cc), .val (.ref a17)]) (st' := [(.int (1 : Int32))]) st24 ?_
    refine goS (n := 95) (Ls' := #[.val (.int p1), .val (.int p2), .val (.int (2 : Int32)), .val (.int cc), .val (.ref a17)]) (st' := []) (fun _ kz => XS.ifNo X24.here hx rfl (hb hby at_92) rfl (by decide) kz) ?_
    refine goS (n := 96) (Ls' := #[.val (.int p1), .val (.int p2), .val (.int (2 : Int32)), .val (.int cc), .val (.ref a17)]) (st' := [(.int (1 : Int32))]) (fun _ kz => XS.iconst X24.here hx rfl (hb hby at_95) kz) ?_
    refine goS (n := 100) (Ls' := #[.val (.int p1), .val (.int p2), .val (.int (2 : Int32)), .val (.int cc), .val (.ref a17)]) (st' := [(.int (1 : Int32))]) (fun _ kz => XS.goto X24.here hx rfl (pc0 := 96) (pc' := 100) rfl (hb hby at_96) (by decide) (by decide) kz) ?_
    exact goRetZ X24 hx hlk Bd.returns (Or.inr rfl) (hb hby at_100) (by decide) (by decide) (by rw [e24]; exact ⟨rfl, N24⟩)
  · rw [q]
    refine goS (n := 9) (Ls' := #[.val (.int p1), .val (.int p2), .val (.int (3 : Int32)), .val (.int cc), .unset]) (st' := [(.int (3 : Int32))]) (fun _ kz => XS.iloadN X0.here hx rfl (hb hby at_8) rfl kz) ?_
    refine goS (n := 10) (Ls' := #[.val (.int p1), .val (.int p2), .val (.int (3 : Int32)), .val (.int cc), .unset]) (st' := [(.int cc), (.int (3 : Int32))]) (fun _ kz => XS.iloadN X0.here hx rfl (hb hby at_9) rfl kz) ?_
    obtain ⟨_, _, ⟨T25, L25, k25, n25⟩, -, X25, ⟨Lc25, hQ25, l25, y25, z25⟩, st25⟩ := Jvm.LawKit.callS X0 hx (y := (⟨"com/example/thingstead/thingstead/mimir/Grids", "zeros", "(II)[[I"⟩ : MethodName)) hown (mvT hZ (hw _ (List.mem_of_getElem? (i := 0) rfl))) (mvT hZ (hw _ (List.mem_of_getElem? (i := 1) rfl))) (mvT hZ (hw _ (List.mem_of_getElem? (i := 2) rfl))) (mvT hZ (hw _ (List.mem_of_getElem? (i := 3) rfl))) (by decide) (backOf (W := 0) (rm_zeros3 l Z a0 hw [] cc h0 n0 O0 hc0 hc3) hZ (hw _ (List.mem_of_getElem? (i := 3) rfl)) (hw _ (List.mem_of_getElem? (i := 2) rfl)) (by decide) (by decide)) (g := (mkF m 10 #[.val (.int p1), .val (.int p2), .val (.int (3 : Int32)), .val (.int cc), .unset] [(.int cc), (.int (3 : Int32))])) rfl (by rw [hml]; rfl) (argsL := [(.int (3 : Int32)), (.int cc)]) (rest := []) (lenOf pd_1 rfl) rfl (by show 2 * 0 + _ ≤ _; exact Nat.le_of_eq rfl) (hb hby at_10) (fun _ _ => ⟨rfl, e0, (Nat.le_of_ble_eq_true rfl), (Nat.le_of_ble_eq_true rfl)⟩)
    dsimp only [Pt.U, Pt.locs, Pt.cells, Pt.slots] at X25 l25 y25 z25 st25 hQ25
    subst l25 y25 z25
    obtain ⟨a25, ka25, x25_0, kx25_0, x25_1, kx25_1, x25_2, kx25_2, rfl, N25q, K25, V_a25, V_x25_0, V_x25_1, V_x25_2, n25_0_1, n25_0_2, n25_1_2⟩ := hQ25
    have N25 := Fr.app N0 N25q
    have e25 : T25.heap = T25.heap := rfl
    have O25 := O0.keep K25 all0
    refine goS (n := 13) (Ls' := #[.val (.int p1), .val (.int p2), .val (.int (3 : Int32)), .val (.int cc), .unset]) (st' := [(.ref a25)]) st25 ?_
    refine goS (n := 15) (Ls' := #[.val (.int p1), .val (.int p2), .val (.int (3 : Int32)), .val (.int cc), .val (.ref a25)]) (st' := []) (fun _ kz => XS.astore X25.here hx rfl (hb hby at_13) rfl rfl (l' := #[.val (.int p1), .val (.int p2), .val (.int (3 : Int32)), .val (.int cc), .val (.ref a25)]) rfl kz) ?_
    refine goS (n := 17) (Ls' := #[.val (.int p1), .val (.int p2), .val (.int (3 : Int32)), .val (.int cc), .val (.ref a25)]) (st' := [(.ref a25)]) (fun _ kz => XS.aload X25.here hx rfl (hb hby at_15) rfl rfl kz) ?_
    refine goS (n := 20) (Ls' := #[.val (.int p1), .val (.int p2), .val (.int (3 : Int32)), .val (.int cc), .val (.ref a25)]) (st' := []) (fun _ kz => XS.ifnullNo X25.here hx rfl (hb hby at_17) rfl kz) ?_
    refine goS (n := 22) (Ls' := #[.val (.int p1), .val (.int p2), .val (.int (3 : Int32)), .val (.int cc), .val (.ref a25)]) (st' := [(.ref a25)]) (fun _ kz => XS.aload X25.here hx rfl (hb hby at_20) rfl rfl kz) ?_
    have vv26 := V_a25
    obtain ⟨cl26, Ar26, -, S26, Nn26, -, -⟩ := vv26
    refine goS (n := 23) (Ls' := #[.val (.int p1), .val (.int p2), .val (.int (3 : Int32)), .val (.int cc), .val (.ref a25)]) (st' := [(.int (3 : Int32))]) (fun tz kz => X25.arraylength hx (by rw [e25]; exact Ar26.1) (State.isArrayOf_alike hZ.alike Ar26.2.1) (g := (mkF m 22 #[.val (.int p1), .val (.int p2), .val (.int (3 : Int32)), .val (.int cc), .val (.ref a25)] [(.ref a25)])) rfl rfl (hb hby at_22) tz (by rw [len_of S26 Nn26]; exact kz)) ?_
    refine goS (n := 24) (Ls' := #[.val (.int p1), .val (.int p2), .val (.int (3 : Int32)), .val (.int cc), .val (.ref a25)]) (st' := [(.int (3 : Int32)), (.int (3 : Int32))]) (fun _ kz => XS.iloadN X25.here hx rfl (hb hby at_23) rfl kz) ?_
    refine goS (n := 29) (Ls' := #[.val (.int p1), .val (.int p2), .val (.int (3 : Int32)), .val (.int cc), .val (.ref a25)]) (st' := []) (fun _ kz => XS.icmpYes X25.here hx rfl (pc0 := 24) (pc' := 29) rfl (hb hby at_24) rfl (by decide) (by decide) (by decide) kz) ?_
    refine goS (n := 31) (Ls' := #[.val (.int p1), .val (.int p2), .val (.int (3 : Int32)), .val (.int cc), .val (.ref a25)]) (st' := [(.ref a25)]) (fun _ kz => XS.aload X25.here hx rfl (hb hby at_29) rfl rfl kz) ?_
    refine goS (n := 32) (Ls' := #[.val (.int p1), .val (.int p2), .val (.int (3 : Int32)), .val (.int cc), .val (.ref a25)]) (st' := [(.int (0 : Int32)), (.ref a25)]) (fun _ kz => XS.iconst X25.here hx rfl (hb hby at_31) kz) ?_
    refine goS (n := 33) (Ls' := #[.val (.int p1), .val (.int p2), .val (.int (3 : Int32)), .val (.int cc), .val (.ref a25)]) (st' := [(.int (3 : Int32)), (.int (0 : Int32)), (.ref a25)]) (fun _ kz => XS.iloadN X25.here hx rfl (hb hby at_32) rfl kz) ?_
    refine goS (n := 34) (Ls' := #[.val (.int p1), .val (.int p2), .val (.int (3 : Int32)), .val (.int cc), .val (.ref a25)]) (st' := [(.int cc), (.int (3 : Int32)), (.int (0 : Int32)), (.ref a25)]) (fun _ kz => XS.iloadN X25.here hx rfl (hb hby at_33) rfl kz) ?_
    obtain ⟨_, _, ⟨T27, L27, k27, n27⟩, -, X27, ⟨Lc27, hQ27, l27, y27, z27⟩, st27⟩ := Jvm.LawKit.callS X25 hx (y := (⟨"com/example/thingstead/thingstead/mimir/GridsZerosPinLaw", "rowOk", "([[IIII)Z"⟩ : MethodName)) hown (mvT hZ (hw _ (List.mem_of_getElem? (i := 6) rfl))) (mvT hZ (hw _ (List.mem_of_getElem? (i := 7) rfl))) (mvT hZ (hw _ (List.mem_of_getElem? (i := 8) rfl))) (mvT hZ (hw _ (List.mem_of_getElem? (i := 9) rfl))) (by decide) (backOf (W := 0) (rm_roT l Z a0 hw [] a25 ka25 (0 : Int32) (3 : Int32) [(.ref x25_0), (.ref x25_1), (.ref x25_2)] x25_0 kx25_0 cc T25.heap n0 O25 V_a25 V_x25_0 (by decide) (by decide) rfl) hZ (hw _ (List.mem_of_getElem? (i := 9) rfl)) (hw _ (List.mem_of_getElem? (i := 8) rfl)) (by decide) (by decide)) (g := (mkF m 34 #[.val (.int p1), .val (.int p2), .val (.int (3 : Int32)), .val (.int cc), .val (.ref a25)] [(.int cc), (.int (3 : Int32)), (.int (0 : Int32)), (.ref a25)])) rfl (by rw [hml]; rfl) (argsL := [(.ref a25), (.int (0 : Int32)), (.int (3 : Int32)), (.int cc)]) (rest := []) (lenOf pd_2 rfl) rfl (by show 2 * 0 + _ ≤ _; exact Nat.le_of_eq rfl) (hb hby at_34) (fun _ _ => ⟨rfl, e25, (Nat.le_of_ble_eq_true rfl), (Nat.le_of_ble_eq_true rfl)⟩)
    dsimp only [Pt.U, Pt.locs, Pt.cells, Pt.slots] at X27 l27 y27 z27 st27 hQ27
    subst l27 y27 z27
    obtain ⟨rfl, N27q, e27⟩ := hQ27
    have N27 := Fr.app N25 N27q
    refine goS (n := 37) (Ls' := #[.val (.int p1), .val (.int p2), .val (.int (3 : Int32)), .val (.int cc), .val (.ref a25)]) (st' := [(.int (1 : Int32))]) st27 ?_
    refine goS (n := 40) (Ls' := #[.val (.int p1), .val (.int p2), .val (.int (3 : Int32)), .val (.int cc), .val (.ref a25)]) (st' := []) (fun _ kz => XS.ifNo X27.here hx rfl (hb hby at_37) rfl (by decide) kz) ?_
    refine goS (n := 42) (Ls' := #[.val (.int p1), .val (.int p2), .val (.int (3 : Int32)), .val (.int cc), .val (.ref a25)]) (st' := [(.ref a25)]) (fun _ kz => XS.aload X27.here hx rfl (hb hby at_40) rfl rfl kz) ?_
    refine goS (n := 43) (Ls' := #[.val (.int p1), .val (.int p2), .val (.int (3 : Int32)), .val (.int cc), .val (.ref a25)]) (st' := [(.int (1 : Int32)), (.ref a25)]) (fun _ kz => XS.iconst X27.here hx rfl (hb hby at_42) kz) ?_
    refine goS (n := 44) (Ls' := #[.val (.int p1), .val (.int p2), .val (.int (3 : Int32)), .val (.int cc), .val (.ref a25)]) (st' := [(.int (3 : Int32)), (.int (1 : Int32)), (.ref a25)]) (fun _ kz => XS.iloadN X27.here hx rfl (hb hby at_43) rfl kz) ?_
    refine goS (n := 45) (Ls' := #[.val (.int p1), .val (.int p2), .val (.int (3 : Int32)), .val (.int cc), .val (.ref a25)]) (st' := [(.int cc), (.int (3 : Int32)), (.int (1 : Int32)), (.ref a25)]) (fun _ kz => XS.iloadN X27.here hx rfl (hb hby at_44) rfl kz) ?_
    obtain ⟨_, _, ⟨T28, L28, k28, n28⟩, -, X28, ⟨Lc28, hQ28, l28, y28, z28⟩, st28⟩ := Jvm.LawKit.callS X27 hx (y := (⟨"com/example/thingstead/thingstead/mimir/GridsZerosPinLaw", "rowOk", "([[IIII)Z"⟩ : MethodName)) hown (mvT hZ (hw _ (List.mem_of_getElem? (i := 6) rfl))) (mvT hZ (hw _ (List.mem_of_getElem? (i := 7) rfl))) (mvT hZ (hw _ (List.mem_of_getElem? (i := 8) rfl))) (mvT hZ (hw _ (List.mem_of_getElem? (i := 9) rfl))) (by decide) (backOf (W := 0) (rm_roT l Z a0 hw [] a25 ka25 (1 : Int32) (3 : Int32) [(.ref x25_0), (.ref x25_1), (.ref x25_2)] x25_1 kx25_1 cc T25.heap n0 O25 V_a25 V_x25_1 (by decide) (by decide) rfl) hZ (hw _ (List.mem_of_getElem? (i := 9) rfl)) (hw _ (List.mem_of_getElem? (i := 8) rfl)) (by decide) (by decide)) (g := (mkF m 45 #[.val (.int p1), .val (.int p2), .val (.int (3 : Int32)), .val (.int cc), .val (.ref a25)] [(.int cc), (.int (3 : Int32)), (.int (1 : Int32)), (.ref a25)])) rfl (by rw [hml]; rfl) (argsL := [(.ref a25), (.int (1 : Int32)), (.int (3 : Int32)), (.int cc)]) (rest := []) (lenOf pd_2 rfl) rfl (by show 2 * 0 + _ ≤ _; exact Nat.le_of_eq rfl) (hb hby at_45) (fun _ _ => ⟨rfl, e27, (Nat.le_of_ble_eq_true rfl), (Nat.le_of_ble_eq_true rfl)⟩)
    dsimp only [Pt.U, Pt.locs, Pt.cells, Pt.slots] at X28 l28 y28 z28 st28 hQ28
    subst l28 y28 z28
    obtain ⟨rfl, N28q, e28⟩ := hQ28
    have N28 := Fr.app N27 N28q
    refine goS (n := 48) (Ls' := #[.val (.int p1), .val (.int p2), .val (.int (3 : Int32)), .val (.int cc), .val (.ref a25)]) (st' := [(.int (1 : Int32))]) st28 ?_
    refine goS (n := 51) (Ls' := #[.val (.int p1), .val (.int p2), .val (.int (3 : Int32)), .val (.int cc), .val (.ref a25)]) (st' := []) (fun _ kz => XS.ifNo X28.here hx rfl (hb hby at_48) rfl (by decide) kz) ?_
    refine goS (n := 53) (Ls' := #[.val (.int p1), .val (.int p2), .val (.int (3 : Int32)), .val (.int cc), .val (.ref a25)]) (st' := [(.ref a25)]) (fun _ kz => XS.aload X28.here hx rfl (hb hby at_51) rfl rfl kz) ?_
    refine goS (n := 54) (Ls' := #[.val (.int p1), .val (.int p2), .val (.int (3 : Int32)), .val (.int cc), .val (.ref a25)]) (st' := [(.int (2 : Int32)), (.ref a25)]) (fun _ kz => XS.iconst X28.here hx rfl (hb hby at_53) kz) ?_
    refine goS (n := 55) (Ls' := #[.val (.int p1), .val (.int p2), .val (.int (3 : Int32)), .val (.int cc), .val (.ref a25)]) (st' := [(.int (3 : Int32)), (.int (2 : Int32)), (.ref a25)]) (fun _ kz => XS.iloadN X28.here hx rfl (hb hby at_54) rfl kz) ?_
    refine goS (n := 56) (Ls' := #[.val (.int p1), .val (.int p2), .val (.int (3 : Int32)), .val (.int cc), .val (.ref a25)]) (st' := [(.int cc), (.int (3 : Int32)), (.int (2 : Int32)), (.ref a25)]) (fun _ kz => XS.iloadN X28.here hx rfl (hb hby at_55) rfl kz) ?_
    obtain ⟨_, _, ⟨T29, L29, k29, n29⟩, -, X29, ⟨Lc29, hQ29, l29, y29, z29⟩, st29⟩ := Jvm.LawKit.callS X28 hx (y := (⟨"com/example/thingstead/thingstead/mimir/GridsZerosPinLaw", "rowOk", "([[IIII)Z"⟩ : MethodName)) hown (mvT hZ (hw _ (List.mem_of_getElem? (i := 6) rfl))) (mvT hZ (hw _ (List.mem_of_getElem? (i := 7) rfl))) (mvT hZ (hw _ (List.mem_of_getElem? (i := 8) rfl))) (mvT hZ (hw _ (List.mem_of_getElem? (i := 9) rfl))) (by decide) (backOf (W := 0) (rm_roT l Z a0 hw [] a25 ka25 (2 : Int32) (3 : Int32) [(.ref x25_0), (.ref x25_1), (.ref x25_2)] x25_2 kx25_2 cc T25.heap n0 O25 V_a25 V_x25_2 (by decide) (by decide) rfl) hZ (hw _ (List.mem_of_getElem? (i := 9) rfl)) (hw _ (List.mem_of_getElem? (i := 8) rfl)) (by decide) (by decide)) (g := (mkF m 56 #[.val (.int p1), .val (.int p2), .val (.int (3 : Int32)), .val (.int cc), .val (.ref a25)] [(.int cc), (.int (3 : Int32)), (.int (2 : Int32)), (.ref a25)])) rfl (by rw [hml]; rfl) (argsL := [(.ref a25), (.int (2 : Int32)), (.int (3 : Int32)), (.int cc)]) (rest := []) (lenOf pd_2 rfl) rfl (by show 2 * 0 + _ ≤ _; exact Nat.le_of_eq rfl) (hb hby at_56) (fun _ _ => ⟨rfl, e28, (Nat.le_of_ble_eq_true rfl), (Nat.le_of_ble_eq_true rfl)⟩)
    dsimp only [Pt.U, Pt.locs, Pt.cells, Pt.slots] at X29 l29 y29 z29 st29 hQ29
    subst l29 y29 z29
    obtain ⟨rfl, N29q, e29⟩ := hQ29
    have N29 := Fr.app N28 N29q
    refine goS (n := 59) (Ls' := #[.val (.int p1), .val (.int p2), .val (.int (3 : Int32)), .val (.int cc), .val (.ref a25)]) (st' := [(.int (1 : Int32))]) st29 ?_
    refine goS (n := 62) (Ls' := #[.val (.int p1), .val (.int p2), .val (.int (3 : Int32)), .val (.int cc), .val (.ref a25)]) (st' := []) (fun _ kz => XS.ifNo X29.here hx rfl (hb hby at_59) rfl (by decide) kz) ?_
    refine goS (n := 64) (Ls' := #[.val (.int p1), .val (.int p2), .val (.int (3 : Int32)), .val (.int cc), .val (.ref a25)]) (st' := [(.ref a25)]) (fun _ kz => XS.aload X29.here hx rfl (hb hby at_62) rfl rfl kz) ?_
    refine goS (n := 65) (Ls' := #[.val (.int p1), .val (.int p2), .val (.int (3 : Int32)), .val (.int cc), .val (.ref a25)]) (st' := [(.int (0 : Int32)), (.ref a25)]) (fun _ kz => XS.iconst X29.here hx rfl (hb hby at_64) kz) ?_
    refine goS (n := 66) (Ls' := #[.val (.int p1), .val (.int p2), .val (.int (3 : Int32)), .val (.int cc), .val (.ref a25)]) (st' := [(.int (1 : Int32)), (.int (0 : Int32)), (.ref a25)]) (fun _ kz => XS.iconst X29.here hx rfl (hb hby at_65) kz) ?_
    refine goS (n := 67) (Ls' := #[.val (.int p1), .val (.int p2), .val (.int (3 : Int32)), .val (.int cc), .val (.ref a25)]) (st' := [(.int (3 : Int32)), (.int (1 : Int32)), (.int (0 : Int32)), (.ref a25)]) (fun _ kz => XS.iloadN X29.here hx rfl (hb hby at_66) rfl kz) ?_
    obtain ⟨_, _, ⟨T30, L30, k30, n30⟩, -, X30, ⟨Lc30, hQ30, l30, y30, z30⟩, st30⟩ := Jvm.LawKit.callS X29 hx (y := (⟨"com/example/thingstead/thingstead/mimir/GridsZerosPinLaw", "distinct", "([[IIII)Z"⟩ : MethodName)) hown (mvT hZ (hw _ (List.mem_of_getElem? (i := 10) rfl))) (mvT hZ (hw _ (List.mem_of_getElem? (i := 11) rfl))) (mvT hZ (hw _ (List.mem_of_getElem? (i := 8) rfl))) (mvT hZ (hw _ (List.mem_of_getElem? (i := 12) rfl))) (by decide) (backOf (W := 0) (rm_diT l Z a0 hw [] a25 ka25 (0 : Int32) (1 : Int32) (3 : Int32) [(.ref x25_0), (.ref x25_1), (.ref x25_2)] x25_0 x25_1 T25.heap n0 O25 V_a25 (by decide) (by decide) (by decide) (by decide) rfl rfl n25_0_1) hZ (hw _ (List.mem_of_getElem? (i := 12) rfl)) (hw _ (List.mem_of_getElem? (i := 8) rfl)) (by decide) (by decide)) (g := (mkF m 67 #[.val (.int p1), .val (.int p2), .val (.int (3 : Int32)), .val (.int cc), .val (.ref a25)] [(.int (3 : Int32)), (.int (1 : Int32)), (.int (0 : Int32)), (.ref a25)])) rfl (by rw [hml]; rfl) (argsL := [(.ref a25), (.int (0 : Int32)), (.int (1 : Int32)), (.int (3 : Int32))]) (rest := []) (lenOf pd_2 rfl) rfl (by show 2 * 0 + _ ≤ _; exact Nat.le_of_eq rfl) (hb hby at_67) (fun _ _ => ⟨rfl, e29, (Nat.le_of_ble_eq_true rfl), (Nat.le_of_ble_eq_true rfl)⟩)
    dsimp only [Pt.U, Pt.locs, Pt.cells, Pt.slots] at X30 l30 y30 z30 st30 hQ30
    subst l30 y30 z30
    obtain ⟨rfl, N30q, e30⟩ := hQ30
    have N30 := Fr.app N29 N30q
    refine goS (n := 70) (Ls' := #[.val (.int p1), .val (.int p2), .val (.int (3 : Int32)), .val (.int cc), .val (.ref a25)]) (st' := [(.int (1 : Int32))]) st30 ?_
    refine goS (n := 73) (Ls' := #[.val (.int p1), .val (.int p2), .val (.int (3 : Int32)), .val (.int cc), .val (.ref a25)]) (st' := []) (fun _ kz => XS.ifNo X30.here hx rfl (hb hby at_70) rfl (by decide) kz) ?_
    refine goS (n := 75) (Ls' := #[.val (.int p1), .val (.int p2), .val (.int (3 : Int32)), .val (.int cc), .val (.ref a25)]) (st' := [(.ref a25)]) (fun _ kz => XS.aload X30.here hx rfl (hb hby at_73) rfl rfl kz) ?_
    refine goS (n := 76) (Ls' := #[.val (.int p1), .val (.int p2), .val (.int (3 : Int32)), .val (.int cc), .val (.ref a25)]) (st' := [(.int (0 : Int32)), (.ref a25)]) (fun _ kz => XS.iconst X30.here hx rfl (hb hby at_75) kz) ?_
    refine goS (n := 77) (Ls' := #[.val (.int p1), .val (.int p2), .val (.int (3 : Int32)), .val (.int cc), .val (.ref a25)]) (st' := [(.int (2 : Int32)), (.int (0 : Int32)), (.ref a25)]) (fun _ kz => XS.iconst X30.here hx rfl (hb hby at_76) kz) ?_
    refine goS (n := 78) (Ls' := #[.val (.int p1), .val (.int p2), .val (.int (3 : Int32)), .val (.int cc), .val (.ref a25)]) (st' := [(.int (3 : Int32)), (.int (2 : Int32)), (.int (0 : Int32)), (.ref a25)]) (fun _ kz => XS.iloadN X30.here hx rfl (hb hby at_77) rfl kz) ?_
    obtain ⟨_, _, ⟨T31, L31, k31, n31⟩, -, X31, ⟨Lc31, hQ31, l31, y31, z31⟩, st31⟩ := Jvm.LawKit.callS X30 hx (y := (⟨"com/example/thingstead/thingstead/mimir/GridsZerosPinLaw", "distinct", "([[IIII)Z"⟩ : MethodName)) hown (mvT hZ (hw _ (List.mem_of_getElem? (i := 10) rfl))) (mvT hZ (hw _ (List.mem_of_getElem? (i := 11) rfl))) (mvT hZ (hw _ (List.mem_of_getElem? (i := 8) rfl))) (mvT hZ (hw _ (List.mem_of_getElem? (i := 12) rfl))) (by decide) (backOf (W := 0) (rm_diT l Z a0 hw [] a25 ka25 (0 : Int32) (2 : Int32) (3 : Int32) [(.ref x25_0), (.ref x25_1), (.ref x25_2)] x25_0 x25_2 T25.heap n0 O25 V_a25 (by decide) (by decide) (by decide) (by decide) rfl rfl n25_0_2) hZ (hw _ (List.mem_of_getElem? (i := 12) rfl)) (hw _ (List.mem_of_getElem? (i := 8) rfl)) (by decide) (by decide)) (g := (mkF m 78 #[.val (.int p1), .val (.int p2), .val (.int (3 : Int32)), .val (.int cc), .val (.ref a25)] [(.int (3 : Int32)), (.int (2 : Int32)), (.int (0 : Int32)), (.ref a25)])) rfl (by rw [hml]; rfl) (argsL := [(.ref a25), (.int (0 : Int32)), (.int (2 : Int32)), (.int (3 : Int32))]) (rest := []) (lenOf pd_2 rfl) rfl (by show 2 * 0 + _ ≤ _; exact Nat.le_of_eq rfl) (hb hby at_78) (fun _ _ => ⟨rfl, e30, (Nat.le_of_ble_eq_true rfl), (Nat.le_of_ble_eq_true rfl)⟩)
    dsimp only [Pt.U, Pt.locs, Pt.cells, Pt.slots] at X31 l31 y31 z31 st31 hQ31
    subst l31 y31 z31
    obtain ⟨rfl, N31q, e31⟩ := hQ31
    have N31 := Fr.app N30 N31q
    refine goS (n := 81) (Ls' := #[.val (.int p1), .val (.int p2), .val (.int (3 : Int32)), .val (.int cc), .val (.ref a25)]) (st' := [(.int (1 : Int32))]) st31 ?_
    refine goS (n := 84) (Ls' := #[.val (.int p1), .val (.int p2), .val (.int (3 : Int32)), .val (.int cc), .val (.ref a25)]) (st' := []) (fun _ kz => XS.ifNo X31.here hx rfl (hb hby at_81) rfl (by decide) kz) ?_
    refine goS (n := 86) (Ls' := #[.val (.int p1), .val (.int p2), .val (.int (3 : Int32)), .val (.int cc), .val (.ref a25)]) (st' := [(.ref a25)]) (fun _ kz => XS.aload X31.here hx rfl (hb hby at_84) rfl rfl kz) ?_
    refine goS (n := 87) (Ls' := #[.val (.int p1), .val (.int p2), .val (.int (3 : Int32)), .val (.int cc), .val (.ref a25)]) (st' := [(.int (1 : Int32)), (.ref a25)]) (fun _ kz => XS.iconst X31.here hx rfl (hb hby at_86) kz) ?_
    refine goS (n := 88) (Ls' := #[.val (.int p1), .val (.int p2), .val (.int (3 : Int32)), .val (.int cc), .val (.ref a25)]) (st' := [(.int (2 : Int32)), (.int (1 : Int32)), (.ref a25)]) (fun _ kz => XS.iconst X31.here hx rfl (hb hby at_87) kz) ?_
    refine goS (n := 89) (Ls' := #[.val (.int p1), .val (.int p2), .val (.int (3 : Int32)), .val (.int cc), .val (.ref a25)]) (st' := [(.int (3 : Int32)), (.int (2 : Int32)), (.int (1 : Int32)), (.ref a25)]) (fun _ kz => XS.iloadN X31.here hx rfl (hb hby at_88) rfl kz) ?_
    obtain ⟨_, _, ⟨T32, L32, k32, n32⟩, -, X32, ⟨Lc32, hQ32, l32, y32, z32⟩, st32⟩ := Jvm.LawKit.callS X31 hx (y := (⟨"com/example/thingstead/thingstead/mimir/GridsZerosPinLaw", "distinct", "([[IIII)Z"⟩ : MethodName)) hown (mvT hZ (hw _ (List.mem_of_getElem? (i := 10) rfl))) (mvT hZ (hw _ (List.mem_of_getElem? (i := 11) rfl))) (mvT hZ (hw _ (List.mem_of_getElem? (i := 8) rfl))) (mvT hZ (hw _ (List.mem_of_getElem? (i := 12) rfl))) (by decide) (backOf (W := 0) (rm_diT l Z a0 hw [] a25 ka25 (1 : Int32) (2 : Int32) (3 : Int32) [(.ref x25_0), (.ref x25_1), (.ref x25_2)] x25_1 x25_2 T25.heap n0 O25 V_a25 (by decide) (by decide) (by decide) (by decide) rfl rfl n25_1_2) hZ (hw _ (List.mem_of_getElem? (i := 12) rfl)) (hw _ (List.mem_of_getElem? (i := 8) rfl)) (by decide) (by decide)) (g := (mkF m 89 #[.val (.int p1), .val (.int p2), .val (.int (3 : Int32)), .val (.int cc), .val (.ref a25)] [(.int (3 : Int32)), (.int (2 : Int32)), (.int (1 : Int32)), (.ref a25)])) rfl (by rw [hml]; rfl) (argsL := [(.ref a25), (.int (1 : Int32)), (.int (2 : Int32)), (.int (3 : Int32))]) (rest := []) (lenOf pd_2 rfl) rfl (by show 2 * 0 + _ ≤ _; exact Nat.le_of_eq rfl) (hb hby at_89) (fun _ _ => ⟨rfl, e31, (Nat.le_of_ble_eq_true rfl), (Nat.le_of_ble_eq_true rfl)⟩)
    dsimp only [Pt.U, Pt.locs, Pt.cells, Pt.slots] at X32 l32 y32 z32 st32 hQ32
    subst l32 y32 z32
    obtain ⟨rfl, N32q, e32⟩ := hQ32
    have N32 := Fr.app N31 N32q
    refine goS (n := 92) (Ls' := #[.val (.int p1), .val (.int p2), .val (.int (3 : Int32)), .val (.int cc), .val (.ref a25)]) (st' := [(.int (1 : Int32))]) st32 ?_
    refine goS (n := 95) (Ls' := #[.val (.int p1), .val (.int p2), .val (.int (3 : Int32)), .val (.int cc), .val (.ref a25)]) (st' := []) (fun _ kz => XS.ifNo X32.here hx rfl (hb hby at_92) rfl (by decide) kz) ?_
    refine goS (n := 96) (Ls' := #[.val (.int p1), .val (.int p2), .val (.int (3 : Int32)), .val (.int cc), .val (.ref a25)]) (st' := [(.int (1 : Int32))]) (fun _ kz => XS.iconst X32.here hx rfl (hb hby at_95) kz) ?_
    refine goS (n := 100) (Ls' := #[.val (.int p1), .val (.int p2), .val (.int (3 : Int32)), .val (.int cc), .val (.ref a25)]) (st' := [(.int (1 : Int32))]) (fun _ kz => XS.goto X32.here hx rfl (pc0 := 96) (pc' := 100) rfl (hb hby at_96) (by decide) (by decide) kz) ?_
    exact goRetZ X32 hx hlk Bd.returns (Or.inr rfl) (hb hby at_100) (by decide) (by decide) (by rw [e32]; exact ⟨rfl, N32⟩)
set_option maxRecDepth 65536 in
set_option maxHeartbeats 40000000 in
theorem comes_1 {Post : Tables → Env → Array Value → State → Outcome → State → Prop} (hpost : ∀ tb e args s v u, (limb_1_1.after args s (.returned v) u = true ∧ limb_1_2.after args s (.returned v) u = true ∧ True) → FrameEnd s (.returned v) u (Jvm.fieldLocs frame_1_writes args s ++ Jvm.arrayLocs frame_1_arrays args s ++ Jvm.staticLocs frame_1_statics s) 16 128 → Post tb e args s (.returned v) u) :
    ArmFor flags0 classFile x code maxLocals ret World_1 tables_1 room_1 Calls_1 rest_1 Pre_1 Post := by
  intro l hfl _ _ p e ha hc hk s m args below hf hA hF happ hP
  obtain ⟨hcalls, hrest, hpre⟩ := hP
  obtain ⟨-, -, -, hnamed, -, -, -, hat⟩ := (Spec.applies_iff hf).mp happ
  obtain ⟨hg, hn⟩ := and_e (Cond.before_iff.mp (show (Jvm.Cond.and given_1 narrow_1).before args s = true from hpre))
  obtain ⟨g1, g2⟩ := and_e hg
  obtain ⟨g3, g4⟩ := and_e g2
  obtain ⟨w0, w1, rfl⟩ : ∃ w0 w1 : Value, args = #[w0, w1] := by
    have hs : args.size = 2 := by simpa [Cond.value, given_1] using g1
    obtain ⟨L⟩ := args
    match L, hs with
    | [w0, w1], _ => exact ⟨w0, w1, rfl⟩
  have hw := fun d (hd : d ∈ tables_1) => atoms_spec (ws := Jvm.Cond.code x code maxLocals ret :: tables_1) hat d (List.mem_cons_of_mem _ hd)
  have hfit : Fit s := fun {y c} hc i hi => by
    obtain ⟨ha, rfl⟩ := Array.getElem?_eq_some_iff.mp hc
    have q := List.all_eq_true.mp ((Array.all_eq_true_iff_forall_mem.mp hF) _ (Array.getElem_mem ha)) i (List.mem_range.mpr hi)
    simpa [Array.getElem?_eq_getElem hi] using q
  obtain ⟨i0, ei0⟩ := is_v g3
  obtain rfl : w0 = (.int i0) := Option.some.inj ei0
  obtain ⟨i1, ei1⟩ := is_v g4
  obtain rfl : w1 = (.int i1) := Option.some.inj ei1
  obtain ⟨n, o, h1, h2, h3, _, L, rfl, ⟨rfl, N⟩, hq⟩ := rm_law l s _ hw tables_1 i0 i1 s.heap s.heap.size (Old.start s) p e ha hc hk s m _ below hf ((Spec.applies_iff_loose hf).mp happ).1 ⟨rfl, State.Warmed39.refl s, rfl⟩ trivial
  refine ⟨n, _, h1, h2, h3, hpost _ _ _ _ _ _ ⟨Cond.after_iff.mpr rfl, Cond.after_iff.mpr (eq_i res_at (Term.int_eval (1)) rfl), trivial⟩ ⟨hq.1, hq.2.1, (hq.2.2.sift fun y hy => Or.inr (N y hy)).mono (by decide) (by decide)⟩⟩
theorem main_1_1 : Claimed_1_1 := comes_1 fun _ _ _ _ _ _ h hF => ⟨h.1, hF⟩
theorem main_1_2 : Claimed_1_2 := comes_1 fun _ _ _ _ _ _ h hF => ⟨h.2.1, hF⟩
end Jvm.Pilot.@@N@@
namespace Jvm.Pilot.@@N@@
open Jvm Jvm.ClassFile Sem Op Lib Jvm.Free Jvm.Stand Jvm.Pilot.@@N@@.Jvm.D
/-! MADE BY PROGRAM (witnessworld.py) out of the Statement's table words and the real class files: 9 classes; the members and pool entries that the words name. The judged class is class 1, her method 1. -/
namespace start1
open Jvm.ClassFile
def u (s : String) : CpInfo := .utf8 (stringToUtf16 s)
/-- a pool by its gaps: so many unusable entries, then the entry; so many at the end -/
def gap : Nat → List CpInfo → List CpInfo
  | 0, r => r
  | n + 1, r => .unusable :: gap n r
def poolList (es : List (Nat × CpInfo)) (last : Nat) : List CpInfo := es.foldr (fun e r => gap e.1 (e.2 :: r)) (gap last [])
def pool (es : List (Nat × CpInfo)) (last : Nat) : Array CpInfo := ⟨poolList es last⟩
def fileOf (pool : Array CpInfo) (this : Nat) (attrs : Array Attribute := #[]) (ms : Array MethodInfo := #[]) (fl : Nat := 33) (sup : Nat := 0) (ifs : Array Nat := #[]) (fds : Array FieldInfo := #[]) : ClassFile where
  minorVersion := 0
  majorVersion := 65
  constantPool := pool
  accessFlags := fl
  thisClass := this
  superClass := sup
  interfaces := ifs
  fields := fds
  methods := ms
  attributes := attrs
def plain (name : String) (sup : Option ClassId) : Class where
  name := name
  kind := .ordinary
  loader := none
  accessFlags := 33
  super := sup
  interfaces := #[]
  cf := none
  fields := #[]
  methods := #[]
  instanceTypes := #[]
  staticTypes := #[]
  resolved := #[]
  callSites := []
  init := .initialized
  statics := none
  mirror := none

def pool0 : Array CpInfo := pool [(5, u "<init>"), (0, u "()V"), (1, .class_ 10), (1, u "java/lang/Object")] 113

def k0m0 : Method := { name := "<init>", desc := "()V", sig := { parameters := [], returnType := none }, accessFlags := 1, code := none }
/-- java/lang/Object -/
def k0 : Class := { plain "java/lang/Object" none with
  accessFlags := 33
  interfaces := #[]
  cf := some (fileOf pool0 8 #[] #[{ accessFlags := 1, nameIndex := 5, descriptorIndex := 6, attributes := #[] }] 33 0 #[] #[])
  fields := #[]
  methods := #[k0m0]
  instanceTypes := #[]
  staticTypes := #[]
  resolved := Array.replicate 124 none
  statics := none }

def pool1 : Array CpInfo := pool [(2, .class_ 4), (1, u "java/lang/Object"), (0, u "<init>"), (0, u "()V"), (0, .methodref 8 9), (0, .class_ 10), (0, .nameAndType 11 12), (0, u "com/example/thingstead/thingstead/mimir/Grids"), (0, u "zeros"), (0, u "(II)[[I"), (0, .methodref 14 15), (0, .class_ 16), (0, .nameAndType 17 18), (0, u "com/example/thingstead/thingstead/mimir/GridsZerosPinLaw"), (0, u "rowOk"), (0, u "([[IIII)Z"), (0, .methodref 14 20), (0, .nameAndType 21 18), (0, u "distinct"), (0, .methodref 14 23), (0, .nameAndType 24 25), (0, u "zeroAt"), (0, u "([II)Z"), (2, u "law"), (0, u "(II)Z")] 7

def k1m0 : Method := { name := "<init>", desc := "()V", sig := { parameters := [], returnType := none }, accessFlags := 2, code := none }
def k1c1 : Code := { maxStack := 4, maxLocals := 5, code := code, exceptionTable := #[], attributes := #[] }
def k1m1 : Method := { name := "law", desc := "(II)Z", sig := { parameters := [.int, .int], returnType := some .boolean }, accessFlags := 9, code := some k1c1 }
def k1c2 : Code := { maxStack := 2, maxLocals := 5, code := method_3_code, exceptionTable := #[], attributes := #[] }
def k1m2 : Method := { name := "rowOk", desc := "([[IIII)Z", sig := { parameters := [(.array (.array .int)), .int, .int, .int], returnType := some .boolean }, accessFlags := 10, code := some k1c2 }
def k1c3 : Code := { maxStack := 2, maxLocals := 2, code := method_4_code, exceptionTable := #[], attributes := #[] }
def k1m3 : Method := { name := "zeroAt", desc := "([II)Z", sig := { parameters := [(.array .int), .int], returnType := some .boolean }, accessFlags := 10, code := some k1c3 }
def k1c4 : Code := { maxStack := 3, maxLocals := 4, code := method_5_code, exceptionTable := #[], attributes := #[] }
def k1m4 : Method := { name := "distinct", desc := "([[IIII)Z", sig := { parameters := [(.array (.array .int)), .int, .int, .int], returnType := some .boolean }, accessFlags := 10, code := some k1c4 }
/-- com/example/thingstead/thingstead/mimir/GridsZerosPinLaw -/
def k1 : Class := { plain "com/example/thingstead/thingstead/mimir/GridsZerosPinLaw" (some 0) with
  accessFlags := 49
  interfaces := #[]
  cf := some (fileOf pool1 14 #[] #[{ accessFlags := 2, nameIndex := 5, descriptorIndex := 6, attributes := #[] }, { accessFlags := 9, nameIndex := 28, descriptorIndex := 29, attributes := #[] }, { accessFlags := 10, nameIndex := 17, descriptorIndex := 18, attributes := #[] }, { accessFlags := 10, nameIndex := 24, descriptorIndex := 25, attributes := #[] }, { accessFlags := 10, nameIndex := 21, descriptorIndex := 18, attributes := #[] }] 49 2 #[] #[])
  fields := #[]
  methods := #[k1m0, k1m1, k1m2, k1m3, k1m4]
  instanceTypes := #[]
  staticTypes := #[]
  resolved := Array.replicate 37 none
  statics := none }

def pool2 : Array CpInfo := pool [(2, .class_ 4), (1, u "java/lang/Object"), (0, u "<init>"), (0, u "()V"), (0, .class_ 8), (0, u "[I"), (0, .class_ 10), (0, u "com/example/thingstead/thingstead/mimir/Grids"), (2, u "zeros"), (0, u "(II)[[I")] 5

def k2m0 : Method := { name := "<init>", desc := "()V", sig := { parameters := [], returnType := none }, accessFlags := 2, code := none }
def k2c1 : Code := { maxStack := 3, maxLocals := 4, code := prog_7_method_2_code, exceptionTable := #[], attributes := #[] }
def k2m1 : Method := { name := "zeros", desc := "(II)[[I", sig := { parameters := [.int, .int], returnType := some (.array (.array .int)) }, accessFlags := 8, code := some k2c1 }
/-- com/example/thingstead/thingstead/mimir/Grids -/
def k2 : Class := { plain "com/example/thingstead/thingstead/mimir/Grids" (some 0) with
  accessFlags := 48
  interfaces := #[]
  cf := some (fileOf pool2 9 #[] #[{ accessFlags := 2, nameIndex := 5, descriptorIndex := 6, attributes := #[] }, { accessFlags := 8, nameIndex := 13, descriptorIndex := 14, attributes := #[] }] 48 2 #[] #[])
  fields := #[]
  methods := #[k2m0, k2m1]
  instanceTypes := #[]
  staticTypes := #[]
  resolved := Array.replicate 20 none
  statics := none }

def pool3 : Array CpInfo := pool [(1, u "java/lang/Cloneable"), (0, .class_ 1), (0, u "java/lang/Object"), (0, .class_ 3)] 3

/-- java/lang/Cloneable -/
def k3 : Class := { plain "java/lang/Cloneable" (some 0) with
  accessFlags := 1537
  interfaces := #[]
  cf := some (fileOf pool3 2 #[] #[] 1537 4 #[] #[])
  fields := #[]
  methods := #[]
  instanceTypes := #[]
  staticTypes := #[]
  resolved := Array.replicate 8 none
  statics := none }

def pool4 : Array CpInfo := pool [(1, u "java/io/Serializable"), (0, .class_ 1), (0, u "java/lang/Object"), (0, .class_ 3)] 3

/-- java/io/Serializable -/
def k4 : Class := { plain "java/io/Serializable" (some 0) with
  accessFlags := 1537
  interfaces := #[]
  cf := some (fileOf pool4 2 #[] #[] 1537 4 #[] #[])
  fields := #[]
  methods := #[]
  instanceTypes := #[]
  staticTypes := #[]
  resolved := Array.replicate 8 none
  statics := none }

/-- the primitive byte -/
def k5 : Class := { plain "byte" none with kind := .primitive 'B', accessFlags := 0x411 }
/-- [B -/
def k6 : Class := { plain "[B" (some 0) with kind := .array 5 .byte, interfaces := #[3, 4], accessFlags := 1041 }

/-- the primitive int -/
def k7 : Class := { plain "int" none with kind := .primitive 'I', accessFlags := 0x411 }
/-- [I -/
def k8 : Class := { plain "[I" (some 0) with kind := .array 7 .int, interfaces := #[3, 4], accessFlags := 1041 }

def heap : Heap := #[]
def k9 : Class := { plain "[[I" (some 0) with kind := .array 8 (.array .int), interfaces := #[3, 4], accessFlags := 1041 }
def classes : Array Class := #[k0, k1, k2, k3, k4, k5, k6, k7, k8, k9]
def interned : List (Array UInt16 × Addr) := []
def slotsUsed : Nat := 0
def theMethod : MethodId := ⟨1, 1⟩
def args0 : Array Value := #[.int 5, .int 2]
def aboutOver (below : List Frame) : State where
  vm := { classes := classes, interned := interned.toArray }
  heap := heap
  slotsUsed := slotsUsed
  threads := #[{ frames := .invoking theMethod args0 :: below }]
def below0 : List Frame := [.native { method := ⟨0, 0⟩, args := #[] }]
def about1 : State := aboutOver below0
def p0 : Program := .bare "" "" ""
def e0 : Env := launch0.env 0 0 0
theorem w_frames : about1.frames = Frame.invoking theMethod args0 :: below0 := rfl
set_option maxRecDepth 65536 in
theorem w_args : argsFit about1.vm theMethod args0 = true := by decide +kernel
set_option maxRecDepth 65536 in
theorem w_heap : heapFits about1 = true := by decide +kernel
set_option maxRecDepth 65536 in
theorem w_runnable : about1.curStatus? = some .runnable := by decide +kernel
set_option maxRecDepth 65536 in
theorem w_alone : about1.alone = true := by decide +kernel
set_option maxRecDepth 65536 in
theorem w_named : about1.methodNamed? x = some theMethod := by decide +kernel
set_option maxRecDepth 65536 in
theorem w_hears : about1.hears theMethod below0 = true := by decide +kernel
set_option maxRecDepth 65536 in
theorem w_ripe : about1.ripe theMethod args0 below0 = true := by decide +kernel
theorem w_running : about1.status = .running := rfl
set_option maxRecDepth 65536 in
theorem w_room : about1.hasRoom e0.platform room_1 = true :=
  launch0.hasRoom_least _ room_1 (by decide +kernel) (by decide +kernel) (by decide +kernel) (by decide +kernel) (by decide +kernel) (by decide +kernel)
theorem allAtoms_all (ts : List Jvm.Cond) (a : Array Jvm.Value) (st : Jvm.State) : (allAtoms ts).before a st = ts.all (fun c => c.before a st) := by
  induction ts with
  | nil => rfl
  | cons c t ih =>
    show (Jvm.Cond.and c (allAtoms t)).before a st = _
    rw [Jvm.Cond.before_and, ih, List.all_cons]
def words1 : List Jvm.Cond := Jvm.Cond.code x code maxLocals ret :: tables_1
/-- a 'code' word, met by the world's own term for the bytes: nothing is compared byte by byte -/
theorem code_word {y : MethodName} {bytes : ByteArray} {mx : Nat} {rt : Option FieldType} {a : Array Value} {s : State} {m : MethodId} {meth : Method} {c : Code} (h1 : s.methodNamed? y = some m) (h2 : s.vm.method? m = some meth) (h3 : meth.code = some c) (h4 : c.code = bytes)
    (h5 : (c.maxLocals == mx && c.exceptionTable.isEmpty && decide (c.maxStack ≤ mostOperands) && decide (meth.sig.returnType = rt) && !meth.locks && decide (parseMethodDescriptor y.desc = some meth.sig)) = true) : (Jvm.Cond.code y bytes mx rt).before a s = true := by
  simp only [Bool.and_eq_true, beq_iff_eq, Bool.not_eq_true', decide_eq_true_eq] at h5
  obtain ⟨⟨⟨⟨⟨g1, g2⟩, g3⟩, g4⟩, g5⟩, g6⟩ := h5
  simp [Cond.before, Cond.holds, Cond.value, h1, h2, h3, h4, g1, g2, g3, g4, g5, g6]
def isCode : Jvm.Cond → Bool
  | .code _ _ _ _ => true
  | _ => false
theorem all_split {L : List Jvm.Cond} {P : Jvm.Cond → Bool} (h1 : L.all (fun c => isCode c || P c) = true) (h2 : ∀ c ∈ L.filter isCode, P c = true) : L.all P = true := by
  refine List.all_eq_true.mpr fun c hc => ?_
  have h := List.all_eq_true.mp h1 c hc
  rcases Bool.eq_false_or_eq_true (isCode c) with hi | hi
  · exact h2 c (List.mem_filter.mpr ⟨hc, hi⟩)
  · simpa [hi] using h
set_option maxRecDepth 65536 in
theorem w_c0 : (Jvm.Cond.code x code maxLocals ret).before args0 about1 = true := code_word (m := ⟨1, 1⟩) (meth := k1m1) (c := k1c1) (by decide +kernel) rfl rfl rfl (by decide +kernel)
set_option maxRecDepth 65536 in
theorem w_c1 : (Jvm.Cond.code ({ cls := "com/example/thingstead/thingstead/mimir/Grids", name := "zeros", desc := "(II)[[I" } : Jvm.MethodName) prog_7_method_2_code (4 : Nat) (Option.some (Jvm.ClassFile.FieldType.array (Jvm.ClassFile.FieldType.array Jvm.ClassFile.FieldType.int)))).before args0 about1 = true := code_word (m := ⟨2, 1⟩) (meth := k2m1) (c := k2c1) (by decide +kernel) rfl rfl rfl (by decide +kernel)
set_option maxRecDepth 65536 in
theorem w_c2 : (Jvm.Cond.code ({ cls := "com/example/thingstead/thingstead/mimir/GridsZerosPinLaw", name := "rowOk", desc := "([[IIII)Z" } : Jvm.MethodName) method_3_code (5 : Nat) (Option.some Jvm.ClassFile.FieldType.boolean)).before args0 about1 = true := code_word (m := ⟨1, 2⟩) (meth := k1m2) (c := k1c2) (by decide +kernel) rfl rfl rfl (by decide +kernel)
set_option maxRecDepth 65536 in
theorem w_c3 : (Jvm.Cond.code ({ cls := "com/example/thingstead/thingstead/mimir/GridsZerosPinLaw", name := "distinct", desc := "([[IIII)Z" } : Jvm.MethodName) method_5_code (4 : Nat) (Option.some Jvm.ClassFile.FieldType.boolean)).before args0 about1 = true := code_word (m := ⟨1, 4⟩) (meth := k1m4) (c := k1c4) (by decide +kernel) rfl rfl rfl (by decide +kernel)
set_option maxRecDepth 65536 in
theorem w_c4 : (Jvm.Cond.code ({ cls := "com/example/thingstead/thingstead/mimir/GridsZerosPinLaw", name := "zeroAt", desc := "([II)Z" } : Jvm.MethodName) method_4_code (2 : Nat) (Option.some Jvm.ClassFile.FieldType.boolean)).before args0 about1 = true := code_word (m := ⟨1, 3⟩) (meth := k1m3) (c := k1c3) (by decide +kernel) rfl rfl rfl (by decide +kernel)
def codes1 : List Jvm.Cond := [Jvm.Cond.code x code maxLocals ret, Jvm.Cond.code ({ cls := "com/example/thingstead/thingstead/mimir/Grids", name := "zeros", desc := "(II)[[I" } : Jvm.MethodName) prog_7_method_2_code (4 : Nat) (Option.some (Jvm.ClassFile.FieldType.array (Jvm.ClassFile.FieldType.array Jvm.ClassFile.FieldType.int))), Jvm.Cond.code ({ cls := "com/example/thingstead/thingstead/mimir/GridsZerosPinLaw", name := "rowOk", desc := "([[IIII)Z" } : Jvm.MethodName) method_3_code (5 : Nat) (Option.some Jvm.ClassFile.FieldType.boolean), Jvm.Cond.code ({ cls := "com/example/thingstead/thingstead/mimir/GridsZerosPinLaw", name := "distinct", desc := "([[IIII)Z" } : Jvm.MethodName) method_5_code (4 : Nat) (Option.some Jvm.ClassFile.FieldType.boolean), Jvm.Cond.code ({ cls := "com/example/thingstead/thingstead/mimir/GridsZerosPinLaw", name := "zeroAt", desc := "([II)Z" } : Jvm.MethodName) method_4_code (2 : Nat) (Option.some Jvm.ClassFile.FieldType.boolean)]
set_option maxRecDepth 65536 in
theorem codes_eq : words1.filter isCode = codes1 := rfl
theorem w_codes : ∀ c ∈ words1.filter isCode, c.before args0 about1 = true := by
  rw [codes_eq]
  intro c hc
  simp only [codes1, List.mem_cons, List.not_mem_nil, or_false] at hc
  rcases hc with rfl | rfl | rfl | rfl | rfl
  · exact w_c0
  · exact w_c1
  · exact w_c2
  · exact w_c3
  · exact w_c4
set_option maxRecDepth 65536 in
theorem w_t1 : words1.all (fun c => isCode c || c.before args0 about1) = true := by decide +kernel
theorem w_tables : (allAtoms (Jvm.Cond.code x code maxLocals ret :: tables_1)).before args0 about1 = true := by
  rw [allAtoms_all]
  show words1.all (fun c => c.before args0 about1) = true
  refine all_split ?_ w_codes
  rw [w_t1]
set_option maxRecDepth 65536 in
theorem w_case : (Jvm.Cond.and given_1 narrow_1).before args0 about1 = true := by decide +kernel
theorem w_applies : (headSpec (Jvm.Cond.code x code maxLocals ret :: tables_1) room_1).applies x e0.platform about1 = true :=
  (Spec.applies_iff w_frames).mpr ⟨w_running, w_runnable, w_alone, w_named, w_hears, w_ripe, w_room, w_tables⟩
theorem atStart : AtStart classFile x code maxLocals ret World_1 tables_1 room_1 Calls_1 rest_1 Pre_1 launch0 p0 e0 about1 theMethod args0 below0 :=
  ⟨lists_1, trivial, launch0.admits_env _ _ _, launch0.least_env, fairChoices_fair.cas, fairChoices_fair.clock, w_frames, w_args, w_heap, w_applies, trivial, trivial, w_case⟩
end start1
theorem witness_1 : WitnessClaimed_1 := ⟨start1.p0, start1.e0, start1.about1, start1.theMethod, start1.args0, start1.below0, start1.atStart⟩
end Jvm.Pilot.@@N@@
