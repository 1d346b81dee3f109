import JvmDerived
import JvmDerived.Pilot.@@N@@Statement
import JvmDerived.Pilot.@@N@@Code
set_option linter.unusedVariables false
set_option linter.unusedSimpArgs false
namespace Jvm.OwnGo
open Sem ClassFile Op Lib Jvm.Stand Jvm.Free Jvm.LawKit Jvm.RoadKit
section Own
variable {p : Program} {l : Launch} {e : Env} {R : Room} {s : State} {m : MethodId} {args : Array Value} {below : List Frame} {meth : Method} {c : Code} {T T' : State} {locs : List Loc} {cells slots : Nat} {P : Outcome → State → Prop} {g g' : JFrame} {Z : State} {h : Heap}
/-- from where the walk stands (the state T, the frame g) it ends well -/
def Go (p : Program) (e : Env) (below : List Frame) (P : Outcome → State → Prop) (T : State) (g : JFrame) : Prop :=
  ∃ s₂ o, Steps p.tables e below (T.setTop g) s₂ ∧ s₂.status = .running ∧ Ended s₂ below o ∧ P o s₂
/-- what a contract asks of the end -/
abbrev PQ (s : State) (C S : Nat) (Q : Option Value → Heap → List Loc → Prop) : Outcome → State → Prop := fun o U' => ∃ v L, o = .returned v ∧ Q v U'.heap L ∧ FrameEnd s o U' L C S
theorem goS {n : Nat} {Ls' : Array Slot} {st' : List Value} (k : ∀ t, Steps p.tables e below (T'.setTop (mkF m n Ls' st')) t → Steps p.tables e below (T.setTop g) t) (h : Go p e below P T' (mkF m n Ls' st')) : Go p e below P T g := by
  obtain ⟨s2, o, h1, h2⟩ := h; exact ⟨s2, o, k _ h1, h2⟩
theorem goT {n : Nat} {Ls' : Array Slot} {st' : List Value} (k : Steps p.tables e below (T.setTop g) (T'.setTop (mkF m n Ls' st'))) (h : Go p e below P T' (mkF m n Ls' st')) : Go p e below P T g := by
  obtain ⟨s2, o, h1, h2⟩ := h; exact ⟨s2, o, k.trans h1, h2⟩
theorem enter (q : entryFrame m args n = g) (h : Go p e below P T g) : ∃ s₂ o, Steps p.tables e below (T.setTop (entryFrame m args n)) s₂ ∧ s₂.status = .running ∧ Ended s₂ below o ∧ P o s₂ := by
  rw [q]; exact h
theorem goRet {Q : Option Value → Heap → List Loc → Prop} {C S : Nat} (X : Stand p l e R s m args below meth c T locs cells slots) (hx : p.tables.exec = Jvm.exec) (hlk : meth.locks = false) {pc : Nat} {Ls : Array Slot} {w : Value} {t : FieldType} {i : Instr} {rest : List Value} (hret : meth.sig.returnType = some t) (hn : narrow t w = w)
    (hi : (i = .ireturn ∧ (t = .int ∨ t = .boolean ∨ t = .byte ∨ t = .char ∨ t = .short) ∧ ∃ z, w = .int z) ∨ (i = .lreturn ∧ t = .long ∧ ∃ z, w = .long z) ∨ (i = .dreturn ∧ t = .double ∧ ∃ z, w = .double z) ∨ (i = .freturn ∧ t = .float ∧ ∃ z, w = .float z) ∨ (i = .areturn ∧ t.isReference = true ∧ w.isRef = true))
    (hd : decode c.code pc = .ok (i, 1)) (hC : cells ≤ C) (hS : slots ≤ S) (hQ : Q (some w) T.heap locs) : Go p e below (PQ s C S Q) T (mkF m pc Ls (w :: rest)) := by
  obtain ⟨fs, hr, hrun, hended, hW, hsame⟩ := X.leave (v := some w) (fun h => by rw [hret] at h; cases h) hlk
  exact ⟨_, _, retOut X hx hret hn hi hd hr, hrun, hended, _, _, rfl, hQ, ⟨_, rfl⟩, hW, hsame.mono hC hS⟩
theorem goRetI {Q : Option Value → Heap → List Loc → Prop} {C S : Nat} (X : Stand p l e R s m args below meth c T locs cells slots) (hx : p.tables.exec = Jvm.exec) (hlk : meth.locks = false) {pc : Nat} {Ls : Array Slot} {z : Int32} {rest : List Value} (hret : meth.sig.returnType = some .int) (hd : decode c.code pc = .ok (.ireturn, 1)) (hC : cells ≤ C) (hS : slots ≤ S) (hQ : Q (some (.int z)) T.heap locs) : Go p e below (PQ s C S Q) T (mkF m pc Ls (.int z :: rest)) :=
  goRet X hx hlk hret rfl (Or.inl ⟨rfl, Or.inl rfl, _, rfl⟩) hd hC hS hQ
theorem goRetZ {Q : Option Value → Heap → List Loc → Prop} {C S : Nat} (X : Stand p l e R s m args below meth c T locs cells slots) (hx : p.tables.exec = Jvm.exec) (hlk : meth.locks = false) {pc : Nat} {Ls : Array Slot} {z : Int32} {rest : List Value} (hret : meth.sig.returnType = some .boolean) (hz : z = 0 ∨ z = 1) (hd : decode c.code pc = .ok (.ireturn, 1)) (hC : cells ≤ C) (hS : slots ≤ S) (hQ : Q (some (.int z)) T.heap locs) : Go p e below (PQ s C S Q) T (mkF m pc Ls (.int z :: rest)) :=
  goRet X hx hlk hret (by rcases hz with rfl | rfl <;> rfl) (Or.inl ⟨rfl, Or.inr (Or.inl rfl), _, rfl⟩) hd hC hS hQ
theorem goRetJ {Q : Option Value → Heap → List Loc → Prop} {C S : Nat} (X : Stand p l e R s m args below meth c T locs cells slots) (hx : p.tables.exec = Jvm.exec) (hlk : meth.locks = false) {pc : Nat} {Ls : Array Slot} {z : Int64} {rest : List Value} (hret : meth.sig.returnType = some .long) (hd : decode c.code pc = .ok (.lreturn, 1)) (hC : cells ≤ C) (hS : slots ≤ S) (hQ : Q (some (.long z)) T.heap locs) : Go p e below (PQ s C S Q) T (mkF m pc Ls (.long z :: rest)) :=
  goRet X hx hlk hret rfl (Or.inr (Or.inl ⟨rfl, rfl, _, rfl⟩)) hd hC hS hQ
theorem goRetA {Q : Option Value → Heap → List Loc → Prop} {C S : Nat} (X : Stand p l e R s m args below meth c T locs cells slots) (hx : p.tables.exec = Jvm.exec) (hlk : meth.locks = false) {pc : Nat} {Ls : Array Slot} {w : Value} {t : FieldType} {rest : List Value} (hret : meth.sig.returnType = some t) (ht : t.isReference = true) (hw : w.isRef = true) (hd : decode c.code pc = .ok (.areturn, 1)) (hC : cells ≤ C) (hS : slots ≤ S) (hQ : Q (some w) T.heap locs) : Go p e below (PQ s C S Q) T (mkF m pc Ls (w :: rest)) :=
  goRet X hx hlk hret (by cases t <;> first | rfl | cases ht) (Or.inr (Or.inr (Or.inr (Or.inr ⟨rfl, ht, hw⟩)))) hd hC hS hQ
theorem goRetV {Q : Option Value → Heap → List Loc → Prop} {C S : Nat} (X : Stand p l e R s m args below meth c T locs cells slots) (hx : p.tables.exec = Jvm.exec) (hlk : meth.locks = false) {pc : Nat} {Ls : Array Slot} (hret : meth.sig.returnType = none) (hd : decode c.code pc = .ok (.return_, 1)) (hC : cells ≤ C) (hS : slots ≤ S) (hQ : Q none T.heap locs) : Go p e below (PQ s C S Q) T (mkF m pc Ls []) := by
  obtain ⟨fs, hr, hrun, hended, hW, hsame⟩ := X.leave (v := none) (fun _ => rfl) hlk
  exact ⟨_, _, X.returnOut hx hret hd hr, hrun, hended, _, _, rfl, hQ, ⟨_, rfl⟩, hW, hsame.mono hC hS⟩
abbrev PQW (s : State) (C S : Nat) (Q : Option Value → Heap → List Loc → Prop) : Outcome → State → Prop := fun o U' => ∃ v L, o = .returned v ∧ Q v U'.heap L ∧ ReturnedEndW s o U' L C S
theorem goRetW {Q : Option Value → Heap → List Loc → Prop} {C S : Nat} {vm₁ : Vm} (X : Stand p l e R (s.setVm vm₁) m args below meth c T locs cells slots) (hx : p.tables.exec = Jvm.exec) (hlk : meth.locks = false) {n : Nat} (hS : s.Since vm₁ n) (hn0 : n ≤ T.heap.size) {pc : Nat} {Ls : Array Slot} {w : Value} {t : FieldType} {i : Instr} {rest : List Value} (hret : meth.sig.returnType = some t) (hn : narrow t w = w)
    (hi : (i = .ireturn ∧ (t = .int ∨ t = .boolean ∨ t = .byte ∨ t = .char ∨ t = .short) ∧ ∃ z, w = .int z) ∨ (i = .lreturn ∧ t = .long ∧ ∃ z, w = .long z) ∨ (i = .dreturn ∧ t = .double ∧ ∃ z, w = .double z) ∨ (i = .freturn ∧ t = .float ∧ ∃ z, w = .float z) ∨ (i = .areturn ∧ t.isReference = true ∧ w.isRef = true))
    (hd : decode c.code pc = .ok (i, 1)) (hC : cells ≤ C) (hSl : slots ≤ S) (hQ : Q (some w) T.heap locs) : Go p e below (PQW s C S Q) T (mkF m pc Ls (w :: rest)) := by
  obtain ⟨fs, hr, hrun, hended, h1, h2, h3, h4⟩ := X.leaveW hS hn0 (v := some w) (fun h => by rw [hret] at h; cases h) hlk
  exact ⟨_, _, retOut X hx hret hn hi hd hr, hrun, hended, _, _, rfl, hQ, ⟨_, rfl⟩, h2, h3, h4.mono hC hSl⟩
theorem goRetVW {Q : Option Value → Heap → List Loc → Prop} {C S : Nat} {vm₁ : Vm} (X : Stand p l e R (s.setVm vm₁) m args below meth c T locs cells slots) (hx : p.tables.exec = Jvm.exec) (hlk : meth.locks = false) {n : Nat} (hS : s.Since vm₁ n) (hn0 : n ≤ T.heap.size) {pc : Nat} {Ls : Array Slot} (hret : meth.sig.returnType = none) (hd : decode c.code pc = .ok (.return_, 1)) (hC : cells ≤ C) (hSl : slots ≤ S) (hQ : Q none T.heap locs) : Go p e below (PQW s C S Q) T (mkF m pc Ls []) := by
  obtain ⟨fs, hr, hrun, hended, h1, h2, h3, h4⟩ := X.leaveW hS hn0 (v := none) (fun _ => rfl) hlk
  exact ⟨_, _, X.returnOut hx hret hd hr, hrun, hended, _, _, rfl, hQ, ⟨_, rfl⟩, h2, h3, h4.mono hC hSl⟩
abbrev PQH (Z : State) (EL : List (String × Nat)) (s : State) (C S : Nat) (Q : Option Value → Heap → List Loc → Prop) : Outcome → State → Prop := fun o U' => ∃ v L, o = .returned v ∧ Q v U'.heap L ∧ CHr Z EL s.vm s.heap U'.vm U'.heap ∧ ReturnedEndW s o U' L C S
theorem goRetH {Q : Option Value → Heap → List Loc → Prop} {C S : Nat} {vm₁ : Vm} {EL : List (String × Nat)} {a0 : Array Value} (X : Stand p l e R (s.setVm vm₁) m args below meth c T locs cells slots) (hx : p.tables.exec = Jvm.exec) (hlk : meth.locks = false) {n : Nat} (hS : s.Since vm₁ n) (hn0 : n ≤ T.heap.size) (hZ : Z.Warmed39 vm₁) (hEL : EW Z a0 EL) (hC' : CHr Z EL s.vm s.heap vm₁ T.heap) {pc : Nat} {Ls : Array Slot} {w : Value} {t : FieldType} {i : Instr} {rest : List Value} (hret : meth.sig.returnType = some t) (hn : narrow t w = w)
    (hi : (i = .ireturn ∧ (t = .int ∨ t = .boolean ∨ t = .byte ∨ t = .char ∨ t = .short) ∧ ∃ z, w = .int z) ∨ (i = .lreturn ∧ t = .long ∧ ∃ z, w = .long z) ∨ (i = .dreturn ∧ t = .double ∧ ∃ z, w = .double z) ∨ (i = .freturn ∧ t = .float ∧ ∃ z, w = .float z) ∨ (i = .areturn ∧ t.isReference = true ∧ w.isRef = true))
    (hd : decode c.code pc = .ok (i, 1)) (hC : cells ≤ C) (hSl : slots ≤ S) (hQ : Q (some w) T.heap locs) : Go p e below (PQH Z EL s C S Q) T (mkF m pc Ls (w :: rest)) := by
  obtain ⟨fs, hr, hrun, hended, h1, h2, h3, h4⟩ := X.leaveW hS hn0 (v := some w) (fun h => by rw [hret] at h; cases h) hlk
  have qC : CHr Z EL s.vm s.heap T.vm T.heap := hC'.trans (CHv.at X hZ hEL hC'.1)
  exact ⟨_, _, retOut X hx hret hn hi hd hr, hrun, hended, _, _, rfl, hQ, qC, ⟨_, rfl⟩, h2, h3, h4.mono hC hSl⟩
theorem goRetVH {Q : Option Value → Heap → List Loc → Prop} {C S : Nat} {vm₁ : Vm} {EL : List (String × Nat)} {a0 : Array Value} (X : Stand p l e R (s.setVm vm₁) m args below meth c T locs cells slots) (hx : p.tables.exec = Jvm.exec) (hlk : meth.locks = false) {n : Nat} (hS : s.Since vm₁ n) (hn0 : n ≤ T.heap.size) (hZ : Z.Warmed39 vm₁) (hEL : EW Z a0 EL) (hC' : CHr Z EL s.vm s.heap vm₁ T.heap) {pc : Nat} {Ls : Array Slot} (hret : meth.sig.returnType = none) (hd : decode c.code pc = .ok (.return_, 1)) (hC : cells ≤ C) (hSl : slots ≤ S) (hQ : Q none T.heap locs) : Go p e below (PQH Z EL s C S Q) T (mkF m pc Ls []) := by
  obtain ⟨fs, hr, hrun, hended, h1, h2, h3, h4⟩ := X.leaveW hS hn0 (v := none) (fun _ => rfl) hlk
  have qC : CHr Z EL s.vm s.heap T.vm T.heap := hC'.trans (CHv.at X hZ hEL hC'.1)
  exact ⟨_, _, X.returnOut hx hret hd hr, hrun, hended, _, _, rfl, hQ, qC, ⟨_, rfl⟩, h2, h3, h4.mono hC hSl⟩
/-- a String under construction (its value is null) is no booked one -/
theorem safeNull {vm : Vm} {EL : List (String × Nat)} {a : Addr} (hal : Z.vm.Alike vm) (E : Exa Z h a "java/lang/String") (F : Fld Z h a "java/lang/String" "value" "[B" .null) : Safe Z EL vm h a := fun B => by
  obtain ⟨cell, cf, k, i, f, f1, f2, f3, f4, f5, f6, f7⟩ := F
  obtain ⟨cell', k', e1, e2, e3, -, -⟩ := E
  cases f1.symm.trans e1
  obtain ⟨p, -, u, a', -, q, -, F', rfl | rfl⟩ := B
  · have ha := F'.ha
    cases (show h[q.sa]? = some q.sC from ha).symm.trans f1
    obtain ⟨cS, ⟨⟨-, -, -, ⟨cv, kv, iv, s4, -⟩, -, -, -, s8, -⟩, -⟩, -⟩ := F'
    obtain ⟨kv', z4⟩ := ff_back (U := Wst Z vm h) hal s4
    cases f2.symm.trans z4
    rw [f7] at s8
    cases s8
  · have hd := F'.hd
    cases (show h[q.sd]? = some q.SA from hd).symm.trans f1
    obtain ⟨cS, -, -, hB, -⟩ := F'
    have hB' : Z.vm.findClass "[B" = some q.SA.cls := by rw [← hal.findClass]; exact hB
    obtain ⟨k1, q1, q2⟩ := Vm.findClass_spec hB'
    obtain ⟨k2, q3, q4⟩ := Vm.findClass_spec e2
    cases q1.symm.trans q3
    exact absurd (q2.symm.trans q4) (by decide)
theorem mvMN {a0 args : Array Value} {own host : String} {y : MethodName} {index : Nat} (hZ : Z.Warmed39 s.vm) (w : (Cond.methodLinkNest own index y host).before a0 Z = true) : (Cond.methodLinkNest own index y host).before args s = true := (Cond.methodLinkNest_wide hZ w :)
theorem shr0 (z : Int32) : z >>> ((0 : Int32) &&& 31) = z := by
  have h := c_ishr z 0 0 (by decide)
  exact Int32.toInt_inj.mp (by rw [h]; omega)
theorem narZ {z : Int32} (hz : z = 0 ∨ z = 1) : narrow .boolean (.int z) = .int z := by rcases hz with rfl | rfl <;> rfl
theorem fldStart {args : Array Value} {t : Term} {C n d : String} {a : Addr} {k : Int32} (ht : t.eval args Z none [] Z = some (.ref a)) (h : (Cond.eq (Term.field t C n d) (.int k)).value args Z none Z [] = some true) : Fld Z Z.heap a C n d (.int k) := by
  obtain ⟨x, y, e1, e2, k1, k2⟩ := cmp_v (Or.inl h)
  rw [Term.int_eval] at e2
  cases e2
  obtain ⟨z, rfl⟩ := k2
  have e3 := e1
  rw [fld_at ht] at e3
  have q : z = k := by simpa [Cond.value, e1, Term.int_eval] using h
  subst q
  exact Fld.start e3
def bi (P : Prop) [Decidable P] : Int32 := if P then 1 else 0
theorem bi_t {P : Prop} [Decidable P] (h : P) : bi P = 1 := if_pos h
theorem bi_f {P : Prop} [Decidable P] (h : ¬ P) : bi P = 0 := if_neg h
theorem bi01 (P : Prop) [Decidable P] : bi P = 0 ∨ bi P = 1 := by unfold bi; split <;> simp
theorem modk (x k : Int32) (K : Int) (hk : k.toInt = K) : 0 < K → 0 ≤ ((x &&& 2147483647) % k).toInt ∧ ((x &&& 2147483647) % k).toInt < K := by
  intro h0
  have h1 := c_mask x 2147483647 31 (by decide) (by decide)
  have h2 : 0 ≤ (x &&& 2147483647).toInt := by rw [h1]; omega
  have h3 := (c_irem (x &&& 2147483647) k K hk).1 h2
  rw [h3]
  exact ⟨Int.emod_nonneg _ (by omega), Int.emod_lt_of_pos _ h0⟩
/-- an index: a natural below n -/
theorem idx {i : Int32} {n : Nat} (h : 0 ≤ i.toInt ∧ i.toInt < (n : Int)) : ∃ k : Nat, k < n ∧ i.toInt = (k : Int) ∧ i.toNatClampNeg = k ∧ ¬ i < 0 := by
  have h0 : ¬ i < 0 := by rw [Int32.lt_iff_toInt_lt]; show ¬ i.toInt < 0; omega
  have h1 := nat_of h0
  exact ⟨i.toNatClampNeg, by omega, h1, rfl, h0⟩
theorem lsw {target : State} (X : Stand p l e R s m args below meth c T locs cells slots) (hx : p.tables.exec = Jvm.exec) (hg : g.method = m) {dflt : Int} {pairs : Array (Int × Int)} {len pc0 pc' : Nat} (hpc : g.pc = pc0) {o : Int} {i : Int32} {rest : List Value} (hd : decode c.code g.pc = .ok (.lookupswitch dflt pairs, len)) (hs : g.stack = .int i :: rest)
    (hord : ∀ (a b a_1 b_1 : Int), ((a, b), a_1, b_1) ∈ pairs.toList.zip pairs.toList.tail → a < a_1) (hf : (∃ kk, pairs.find? (·.1 == i.toInt) = some (kk, o)) ∨ (pairs.find? (·.1 == i.toInt) = none ∧ o = dflt)) (h0 : 0 ≤ (pc0 : Int) + o) (hp : ((pc0 : Int) + o).toNat = pc')
    (hr : Steps p.tables e below (T.setTop { g with pc := pc', stack := rest }) target) : Steps p.tables e below (T.setTop g) target := by
  subst hg hpc hp
  rcases hf with ⟨kk, hf⟩ | ⟨hf, rfl⟩
  · jvm_step X.here [X.here.top, hx, hd, hs, hf, h0, lookupswitch.wp_whole]
    exact ⟨hord, hr⟩
  · jvm_step X.here [X.here.top, hx, hd, hs, hf, h0, lookupswitch.wp_whole]
    exact ⟨hord, hr⟩
theorem ieq {x k : Int32} {n K : Nat} (hx : x.toInt = (n : Int)) (hk : k.toInt = (K : Int)) : x = k ↔ n = K := by rw [← Int32.toInt_inj, hx, hk]; omega
theorem lenStart {args : Array Value} {t : Term} {a : Addr} {cl : Cell} {ty : FieldType} {z : Int32} (ht : t.eval args Z none [] Z = some (.ref a)) (A : Arr Z Z.heap a cl ty) (h : (Term.length t).eval args Z none [] Z = some (.int z)) : cl.slots.size < 2 ^ 31 ∧ cl.slots.size.toInt32 = z := by
  have ha := A.fin (U := Z) (Vm.Alike.refl _)
  by_cases q : cl.slots.size < 2 ^ 31
  · refine ⟨q, ?_⟩
    rw [len_f ht ha q] at h
    exact Value.int.inj (Option.some.inj h)
  · simp [Term.eval, ht, ha, q] at h
theorem subIdx {args : Array Value} {j : Int32} (hj : ¬ j < 0) (k : Int32) : (Term.sub (.index 0) (.int k)).eval args Z none [j.toNatClampNeg] Z = some (.int (j - k)) := Term.sub_int (idx_at hj) (Term.int_eval _)
theorem bi_iff {P Q : Prop} [Decidable P] [Decidable Q] (h : P ↔ Q) : bi P = bi Q := by unfold bi; simp only [h]
theorem cacheIdx {x : Int32} {n : Nat} (h1 : ¬ x < (-128 : Int32)) (h2 : ¬ (127 : Int32) < x) (hn : n = (256 : Int32).toNatClampNeg) : ¬ (x + (128 : Int32) < 0 ∨ n ≤ (x + (128 : Int32)).toNatClampNeg) := by
  rw [Int32.lt_iff_toInt_lt] at h1 h2
  have a1 : ¬ x.toInt < -128 := h1
  have a2 : ¬ (127 : Int) < x.toInt := h2
  have q0 : (128 : Int32).toInt = 128 := rfl
  have q := c_iadd x 128
  have r := rng32 (x + 128)
  rw [q0] at q
  have e1 : (x + (128 : Int32)).toInt = x.toInt + 128 := by omega
  have e2 : ¬ x + (128 : Int32) < 0 := by rw [Int32.lt_iff_toInt_lt]; show ¬ _ < (0 : Int); omega
  have e3 := nat_of e2
  have e4 : n = 256 := hn
  rintro (h | h)
  · exact e2 h
  · omega
theorem nsRoot {a0 : Array Value} {O K : String} {n : Nat} (w : (Cond.noSuperclass O).before a0 Z = true) (wk : (Cond.instantiable K n).before a0 Z = true) (hn : O ≠ K) : NS Z O K := by
  obtain ⟨c, k, h1, h2, h3, -, -⟩ := Cond.noSuperclass_spec w
  obtain ⟨t, kt, g1, -⟩ := Cond.instantiable_spec wk
  have ne := ids_ne h1 g1 hn
  refine ⟨c, t, h1, g1, fun fuel => ?_⟩
  cases fuel with
  | zero => rfl
  | succ f => simp [Vm.isSubclassAux, ne, h2, h3]
theorem nsNo {a0 : Array Value} {C S K : String} {n : Nat} (w : (Cond.superclass C S).before a0 Z = true) (wk : (Cond.instantiable K n).before a0 Z = true) (q : NS Z C K) (hn : C ≠ K) : ∃ c t, Z.vm.findClass C = some c ∧ Z.vm.findClass K = some t ∧ Z.vm.assignable c t = false := by
  obtain ⟨c, t, h0, g0, n3⟩ := q
  obtain ⟨p, k, kp, h1, h2, h3, h4, h5, -, h7⟩ := Cond.superclass_spec h0 w
  obtain ⟨t', k', g1, g2, g5, g7, -⟩ := Cond.instantiable_spec wk
  cases g0.symm.trans g1
  have g8 := (Bool.or_eq_false_iff.mp g7).1
  have ne := ids_ne h0 g0 hn
  refine ⟨c, t, h0, g0, ?_⟩
  show Z.vm.assignableAux (255 + 1) c t = false
  simp [Vm.assignableAux, ne, h2, g2, h5, g5, g8, Vm.isSubclass, n3]
theorem ne_key {x k : Int32} {K : Int} (h : ¬ x = k) (hk : k.toInt = K) : K ≠ x.toInt := fun q => h (Int32.toInt_inj.mp (by rw [hk]; exact q.symm))
end Own
end Jvm.OwnGo

namespace Jvm.Pilot.@@N@@
open Jvm Jvm.ClassFile Sem Op Lib Jvm.Free Jvm.Stand Jvm.LawKit Jvm.RoadKit Jvm.OwnGo Bundle Jvm.Pilot.@@N@@.Jvm.D
theorem own_at (W : Nat → Addr) : ∀ n, n < 14 → [Value.ref (W 0), Value.ref (W 1), Value.ref (W 2), Value.ref (W 3), Value.ref (W 4), Value.ref (W 5), Value.ref (W 6), Value.ref (W 7), Value.ref (W 8), Value.ref (W 9), Value.ref (W 10), Value.ref (W 11), Value.ref (W 12), Value.ref (W 13)].getD n .null = Value.ref (W n) := by
  intro n hn
  iterate 14 (rcases n with _ | n; · rfl)
  omega
abbrev own_E (x y : Int32) : Prop := x = 13 ∨ x = y ∨ (y = 5 ∧ (x = 0 ∨ x = 1 ∨ x = 3 ∨ x = 4)) ∨ (y = 7 ∧ x = 8)
abbrev own_I (W : Nat → Addr) (a b : Addr) (o : Int32) : Prop := a = W 13 ∨ a = b ∨ (o = 5 ∧ (a = W 0 ∨ a = W 1 ∨ a = W 3 ∨ a = W 4)) ∨ (o = 7 ∧ a = W 8)
theorem own_same (W : Nat → Addr) (INJ : ∀ i j, i < 14 → j < 14 → W i = W j → i = j) (n k : Nat) (hn : n < 14) (hk : k < 14) (i j : Int32) (hi : i.toInt = (n : Int)) (hj : j.toInt = (k : Int)) : own_I W (W n) (W k) j ↔ own_E i j := by
  have A : ∀ c : Nat, c < 14 → (W n = W c ↔ n = c) := fun c hc => ⟨INJ n c hn hc, fun q => q ▸ rfl⟩
  have B : ∀ (z y : Int32) (a c : Nat), z.toInt = (a : Int) → y.toInt = (c : Int) → (z = y ↔ a = c) := fun z y a c h1 h2 => by rw [← Int32.toInt_inj, h1, h2]; omega
  unfold own_I own_E
  rw [A 13 (by decide), A k hk, A 0 (by decide), A 1 (by decide), A 3 (by decide), A 4 (by decide), A 8 (by decide), B i 13 n 13 hi rfl, B i j n k hi hj, B j 5 k 5 hj rfl, B i 0 n 0 hi rfl, B i 1 n 1 hi rfl, B i 3 n 3 hi rfl, B i 4 n 4 hi rfl, B j 7 k 7 hj rfl, B i 8 n 8 hi rfl]
theorem d1_0 : decode method_3_code 0 = .ok (.iload_n 0, 1) := by decide +kernel
theorem d1_1 : decode method_3_code 1 = .ok (.bipush 13, 2) := by decide +kernel
theorem d1_3 : decode method_3_code 3 = .ok (.if_icmp .ne 5, 3) := by decide +kernel
theorem d1_6 : decode method_3_code 6 = .ok (.iconst 1, 1) := by decide +kernel
theorem d1_7 : decode method_3_code 7 = .ok (.ireturn, 1) := by decide +kernel
theorem d1_8 : decode method_3_code 8 = .ok (.iload_n 0, 1) := by decide +kernel
theorem d1_9 : decode method_3_code 9 = .ok (.iload_n 1, 1) := by decide +kernel
theorem d1_10 : decode method_3_code 10 = .ok (.if_icmp .ne 5, 3) := by decide +kernel
theorem d1_13 : decode method_3_code 13 = .ok (.iconst 1, 1) := by decide +kernel
theorem d1_14 : decode method_3_code 14 = .ok (.ireturn, 1) := by decide +kernel
theorem d1_15 : decode method_3_code 15 = .ok (.iload_n 1, 1) := by decide +kernel
theorem d1_16 : decode method_3_code 16 = .ok (.iconst 5, 1) := by decide +kernel
theorem d1_17 : decode method_3_code 17 = .ok (.if_icmp .ne 28, 3) := by decide +kernel
theorem d1_20 : decode method_3_code 20 = .ok (.iload_n 0, 1) := by decide +kernel
theorem d1_21 : decode method_3_code 21 = .ok (.ifCond .eq 18, 3) := by decide +kernel
theorem d1_39 : decode method_3_code 39 = .ok (.iconst 1, 1) := by decide +kernel
theorem d1_40 : decode method_3_code 40 = .ok (.goto 4, 3) := by decide +kernel
theorem d1_44 : decode method_3_code 44 = .ok (.ireturn, 1) := by decide +kernel
theorem d1_24 : decode method_3_code 24 = .ok (.iload_n 0, 1) := by decide +kernel
theorem d1_25 : decode method_3_code 25 = .ok (.iconst 1, 1) := by decide +kernel
theorem d1_26 : decode method_3_code 26 = .ok (.if_icmp .eq 13, 3) := by decide +kernel
theorem d1_29 : decode method_3_code 29 = .ok (.iload_n 0, 1) := by decide +kernel
theorem d1_30 : decode method_3_code 30 = .ok (.iconst 3, 1) := by decide +kernel
theorem d1_31 : decode method_3_code 31 = .ok (.if_icmp .eq 8, 3) := by decide +kernel
theorem d1_34 : decode method_3_code 34 = .ok (.iload_n 0, 1) := by decide +kernel
theorem d1_35 : decode method_3_code 35 = .ok (.iconst 4, 1) := by decide +kernel
theorem d1_36 : decode method_3_code 36 = .ok (.if_icmp .ne 7, 3) := by decide +kernel
theorem d1_43 : decode method_3_code 43 = .ok (.iconst 0, 1) := by decide +kernel
theorem d1_45 : decode method_3_code 45 = .ok (.iload_n 1, 1) := by decide +kernel
theorem d1_46 : decode method_3_code 46 = .ok (.bipush 7, 2) := by decide +kernel
theorem d1_48 : decode method_3_code 48 = .ok (.if_icmp .ne 15, 3) := by decide +kernel
theorem d1_51 : decode method_3_code 51 = .ok (.iload_n 0, 1) := by decide +kernel
theorem d1_52 : decode method_3_code 52 = .ok (.bipush 8, 2) := by decide +kernel
theorem d1_54 : decode method_3_code 54 = .ok (.if_icmp .ne 7, 3) := by decide +kernel
theorem d1_57 : decode method_3_code 57 = .ok (.iconst 1, 1) := by decide +kernel
theorem d1_58 : decode method_3_code 58 = .ok (.goto 4, 3) := by decide +kernel
theorem d1_62 : decode method_3_code 62 = .ok (.ireturn, 1) := by decide +kernel
theorem d1_61 : decode method_3_code 61 = .ok (.iconst 0, 1) := by decide +kernel
theorem d1_63 : decode method_3_code 63 = .ok (.iconst 0, 1) := by decide +kernel
theorem d1_64 : decode method_3_code 64 = .ok (.ireturn, 1) := by decide +kernel
theorem pn_0 : plainName "com/example/claimgate/claimgate/OperationImpliesPinLaw" = true := by first | (simp [plainName, overriddenIn]; done) | decide +kernel
theorem ef_exp (m : MethodId) (x : Int32) (y : Int32) : entryFrame m #[(.int x), (.int y)] 2 = mkF m 0 #[.val (.int x), .val (.int y)] [] := by first | (simp [entryFrame, mkF, argsToLocals, Value.category]; done) | rfl
abbrev R_exp : Room := { frames := 0, cells := 0, slots := 0, locals := 0 }
def Q_exp (Z : State) (x : Int32) (y : Int32) (h0 : Heap) (n0 : Nat) (v : Option Value) (h : Heap) (L : List Loc) : Prop := v = some (.int (bi (own_E x y))) ∧ Fr n0 L ∧ h = h0
set_option maxRecDepth 65536 in
set_option maxHeartbeats 40000000 in
theorem rm_exp (l : Launch) (Z : State) (a0 : Array Value) (hw : ∀ d ∈ tables_1, d.before a0 Z = true) (ws : List Jvm.Cond) (x : Int32) (y : Int32) (h0 : Heap) (n0 : Nat) (O0 : Old Z n0 h0) :
    MetFree l (⟨"com/example/claimgate/claimgate/OperationImpliesPinLaw", "expected", "(II)Z"⟩ : MethodName) (head1 (Jvm.Cond.code (⟨"com/example/claimgate/claimgate/OperationImpliesPinLaw", "expected", "(II)Z"⟩ : MethodName) method_3_code 2 (some .boolean) :: ws) R_exp) (fun as_ U => as_ = #[(.int x), (.int y)] ∧ Z.Warmed39 U.vm ∧ U.heap = h0) (fun _ _ _ _ _ => True) (fun _ U o U' => ∃ v L, o = .returned v ∧ Q_exp Z x y h0 n0 v U'.heap L ∧ FrameEnd U o U' L R_exp.cells R_exp.slots) := by
  refine MetFree.of_bodySF (plainFor_of_name pn_0) hisR ?_
  intro p e s m args below meth c s₁ Bd hml0 hP hK
  obtain ⟨rfl, hZ, hh⟩ := hP
  have hx := Bd.exec
  have hby := Bd.bytes
  have hml : c.maxLocals = 2 := hml0
  have hown : s.vm.findClass "com/example/claimgate/claimgate/OperationImpliesPinLaw" = some m.cls := findClass_of_methodNamed Bd.named
  have hnm := (name_of_methodNamed Bd.named Bd.method).1
  have hlk : meth.locks = false := BodyLoose.notSynchronized Bd
  have X0 : Stand p l e R_exp s m #[(.int x), (.int y)] below meth c s₁ [] 0 0 := Stand.of_body Bd
  have e0 : s₁.heap = h0 := by rw [← hh, Bd.state]; rfl
  have N0 := Fr.nil n0
  refine enter (P := PQ s R_exp.cells R_exp.slots (Q_exp Z x y h0 n0)) (ef_exp m x y) ?_
  refine goS (n := 1) (Ls' := #[.val (.int x), .val (.int y)]) (st' := [(.int x)]) (fun _ kz => XS.iloadN X0.here hx rfl (hb hby d1_0) rfl kz) ?_
  refine goS (n := 3) (Ls' := #[.val (.int x), .val (.int y)]) (st' := [(.int (13 : Int32)), (.int x)]) (fun _ kz => XS.bipush X0.here hx rfl (hb hby d1_1) kz) ?_
  by_cases hc1 : x = (13 : Int32)
  · refine goS (n := 6) (Ls' := #[.val (.int x), .val (.int y)]) (st' := []) (fun _ kz => XS.icmpNo X0.here hx rfl (hb hby d1_3) rfl (teq hc1).2 kz) ?_
    refine goS (n := 7) (Ls' := #[.val (.int x), .val (.int y)]) (st' := [(.int (1 : Int32))]) (fun _ kz => XS.iconst X0.here hx rfl (hb hby d1_6) kz) ?_
    exact goRetZ X0 hx hlk Bd.returns (Or.inr rfl) (hb hby d1_7) (by decide) (by decide) (by rw [e0]; exact ⟨by rw [((by intros; simp_all [bi]) : ∀ (x : Int32) (y : Int32), ((x = (13 : Int32))) → bi (own_E x y) = (1 : Int32)) x y hc1], N0, rfl⟩)
  · refine goS (n := 8) (Ls' := #[.val (.int x), .val (.int y)]) (st' := []) (fun _ kz => XS.icmpYes X0.here hx rfl (pc0 := 3) (pc' := 8) rfl (hb hby d1_3) rfl (feq hc1).2 (by decide) (by decide) kz) ?_
    refine goS (n := 9) (Ls' := #[.val (.int x), .val (.int y)]) (st' := [(.int x)]) (fun _ kz => XS.iloadN X0.here hx rfl (hb hby d1_8) rfl kz) ?_
    refine goS (n := 10) (Ls' := #[.val (.int x), .val (.int y)]) (st' := [(.int y), (.int x)]) (fun _ kz => XS.iloadN X0.here hx rfl (hb hby d1_9) rfl kz) ?_
    by_cases hc2 : x = y
    · refine goS (n := 13) (Ls' := #[.val (.int x), .val (.int y)]) (st' := []) (fun _ kz => XS.icmpNo X0.here hx rfl (hb hby d1_10) rfl (teq hc2).2 kz) ?_
      refine goS (n := 14) (Ls' := #[.val (.int x), .val (.int y)]) (st' := [(.int (1 : Int32))]) (fun _ kz => XS.iconst X0.here hx rfl (hb hby d1_13) kz) ?_
      exact goRetZ X0 hx hlk Bd.returns (Or.inr rfl) (hb hby d1_14) (by decide) (by decide) (by rw [e0]; exact ⟨by rw [((by intros; simp_all [bi]) : ∀ (x : Int32) (y : Int32), (¬ (x = (13 : Int32))) → ((x = y)) → bi (own_E x y) = (1 : Int32)) x y hc1 hc2], N0, rfl⟩)
    · refine goS (n := 15) (Ls' := #[.val (.int x), .val (.int y)]) (st' := []) (fun _ kz => XS.icmpYes X0.here hx rfl (pc0 := 10) (pc' := 15) rfl (hb hby d1_10) rfl (feq hc2).2 (by decide) (by decide) kz) ?_
      refine goS (n := 16) (Ls' := #[.val (.int x), .val (.int y)]) (st' := [(.int y)]) (fun _ kz => XS.iloadN X0.here hx rfl (hb hby d1_15) rfl kz) ?_
      refine goS (n := 17) (Ls' := #[.val (.int x), .val (.int y)]) (st' := [(.int (5 : Int32)), (.int y)]) (fun _ kz => XS.iconst X0.here hx rfl (hb hby d1_16) kz) ?_
      by_cases hc3 : y = (5 : Int32)
      · refine goS (n := 20) (Ls' := #[.val (.int x), .val (.int y)]) (st' := []) (fun _ kz => XS.icmpNo X0.here hx rfl (hb hby d1_17) rfl (teq hc3).2 kz) ?_
        refine goS (n := 21) (Ls' := #[.val (.int x), .val (.int y)]) (st' := [(.int x)]) (fun _ kz => XS.iloadN X0.here hx rfl (hb hby d1_20) rfl kz) ?_
        by_cases hc4 : x = (0 : Int32)
        · refine goS (n := 39) (Ls' := #[.val (.int x), .val (.int y)]) (st' := []) (fun _ kz => XS.ifYes X0.here hx rfl (pc0 := 21) (pc' := 39) rfl (hb hby d1_21) rfl ((if0 _ _).trans (teq hc4).1) (by decide) (by decide) kz) ?_
          refine goS (n := 40) (Ls' := #[.val (.int x), .val (.int y)]) (st' := [(.int (1 : Int32))]) (fun _ kz => XS.iconst X0.here hx rfl (hb hby d1_39) kz) ?_
          refine goS (n := 44) (Ls' := #[.val (.int x), .val (.int y)]) (st' := [(.int (1 : Int32))]) (fun _ kz => XS.goto X0.here hx rfl (pc0 := 40) (pc' := 44) rfl (hb hby d1_40) (by decide) (by decide) kz) ?_
          exact goRetZ X0 hx hlk Bd.returns (Or.inr rfl) (hb hby d1_44) (by decide) (by decide) (by rw [e0]; exact ⟨by rw [((by intros; simp_all [bi]) : ∀ (x : Int32) (y : Int32), (¬ (x = (13 : Int32))) → (¬ (x = y)) → ((y = (5 : Int32))) → ((x = (0 : Int32))) → bi (own_E x y) = (1 : Int32)) x y hc1 hc2 hc3 hc4], N0, rfl⟩)
        · refine goS (n := 24) (Ls' := #[.val (.int x), .val (.int y)]) (st' := []) (fun _ kz => XS.ifNo X0.here hx rfl (hb hby d1_21) rfl ((if0 _ _).trans (feq hc4).1) kz) ?_
          refine goS (n := 25) (Ls' := #[.val (.int x), .val (.int y)]) (st' := [(.int x)]) (fun _ kz => XS.iloadN X0.here hx rfl (hb hby d1_24) rfl kz) ?_
          refine goS (n := 26) (Ls' := #[.val (.int x), .val (.int y)]) (st' := [(.int (1 : Int32)), (.int x)]) (fun _ kz => XS.iconst X0.here hx rfl (hb hby d1_25) kz) ?_
          by_cases hc5 : x = (1 : Int32)
          · refine goS (n := 39) (Ls' := #[.val (.int x), .val (.int y)]) (st' := []) (fun _ kz => XS.icmpYes X0.here hx rfl (pc0 := 26) (pc' := 39) rfl (hb hby d1_26) rfl (teq hc5).1 (by decide) (by decide) kz) ?_
            refine goS (n := 40) (Ls' := #[.val (.int x), .val (.int y)]) (st' := [(.int (1 : Int32))]) (fun _ kz => XS.iconst X0.here hx rfl (hb hby d1_39) kz) ?_
            refine goS (n := 44) (Ls' := #[.val (.int x), .val (.int y)]) (st' := [(.int (1 : Int32))]) (fun _ kz => XS.goto X0.here hx rfl (pc0 := 40) (pc' := 44) rfl (hb hby d1_40) (by decide) (by decide) kz) ?_
            exact goRetZ X0 hx hlk Bd.returns (Or.inr rfl) (hb hby d1_44) (by decide) (by decide) (by rw [e0]; exact ⟨by rw [((by intros; simp_all [bi]) : ∀ (x : Int32) (y : Int32), (¬ (x = (13 : Int32))) → (¬ (x = y)) → ((y = (5 : Int32))) → (¬ (x = (0 : Int32))) → ((x = (1 : Int32))) → bi (own_E x y) = (1 : Int32)) x y hc1 hc2 hc3 hc4 hc5], N0, rfl⟩)
          · refine goS (n := 29) (Ls' := #[.val (.int x), .val (.int y)]) (st' := []) (fun _ kz => XS.icmpNo X0.here hx rfl (hb hby d1_26) rfl (feq hc5).1 kz) ?_
            refine goS (n := 30) (Ls' := #[.val (.int x), .val (.int y)]) (st' := [(.int x)]) (fun _ kz => XS.iloadN X0.here hx rfl (hb hby d1_29) rfl kz) ?_
            refine goS (n := 31) (Ls' := #[.val (.int x), .val (.int y)]) (st' := [(.int (3 : Int32)), (.int x)]) (fun _ kz => XS.iconst X0.here hx rfl (hb hby d1_30) kz) ?_
            by_cases hc6 : x = (3 : Int32)
            · refine goS (n := 39) (Ls' := #[.val (.int x), .val (.int y)]) (st' := []) (fun _ kz => XS.icmpYes X0.here hx rfl (pc0 := 31) (pc' := 39) rfl (hb hby d1_31) rfl (teq hc6).1 (by decide) (by decide) kz) ?_
              refine goS (n := 40) (Ls' := #[.val (.int x), .val (.int y)]) (st' := [(.int (1 : Int32))]) (fun _ kz => XS.iconst X0.here hx rfl (hb hby d1_39) kz) ?_
              refine goS (n := 44) (Ls' := #[.val (.int x), .val (.int y)]) (st' := [(.int (1 : Int32))]) (fun _ kz => XS.goto X0.here hx rfl (pc0 := 40) (pc' := 44) rfl (hb hby d1_40) (by decide) (by decide) kz) ?_
              exact goRetZ X0 hx hlk Bd.returns (Or.inr rfl) (hb hby d1_44) (by decide) (by decide) (by rw [e0]; exact ⟨by rw [((by intros; simp_all [bi]) : ∀ (x : Int32) (y : Int32), (¬ (x = (13 : Int32))) → (¬ (x = y)) → ((y = (5 : Int32))) → (¬ (x = (0 : Int32))) → (¬ (x = (1 : Int32))) → ((x = (3 : Int32))) → bi (own_E x y) = (1 : Int32)) x y hc1 hc2 hc3 hc4 hc5 hc6], N0, rfl⟩)
            · refine goS (n := 34) (Ls' := #[.val (.int x), .val (.int y)]) (st' := []) (fun _ kz => XS.icmpNo X0.here hx rfl (hb hby d1_31) rfl (feq hc6).1 kz) ?_
              refine goS (n := 35) (Ls' := #[.val (.int x), .val (.int y)]) (st' := [(.int x)]) (fun _ kz => XS.iloadN X0.here hx rfl (hb hby d1_34) rfl kz) ?_
              refine goS (n := 36) (Ls' := #[.val (.int x), .val (.int y)]) (st' := [(.int (4 : Int32)), (.int x)]) (fun _ kz => XS.iconst X0.here hx rfl (hb hby d1_35) kz) ?_
              by_cases hc7 : x = (4 : Int32)
              · refine goS (n := 39) (Ls' := #[.val (.int x), .val (.int y)]) (st' := []) (fun _ kz => XS.icmpNo X0.here hx rfl (hb hby d1_36) rfl (teq hc7).2 kz) ?_
                refine goS (n := 40) (Ls' := #[.val (.int x), .val (.int y)]) (st' := [(.int (1 : Int32))]) (fun _ kz => XS.iconst X0.here hx rfl (hb hby d1_39) kz) ?_
                refine goS (n := 44) (Ls' := #[.val (.int x), .val (.int y)]) (st' := [(.int (1 : Int32))]) (fun _ kz => XS.goto X0.here hx rfl (pc0 := 40) (pc' := 44) rfl (hb hby d1_40) (by decide) (by decide) kz) ?_
                exact goRetZ X0 hx hlk Bd.returns (Or.inr rfl) (hb hby d1_44) (by decide) (by decide) (by rw [e0]; exact ⟨by rw [((by intros; simp_all [bi]) : ∀ (x : Int32) (y : Int32), (¬ (x = (13 : Int32))) → (¬ (x = y)) → ((y = (5 : Int32))) → (¬ (x = (0 : Int32))) → (¬ (x = (1 : Int32))) → (¬ (x = (3 : Int32))) → ((x = (4 : Int32))) → bi (own_E x y) = (1 : Int32)) x y hc1 hc2 hc3 hc4 hc5 hc6 hc7], N0, rfl⟩)
              · refine goS (n := 43) (Ls' := #[.val (.int x), .val (.int y)]) (st' := []) (fun _ kz => XS.icmpYes X0.here hx rfl (pc0 := 36) (pc' := 43) rfl (hb hby d1_36) rfl (feq hc7).2 (by decide) (by decide) kz) ?_
                refine goS (n := 44) (Ls' := #[.val (.int x), .val (.int y)]) (st' := [(.int (0 : Int32))]) (fun _ kz => XS.iconst X0.here hx rfl (hb hby d1_43) kz) ?_
                exact goRetZ X0 hx hlk Bd.returns (Or.inl rfl) (hb hby d1_44) (by decide) (by decide) (by rw [e0]; exact ⟨by rw [((by intros; simp_all [bi]) : ∀ (x : Int32) (y : Int32), (¬ (x = (13 : Int32))) → (¬ (x = y)) → ((y = (5 : Int32))) → (¬ (x = (0 : Int32))) → (¬ (x = (1 : Int32))) → (¬ (x = (3 : Int32))) → (¬ (x = (4 : Int32))) → bi (own_E x y) = (0 : Int32)) x y hc1 hc2 hc3 hc4 hc5 hc6 hc7], N0, rfl⟩)
      · refine goS (n := 45) (Ls' := #[.val (.int x), .val (.int y)]) (st' := []) (fun _ kz => XS.icmpYes X0.here hx rfl (pc0 := 17) (pc' := 45) rfl (hb hby d1_17) rfl (feq hc3).2 (by decide) (by decide) kz) ?_
        refine goS (n := 46) (Ls' := #[.val (.int x), .val (.int y)]) (st' := [(.int y)]) (fun _ kz => XS.iloadN X0.here hx rfl (hb hby d1_45) rfl kz) ?_
        refine goS (n := 48) (Ls' := #[.val (.int x), .val (.int y)]) (st' := [(.int (7 : Int32)), (.int y)]) (fun _ kz => XS.bipush X0.here hx rfl (hb hby d1_46) kz) ?_
        by_cases hc8 : y = (7 : Int32)
        · refine goS (n := 51) (Ls' := #[.val (.int x), .val (.int y)]) (st' := []) (fun _ kz => XS.icmpNo X0.here hx rfl (hb hby d1_48) rfl (teq hc8).2 kz) ?_
          refine goS (n := 52) (Ls' := #[.val (.int x), .val (.int y)]) (st' := [(.int x)]) (fun _ kz => XS.iloadN X0.here hx rfl (hb hby d1_51) rfl kz) ?_
          refine goS (n := 54) (Ls' := #[.val (.int x), .val (.int y)]) (st' := [(.int (8 : Int32)), (.int x)]) (fun _ kz => XS.bipush X0.here hx rfl (hb hby d1_52) kz) ?_
          by_cases hc9 : x = (8 : Int32)
          · refine goS (n := 57) (Ls' := #[.val (.int x), .val (.int y)]) (st' := []) (fun _ kz => XS.icmpNo X0.here hx rfl (hb hby d1_54) rfl (teq hc9).2 kz) ?_
            refine goS (n := 58) (Ls' := #[.val (.int x), .val (.int y)]) (st' := [(.int (1 : Int32))]) (fun _ kz => XS.iconst X0.here hx rfl (hb hby d1_57) kz) ?_
            refine goS (n := 62) (Ls' := #[.val (.int x), .val (.int y)]) (st' := [(.int (1 : Int32))]) (fun _ kz => XS.goto X0.here hx rfl (pc0 := 58) (pc' := 62) rfl (hb hby d1_58) (by decide) (by decide) kz) ?_
            exact goRetZ X0 hx hlk Bd.returns (Or.inr rfl) (hb hby d1_62) (by decide) (by decide) (by rw [e0]; exact ⟨by rw [((by intros; simp_all [bi]) : ∀ (x : Int32) (y : Int32), (¬ (x = (13 : Int32))) → (¬ (x = y)) → (¬ (y = (5 : Int32))) → ((y = (7 : Int32))) → ((x = (8 : Int32))) → bi (own_E x y) = (1 : Int32)) x y hc1 hc2 hc3 hc8 hc9], N0, rfl⟩)
          · refine goS (n := 61) (Ls' := #[.val (.int x), .val (.int y)]) (st' := []) (fun _ kz => XS.icmpYes X0.here hx rfl (pc0 := 54) (pc' := 61) rfl (hb hby d1_54) rfl (feq hc9).2 (by decide) (by decide) kz) ?_
            refine goS (n := 62) (Ls' := #[.val (.int x), .val (.int y)]) (st' := [(.int (0 : Int32))]) (fun _ kz => XS.iconst X0.here hx rfl (hb hby d1_61) kz) ?_
            exact goRetZ X0 hx hlk Bd.returns (Or.inl rfl) (hb hby d1_62) (by decide) (by decide) (by rw [e0]; exact ⟨by rw [((by intros; simp_all [bi]) : ∀ (x : Int32) (y : Int32), (¬ (x = (13 : Int32))) → (¬ (x = y)) → (¬ (y = (5 : Int32))) → ((y = (7 : Int32))) → (¬ (x = (8 : Int32))) → bi (own_E x y) = (0 : Int32)) x y hc1 hc2 hc3 hc8 hc9], N0, rfl⟩)
        · refine goS (n := 63) (Ls' := #[.val (.int x), .val (.int y)]) (st' := []) (fun _ kz => XS.icmpYes X0.here hx rfl (pc0 := 48) (pc' := 63) rfl (hb hby d1_48) rfl (feq hc8).2 (by decide) (by decide) kz) ?_
          refine goS (n := 64) (Ls' := #[.val (.int x), .val (.int y)]) (st' := [(.int (0 : Int32))]) (fun _ kz => XS.iconst X0.here hx rfl (hb hby d1_63) kz) ?_
          exact goRetZ X0 hx hlk Bd.returns (Or.inl rfl) (hb hby d1_64) (by decide) (by decide) (by rw [e0]; exact ⟨by rw [((by intros; simp_all [bi]) : ∀ (x : Int32) (y : Int32), (¬ (x = (13 : Int32))) → (¬ (x = y)) → (¬ (y = (5 : Int32))) → (¬ (y = (7 : Int32))) → bi (own_E x y) = (0 : Int32)) x y hc1 hc2 hc3 hc8], N0, rfl⟩)
theorem d3_0 : decode jdk_37_method_2_code 0 = .ok (.aload_n 0, 1) := by decide +kernel
theorem d3_1 : decode jdk_37_method_2_code 1 = .ok (.getfield 7, 3) := by decide +kernel
theorem d3_4 : decode jdk_37_method_2_code 4 = .ok (.ireturn, 1) := by decide +kernel
theorem pn_1 : plainName "java/lang/Enum" = true := by first | (simp [plainName, overriddenIn]; done) | decide +kernel
theorem ef_ord (m : MethodId) (a : Addr) : entryFrame m #[(.ref a)] 1 = mkF m 0 #[.val (.ref a)] [] := by first | (simp [entryFrame, mkF, argsToLocals, Value.category]; done) | rfl
abbrev R_ord : Room := { frames := 0, cells := 0, slots := 0, locals := 0 }
def Q_ord (Z : State) (a : Addr) (r : Int32) (h0 : Heap) (n0 : Nat) (v : Option Value) (h : Heap) (L : List Loc) : Prop := v = some (.int r) ∧ Fr n0 L ∧ h = h0
set_option maxRecDepth 65536 in
set_option maxHeartbeats 40000000 in
theorem rm_ord (l : Launch) (Z : State) (a0 : Array Value) (hw : ∀ d ∈ tables_1, d.before a0 Z = true) (ws : List Jvm.Cond) (a : Addr) (r : Int32) (h0 : Heap) (n0 : Nat) (O0 : Old Z n0 h0) (F0 : Fld Z Z.heap a "java/lang/Enum" "ordinal" "I" (.int r)) :
    MetFree l (⟨"java/lang/Enum", "ordinal", "()I"⟩ : MethodName) (head1 (Jvm.Cond.code (⟨"java/lang/Enum", "ordinal", "()I"⟩ : MethodName) jdk_37_method_2_code 1 (some .int) :: ws) R_ord) (fun as_ U => as_ = #[(.ref a)] ∧ Z.Warmed39 U.vm ∧ U.heap = h0) (fun _ _ _ _ _ => True) (fun _ U o U' => ∃ v L, o = .returned v ∧ Q_ord Z a r h0 n0 v U'.heap L ∧ FrameEnd U o U' L R_ord.cells R_ord.slots) := by
  refine MetFree.of_bodySF (plainFor_of_name pn_1) hisR ?_
  intro p e s m args below meth c s₁ Bd hml0 hP hK
  obtain ⟨rfl, hZ, hh⟩ := hP
  have hx := Bd.exec
  have hby := Bd.bytes
  have hml : c.maxLocals = 1 := hml0
  have hown : s.vm.findClass "java/lang/Enum" = some m.cls := findClass_of_methodNamed Bd.named
  have hnm := (name_of_methodNamed Bd.named Bd.method).1
  have hlk : meth.locks = false := BodyLoose.notSynchronized Bd
  have X0 : Stand p l e R_ord s m #[(.ref a)] below meth c s₁ [] 0 0 := Stand.of_body Bd
  have e0 : s₁.heap = h0 := by rw [← hh, Bd.state]; rfl
  have N0 := Fr.nil n0
  refine enter (P := PQ s R_ord.cells R_ord.slots (Q_ord Z a r h0 n0)) (ef_ord m a) ?_
  refine goS (n := 1) (Ls' := #[.val (.ref a)]) (st' := [(.ref a)]) (fun _ kz => XS.aloadN X0.here hx rfl (hb hby d3_0) rfl rfl kz) ?_
  obtain ⟨T1, X1, e1, st1⟩ := getF X0 hx hZ hown (host := "") (Or.inl (hw _ (List.mem_of_getElem? (i := 50) rfl))) Via.refl e0 (F0.ext O0.2) (g := (mkF m 1 #[.val (.ref a)] [(.ref a)])) rfl rfl (hb hby d3_1)
  refine goS (n := 4) (Ls' := #[.val (.ref a)]) (st' := [(.int r)]) st1 ?_
  exact goRetI X1 hx hlk Bd.returns (hb hby d3_4) (by decide) (by decide) (by rw [e1]; exact ⟨rfl, N0, rfl⟩)
theorem d2_0 : decode prog_20_method_5_code 0 = .ok (.aload_n 0, 1) := by decide +kernel
theorem d2_1 : decode prog_20_method_5_code 1 = .ok (.getstatic 43, 3) := by decide +kernel
theorem d2_4 : decode prog_20_method_5_code 4 = .ok (.if_acmp .eq 8, 3) := by decide +kernel
theorem d2_12 : decode prog_20_method_5_code 12 = .ok (.iconst 1, 1) := by decide +kernel
theorem d2_13 : decode prog_20_method_5_code 13 = .ok (.ireturn, 1) := by decide +kernel
theorem d2_7 : decode prog_20_method_5_code 7 = .ok (.aload_n 0, 1) := by decide +kernel
theorem d2_8 : decode prog_20_method_5_code 8 = .ok (.aload_n 1, 1) := by decide +kernel
theorem d2_9 : decode prog_20_method_5_code 9 = .ok (.if_acmp .ne 5, 3) := by decide +kernel
theorem d2_14 : decode prog_20_method_5_code 14 = .ok (.aload_n 1, 1) := by decide +kernel
theorem d2_15 : decode prog_20_method_5_code 15 = .ok (.invokevirtual 87, 3) := by decide +kernel
theorem pd_0 : parseMethodDescriptor "()I" = some ⟨[], some .int⟩ := by decide +kernel
theorem d2_18 : decode prog_20_method_5_code 18 = .ok (.lookupswitch 77 #[(5, 26), (7, 62)], 26) := by decide +kernel
theorem d2_44 : decode prog_20_method_5_code 44 = .ok (.aload_n 0, 1) := by decide +kernel
theorem d2_45 : decode prog_20_method_5_code 45 = .ok (.getstatic 3, 3) := by decide +kernel
theorem d2_48 : decode prog_20_method_5_code 48 = .ok (.if_acmp .eq 24, 3) := by decide +kernel
theorem d2_72 : decode prog_20_method_5_code 72 = .ok (.iconst 1, 1) := by decide +kernel
theorem d2_73 : decode prog_20_method_5_code 73 = .ok (.goto 23, 3) := by decide +kernel
theorem d2_96 : decode prog_20_method_5_code 96 = .ok (.ireturn, 1) := by decide +kernel
theorem d2_51 : decode prog_20_method_5_code 51 = .ok (.aload_n 0, 1) := by decide +kernel
theorem d2_52 : decode prog_20_method_5_code 52 = .ok (.getstatic 7, 3) := by decide +kernel
theorem d2_55 : decode prog_20_method_5_code 55 = .ok (.if_acmp .eq 17, 3) := by decide +kernel
theorem d2_58 : decode prog_20_method_5_code 58 = .ok (.aload_n 0, 1) := by decide +kernel
theorem d2_59 : decode prog_20_method_5_code 59 = .ok (.getstatic 13, 3) := by decide +kernel
theorem d2_62 : decode prog_20_method_5_code 62 = .ok (.if_acmp .eq 10, 3) := by decide +kernel
theorem d2_65 : decode prog_20_method_5_code 65 = .ok (.aload_n 0, 1) := by decide +kernel
theorem d2_66 : decode prog_20_method_5_code 66 = .ok (.getstatic 16, 3) := by decide +kernel
theorem d2_69 : decode prog_20_method_5_code 69 = .ok (.if_acmp .ne 7, 3) := by decide +kernel
theorem d2_76 : decode prog_20_method_5_code 76 = .ok (.iconst 0, 1) := by decide +kernel
theorem d2_77 : decode prog_20_method_5_code 77 = .ok (.goto 19, 3) := by decide +kernel
theorem d2_80 : decode prog_20_method_5_code 80 = .ok (.aload_n 0, 1) := by decide +kernel
theorem d2_81 : decode prog_20_method_5_code 81 = .ok (.getstatic 28, 3) := by decide +kernel
theorem d2_84 : decode prog_20_method_5_code 84 = .ok (.if_acmp .ne 7, 3) := by decide +kernel
theorem d2_87 : decode prog_20_method_5_code 87 = .ok (.iconst 1, 1) := by decide +kernel
theorem d2_88 : decode prog_20_method_5_code 88 = .ok (.goto 8, 3) := by decide +kernel
theorem d2_91 : decode prog_20_method_5_code 91 = .ok (.iconst 0, 1) := by decide +kernel
theorem d2_92 : decode prog_20_method_5_code 92 = .ok (.goto 4, 3) := by decide +kernel
theorem d2_95 : decode prog_20_method_5_code 95 = .ok (.iconst 0, 1) := by decide +kernel
theorem pn_2 : plainName "com/example/claimgate/claimgate/Operation" = true := by first | (simp [plainName, overriddenIn]; done) | decide +kernel
theorem ef_imp (m : MethodId) (a : Addr) (b : Addr) : entryFrame m #[(.ref a), (.ref b)] 2 = mkF m 0 #[.val (.ref a), .val (.ref b)] [] := by first | (simp [entryFrame, mkF, argsToLocals, Value.category]; done) | rfl
abbrev R_imp : Room := { frames := 1, cells := 0, slots := 0, locals := 12 }
def Q_imp (Z : State) (a : Addr) (b : Addr) (r : Int32) (W : Nat → Addr) (h0 : Heap) (n0 : Nat) (v : Option Value) (h : Heap) (L : List Loc) : Prop := v = some (.int (bi (own_I W a b r))) ∧ Fr n0 L ∧ h = h0
set_option maxRecDepth 65536 in
set_option maxHeartbeats 40000000 in
theorem rm_imp (l : Launch) (Z : State) (a0 : Array Value) (hw : ∀ d ∈ tables_1, d.before a0 Z = true) (ws : List Jvm.Cond) (a : Addr) (b : Addr) (r : Int32) (W : Nat → Addr) (h0 : Heap) (n0 : Nat) (O0 : Old Z n0 h0) (S_READ : Sta Z Z.heap "com/example/claimgate/claimgate/Operation" "READ" "Lcom/example/claimgate/claimgate/Operation;" (.ref (W 0))) (S_WRITE : Sta Z Z.heap "com/example/claimgate/claimgate/Operation" "WRITE" "Lcom/example/claimgate/claimgate/Operation;" (.ref (W 1))) (S_DELETE : Sta Z Z.heap "com/example/claimgate/claimgate/Operation" "DELETE" "Lcom/example/claimgate/claimgate/Operation;" (.ref (W 3))) (S_ALTER : Sta Z Z.heap "com/example/claimgate/claimgate/Operation" "ALTER" "Lcom/example/claimgate/claimgate/Operation;" (.ref (W 4))) (S_ALTER_CONFIGS : Sta Z Z.heap "com/example/claimgate/claimgate/Operation" "ALTER_CONFIGS" "Lcom/example/claimgate/claimgate/Operation;" (.ref (W 8))) (S_ALL : Sta Z Z.heap "com/example/claimgate/claimgate/Operation" "ALL" "Lcom/example/claimgate/claimgate/Operation;" (.ref (W 13))) (F0 : Fld Z Z.heap b "java/lang/Enum" "ordinal" "I" (.int r)) (EXb : Exa Z Z.heap b "com/example/claimgate/claimgate/Operation") :
    MetFree l (⟨"com/example/claimgate/claimgate/Operation", "implies", "(Lcom/example/claimgate/claimgate/Operation;)Z"⟩ : MethodName) (head1 (Jvm.Cond.code (⟨"com/example/claimgate/claimgate/Operation", "implies", "(Lcom/example/claimgate/claimgate/Operation;)Z"⟩ : MethodName) prog_20_method_5_code 2 (some .boolean) :: ws) R_imp) (fun as_ U => as_ = #[(.ref a), (.ref b)] ∧ Z.Warmed39 U.vm ∧ U.heap = h0) (fun _ _ _ _ _ => True) (fun _ U o U' => ∃ v L, o = .returned v ∧ Q_imp Z a b r W h0 n0 v U'.heap L ∧ FrameEnd U o U' L R_imp.cells R_imp.slots) := by
  refine MetFree.of_bodySF (plainFor_of_name pn_2) hisR ?_
  intro p e s m args below meth c s₁ Bd hml0 hP hK
  obtain ⟨rfl, hZ, hh⟩ := hP
  have hx := Bd.exec
  have hby := Bd.bytes
  have hml : c.maxLocals = 2 := hml0
  have hown : s.vm.findClass "com/example/claimgate/claimgate/Operation" = some m.cls := findClass_of_methodNamed Bd.named
  have hnm := (name_of_methodNamed Bd.named Bd.method).1
  have hlk : meth.locks = false := BodyLoose.notSynchronized Bd
  have X0 : Stand p l e R_imp s m #[(.ref a), (.ref b)] below meth c s₁ [] 0 0 := Stand.of_body Bd
  have e0 : s₁.heap = h0 := by rw [← hh, Bd.state]; rfl
  have N0 := Fr.nil n0
  refine enter (P := PQ s R_imp.cells R_imp.slots (Q_imp Z a b r W h0 n0)) (ef_imp m a b) ?_
  refine goS (n := 1) (Ls' := #[.val (.ref a), .val (.ref b)]) (st' := [(.ref a)]) (fun _ kz => XS.aloadN X0.here hx rfl (hb hby d2_0) rfl rfl kz) ?_
  obtain ⟨T1, X1, e1, st1⟩ := getS2 X0 hx hZ hown (host := "") (Or.inl (hw _ (List.mem_of_getElem? (i := 42) rfl))) Via.refl e0 (S_ALL.ext O0.2) (g := (mkF m 1 #[.val (.ref a), .val (.ref b)] [(.ref a)])) rfl (hb hby d2_1)
  refine goS (n := 4) (Ls' := #[.val (.ref a), .val (.ref b)]) (st' := [(.ref (W 13)), (.ref a)]) st1 ?_
  by_cases hc2 : a = (W 13)
  · refine goS (n := 12) (Ls' := #[.val (.ref a), .val (.ref b)]) (st' := []) (fun _ kz => Jvm.RoadKit.acmp (g := (mkF m 4 #[.val (.ref a), .val (.ref b)] [(.ref (W 13)), (.ref a)])) X1 hx rfl rfl rfl (pc0 := 4) (pc' := 12) (same := true) rfl (hb hby d2_4) rfl (decide_eq_true (congrArg Value.ref hc2)) (by decide) (by decide) kz) ?_
    refine goS (n := 13) (Ls' := #[.val (.ref a), .val (.ref b)]) (st' := [(.int (1 : Int32))]) (fun _ kz => XS.iconst X1.here hx rfl (hb hby d2_12) kz) ?_
    exact goRetZ X1 hx hlk Bd.returns (Or.inr rfl) (hb hby d2_13) (by decide) (by decide) (by rw [e1]; exact ⟨by rw [((by intros; simp_all [bi]) : ∀ (a : Addr) (b : Addr) (r : Int32) (W : Nat → Addr), ((a = (W 13))) → bi (own_I W a b r) = (1 : Int32)) a b r W hc2], N0, rfl⟩)
  · refine goS (n := 7) (Ls' := #[.val (.ref a), .val (.ref b)]) (st' := []) (fun _ kz => Jvm.RoadKit.acmp (g := (mkF m 4 #[.val (.ref a), .val (.ref b)] [(.ref (W 13)), (.ref a)])) X1 hx rfl rfl rfl (pc0 := 4) (pc' := 7) (same := false) rfl (hb hby d2_4) rfl (decide_eq_false fun q => hc2 (Value.ref.inj q)) (by decide) (by decide) kz) ?_
    refine goS (n := 8) (Ls' := #[.val (.ref a), .val (.ref b)]) (st' := [(.ref a)]) (fun _ kz => XS.aloadN X1.here hx rfl (hb hby d2_7) rfl rfl kz) ?_
    refine goS (n := 9) (Ls' := #[.val (.ref a), .val (.ref b)]) (st' := [(.ref b), (.ref a)]) (fun _ kz => XS.aloadN X1.here hx rfl (hb hby d2_8) rfl rfl kz) ?_
    by_cases hc3 : a = b
    · refine goS (n := 12) (Ls' := #[.val (.ref a), .val (.ref b)]) (st' := []) (fun _ kz => Jvm.RoadKit.acmp (g := (mkF m 9 #[.val (.ref a), .val (.ref b)] [(.ref b), (.ref a)])) X1 hx rfl rfl rfl (pc0 := 9) (pc' := 12) (same := true) rfl (hb hby d2_9) rfl (decide_eq_true (congrArg Value.ref hc3)) (by decide) (by decide) kz) ?_
      refine goS (n := 13) (Ls' := #[.val (.ref a), .val (.ref b)]) (st' := [(.int (1 : Int32))]) (fun _ kz => XS.iconst X1.here hx rfl (hb hby d2_12) kz) ?_
      exact goRetZ X1 hx hlk Bd.returns (Or.inr rfl) (hb hby d2_13) (by decide) (by decide) (by rw [e1]; exact ⟨by rw [((by intros; simp_all [bi]) : ∀ (a : Addr) (b : Addr) (r : Int32) (W : Nat → Addr), (¬ (a = (W 13))) → ((a = b)) → bi (own_I W a b r) = (1 : Int32)) a b r W hc2 hc3], N0, rfl⟩)
    · refine goS (n := 14) (Ls' := #[.val (.ref a), .val (.ref b)]) (st' := []) (fun _ kz => Jvm.RoadKit.acmp (g := (mkF m 9 #[.val (.ref a), .val (.ref b)] [(.ref b), (.ref a)])) X1 hx rfl rfl rfl (pc0 := 9) (pc' := 14) (same := false) rfl (hb hby d2_9) rfl (decide_eq_false fun q => hc3 (Value.ref.inj q)) (by decide) (by decide) kz) ?_
      refine goS (n := 15) (Ls' := #[.val (.ref a), .val (.ref b)]) (st' := [(.ref b)]) (fun _ kz => XS.aloadN X1.here hx rfl (hb hby d2_14) rfl rfl kz) ?_
      obtain ⟨cq4, kq4, q4a, q4b, q4c⟩ := isOf hZ e1 (EXb.ext O0.2)
      obtain ⟨_, _, ⟨T4, L4, k4, n4⟩, -, X4, ⟨Lc4, hQ4, l4, y4, z4⟩, st4⟩ := X1.virtualBackUp hx (x := (⟨"com/example/claimgate/claimgate/Operation", "ordinal", "()I"⟩ : MethodName)) (y := (⟨"java/lang/Enum", "ordinal", "()I"⟩ : MethodName)) (owner := "java/lang/Enum") hown (mvT hZ (hw _ (List.mem_of_getElem? (i := 43) rfl))) (mvT hZ (hw _ (List.mem_of_getElem? (i := 44) rfl))) (mvT hZ (hw _ (List.mem_of_getElem? (i := 45) rfl))) (by decide) (mvT hZ (hw _ (List.mem_of_getElem? (i := 47) rfl))) (mvT hZ (hw _ (List.mem_of_getElem? (i := 46) rfl))) (backOf (W := 0) (rm_ord l Z a0 hw [] b r h0 n0 O0 F0) hZ (hw _ (List.mem_of_getElem? (i := 49) rfl)) (hw _ (List.mem_of_getElem? (i := 48) rfl)) (by decide) (by decide)) q4a q4c (g := (mkF m 15 #[.val (.ref a), .val (.ref b)] [(.ref b)])) rfl (by rw [hml]; rfl) (Steps.refl _) (argsL := []) (rest := []) (lenOf pd_0 rfl) rfl (by show 2 * 0 + _ ≤ _; exact Nat.le_of_eq rfl) (hb hby d2_15) (fun _ _ => ⟨rfl, e1, (Nat.le_of_ble_eq_true rfl), (Nat.le_of_ble_eq_true rfl)⟩)
      dsimp only [Pt.U, Pt.locs, Pt.cells, Pt.slots] at X4 l4 y4 z4 st4 hQ4
      subst l4 y4 z4
      obtain ⟨rfl, N4q, e4⟩ := hQ4
      have N4 := Fr.app N0 N4q
      refine goT (n := 18) (Ls' := #[.val (.ref a), .val (.ref b)]) (st' := [(.int r)]) st4 ?_
      by_cases hc5 : r = (5 : Int32)
      · refine goS (n := 44) (Ls' := #[.val (.ref a), .val (.ref b)]) (st' := []) (fun _ kz => lsw (g := (mkF m 18 #[.val (.ref a), .val (.ref b)] [(.int r)])) X4 hx rfl (pc0 := 18) (pc' := 44) rfl (o := 26) (hb hby d2_18) rfl (by intro a b c d h; revert h; simp; try omega) (Or.inl ⟨5, by rw [hc5]; rfl⟩) (by decide) (by decide) kz) ?_
        refine goS (n := 45) (Ls' := #[.val (.ref a), .val (.ref b)]) (st' := [(.ref a)]) (fun _ kz => XS.aloadN X4.here hx rfl (hb hby d2_44) rfl rfl kz) ?_
        obtain ⟨T6, X6, e6, st6⟩ := getS2 X4 hx hZ hown (host := "") (Or.inl (hw _ (List.mem_of_getElem? (i := 52) rfl))) Via.refl e4 (S_READ.ext O0.2) (g := (mkF m 45 #[.val (.ref a), .val (.ref b)] [(.ref a)])) rfl (hb hby d2_45)
        refine goS (n := 48) (Ls' := #[.val (.ref a), .val (.ref b)]) (st' := [(.ref (W 0)), (.ref a)]) st6 ?_
        by_cases hc7 : a = (W 0)
        · refine goS (n := 72) (Ls' := #[.val (.ref a), .val (.ref b)]) (st' := []) (fun _ kz => Jvm.RoadKit.acmp (g := (mkF m 48 #[.val (.ref a), .val (.ref b)] [(.ref (W 0)), (.ref a)])) X6 hx rfl rfl rfl (pc0 := 48) (pc' := 72) (same := true) rfl (hb hby d2_48) rfl (decide_eq_true (congrArg Value.ref hc7)) (by decide) (by decide) kz) ?_
          refine goS (n := 73) (Ls' := #[.val (.ref a), .val (.ref b)]) (st' := [(.int (1 : Int32))]) (fun _ kz => XS.iconst X6.here hx rfl (hb hby d2_72) kz) ?_
          refine goS (n := 96) (Ls' := #[.val (.ref a), .val (.ref b)]) (st' := [(.int (1 : Int32))]) (fun _ kz => XS.goto X6.here hx rfl (pc0 := 73) (pc' := 96) rfl (hb hby d2_73) (by decide) (by decide) kz) ?_
          exact goRetZ X6 hx hlk Bd.returns (Or.inr rfl) (hb hby d2_96) (by decide) (by decide) (by rw [e6]; exact ⟨by rw [((by intros; simp_all [bi]) : ∀ (a : Addr) (b : Addr) (r : Int32) (W : Nat → Addr), (¬ (a = (W 13))) → (¬ (a = b)) → ((r = (5 : Int32))) → ((a = (W 0))) → bi (own_I W a b r) = (1 : Int32)) a b r W hc2 hc3 hc5 hc7], N4, rfl⟩)
        · refine goS (n := 51) (Ls' := #[.val (.ref a), .val (.ref b)]) (st' := []) (fun _ kz => Jvm.RoadKit.acmp (g := (mkF m 48 #[.val (.ref a), .val (.ref b)] [(.ref (W 0)), (.ref a)])) X6 hx rfl rfl rfl (pc0 := 48) (pc' := 51) (same := false) rfl (hb hby d2_48) rfl (decide_eq_false fun q => hc7 (Value.ref.inj q)) (by decide) (by decide) kz) ?_
          refine goS (n := 52) (Ls' := #[.val (.ref a), .val (.ref b)]) (st' := [(.ref a)]) (fun _ kz => XS.aloadN X6.here hx rfl (hb hby d2_51) rfl rfl kz) ?_
          obtain ⟨T8, X8, e8, st8⟩ := getS2 X6 hx hZ hown (host := "") (Or.inl (hw _ (List.mem_of_getElem? (i := 53) rfl))) Via.refl e6 (S_WRITE.ext O0.2) (g := (mkF m 52 #[.val (.ref a), .val (.ref b)] [(.ref a)])) rfl (hb hby d2_52)
          refine goS (n := 55) (Ls' := #[.val (.ref a), .val (.ref b)]) (st' := [(.ref (W 1)), (.ref a)]) st8 ?_
          by_cases hc9 : a = (W 1)
          · refine goS (n := 72) (Ls' := #[.val (.ref a), .val (.ref b)]) (st' := []) (fun _ kz => Jvm.RoadKit.acmp (g := (mkF m 55 #[.val (.ref a), .val (.ref b)] [(.ref (W 1)), (.ref a)])) X8 hx rfl rfl rfl (pc0 := 55) (pc' := 72) (same := true) rfl (hb hby d2_55) rfl (decide_eq_true (congrArg Value.ref hc9)) (by decide) (by decide) kz) ?_
            refine goS (n := 73) (Ls' := #[.val (.ref a), .val (.ref b)]) (st' := [(.int (1 : Int32))]) (fun _ kz => XS.iconst X8.here hx rfl (hb hby d2_72) kz) ?_
            refine goS (n := 96) (Ls' := #[.val (.ref a), .val (.ref b)]) (st' := [(.int (1 : Int32))]) (fun _ kz => XS.goto X8.here hx rfl (pc0 := 73) (pc' := 96) rfl (hb hby d2_73) (by decide) (by decide) kz) ?_
            exact goRetZ X8 hx hlk Bd.returns (Or.inr rfl) (hb hby d2_96) (by decide) (by decide) (by rw [e8]; exact ⟨by rw [((by intros; simp_all [bi]) : ∀ (a : Addr) (b : Addr) (r : Int32) (W : Nat → Addr), (¬ (a = (W 13))) → (¬ (a = b)) → ((r = (5 : Int32))) → (¬ (a = (W 0))) → ((a = (W 1))) → bi (own_I W a b r) = (1 : Int32)) a b r W hc2 hc3 hc5 hc7 hc9], N4, rfl⟩)
          · refine goS (n := 58) (Ls' := #[.val (.ref a), .val (.ref b)]) (st' := []) (fun _ kz => Jvm.RoadKit.acmp (g := (mkF m 55 #[.val (.ref a), .val (.ref b)] [(.ref (W 1)), (.ref a)])) X8 hx rfl rfl rfl (pc0 := 55) (pc' := 58) (same := false) rfl (hb hby d2_55) rfl (decide_eq_false fun q => hc9 (Value.ref.inj q)) (by decide) (by decide) kz) ?_
            refine goS (n := 59) (Ls' := #[.val (.ref a), .val (.ref b)]) (st' := [(.ref a)]) (fun _ kz => XS.aloadN X8.here hx rfl (hb hby d2_58) rfl rfl kz) ?_
            obtain ⟨T10, X10, e10, st10⟩ := getS2 X8 hx hZ hown (host := "") (Or.inl (hw _ (List.mem_of_getElem? (i := 54) rfl))) Via.refl e8 (S_DELETE.ext O0.2) (g := (mkF m 59 #[.val (.ref a), .val (.ref b)] [(.ref a)])) rfl (hb hby d2_59)
            refine goS (n := 62) (Ls' := #[.val (.ref a), .val (.ref b)]) (st' := [(.ref (W 3)), (.ref a)]) st10 ?_
            by_cases hc11 : a = (W 3)
            · refine goS (n := 72) (Ls' := #[.val (.ref a), .val (.ref b)]) (st' := []) (fun _ kz => Jvm.RoadKit.acmp (g := (mkF m 62 #[.val (.ref a), .val (.ref b)] [(.ref (W 3)), (.ref a)])) X10 hx rfl rfl rfl (pc0 := 62) (pc' := 72) (same := true) rfl (hb hby d2_62) rfl (decide_eq_true (congrArg Value.ref hc11)) (by decide) (by decide) kz) ?_
              refine goS (n := 73) (Ls' := #[.val (.ref a), .val (.ref b)]) (st' := [(.int (1 : Int32))]) (fun _ kz => XS.iconst X10.here hx rfl (hb hby d2_72) kz) ?_
              refine goS (n := 96) (Ls' := #[.val (.ref a), .val (.ref b)]) (st' := [(.int (1 : Int32))]) (fun _ kz => XS.goto X10.here hx rfl (pc0 := 73) (pc' := 96) rfl (hb hby d2_73) (by decide) (by decide) kz) ?_
              exact goRetZ X10 hx hlk Bd.returns (Or.inr rfl) (hb hby d2_96) (by decide) (by decide) (by rw [e10]; exact ⟨by rw [((by intros; simp_all [bi]) : ∀ (a : Addr) (b : Addr) (r : Int32) (W : Nat → Addr), (¬ (a = (W 13))) → (¬ (a = b)) → ((r = (5 : Int32))) → (¬ (a = (W 0))) → (¬ (a = (W 1))) → ((a = (W 3))) → bi (own_I W a b r) = (1 : Int32)) a b r W hc2 hc3 hc5 hc7 hc9 hc11], N4, rfl⟩)
            · refine goS (n := 65) (Ls' := #[.val (.ref a), .val (.ref b)]) (st' := []) (fun _ kz => Jvm.RoadKit.acmp (g := (mkF m 62 #[.val (.ref a), .val (.ref b)] [(.ref (W 3)), (.ref a)])) X10 hx rfl rfl rfl (pc0 := 62) (pc' := 65) (same := false) rfl (hb hby d2_62) rfl (decide_eq_false fun q => hc11 (Value.ref.inj q)) (by decide) (by decide) kz) ?_
              refine goS (n := 66) (Ls' := #[.val (.ref a), .val (.ref b)]) (st' := [(.ref a)]) (fun _ kz => XS.aloadN X10.here hx rfl (hb hby d2_65) rfl rfl kz) ?_
              obtain ⟨T12, X12, e12, st12⟩ := getS2 X10 hx hZ hown (host := "") (Or.inl (hw _ (List.mem_of_getElem? (i := 55) rfl))) Via.refl e10 (S_ALTER.ext O0.2) (g := (mkF m 66 #[.val (.ref a), .val (.ref b)] [(.ref a)])) rfl (hb hby d2_66)
              refine goS (n := 69) (Ls' := #[.val (.ref a), .val (.ref b)]) (st' := [(.ref (W 4)), (.ref a)]) st12 ?_
              by_cases hc13 : a = (W 4)
              · refine goS (n := 72) (Ls' := #[.val (.ref a), .val (.ref b)]) (st' := []) (fun _ kz => Jvm.RoadKit.acmp (g := (mkF m 69 #[.val (.ref a), .val (.ref b)] [(.ref (W 4)), (.ref a)])) X12 hx rfl rfl rfl (pc0 := 69) (pc' := 72) (same := true) rfl (hb hby d2_69) rfl (decide_eq_true (congrArg Value.ref hc13)) (by decide) (by decide) kz) ?_
                refine goS (n := 73) (Ls' := #[.val (.ref a), .val (.ref b)]) (st' := [(.int (1 : Int32))]) (fun _ kz => XS.iconst X12.here hx rfl (hb hby d2_72) kz) ?_
                refine goS (n := 96) (Ls' := #[.val (.ref a), .val (.ref b)]) (st' := [(.int (1 : Int32))]) (fun _ kz => XS.goto X12.here hx rfl (pc0 := 73) (pc' := 96) rfl (hb hby d2_73) (by decide) (by decide) kz) ?_
                exact goRetZ X12 hx hlk Bd.returns (Or.inr rfl) (hb hby d2_96) (by decide) (by decide) (by rw [e12]; exact ⟨by rw [((by intros; simp_all [bi]) : ∀ (a : Addr) (b : Addr) (r : Int32) (W : Nat → Addr), (¬ (a = (W 13))) → (¬ (a = b)) → ((r = (5 : Int32))) → (¬ (a = (W 0))) → (¬ (a = (W 1))) → (¬ (a = (W 3))) → ((a = (W 4))) → bi (own_I W a b r) = (1 : Int32)) a b r W hc2 hc3 hc5 hc7 hc9 hc11 hc13], N4, rfl⟩)
              · refine goS (n := 76) (Ls' := #[.val (.ref a), .val (.ref b)]) (st' := []) (fun _ kz => Jvm.RoadKit.acmp (g := (mkF m 69 #[.val (.ref a), .val (.ref b)] [(.ref (W 4)), (.ref a)])) X12 hx rfl rfl rfl (pc0 := 69) (pc' := 76) (same := false) rfl (hb hby d2_69) rfl (decide_eq_false fun q => hc13 (Value.ref.inj q)) (by decide) (by decide) kz) ?_
                refine goS (n := 77) (Ls' := #[.val (.ref a), .val (.ref b)]) (st' := [(.int (0 : Int32))]) (fun _ kz => XS.iconst X12.here hx rfl (hb hby d2_76) kz) ?_
                refine goS (n := 96) (Ls' := #[.val (.ref a), .val (.ref b)]) (st' := [(.int (0 : Int32))]) (fun _ kz => XS.goto X12.here hx rfl (pc0 := 77) (pc' := 96) rfl (hb hby d2_77) (by decide) (by decide) kz) ?_
                exact goRetZ X12 hx hlk Bd.returns (Or.inl rfl) (hb hby d2_96) (by decide) (by decide) (by rw [e12]; exact ⟨by rw [((by intros; simp_all [bi]) : ∀ (a : Addr) (b : Addr) (r : Int32) (W : Nat → Addr), (¬ (a = (W 13))) → (¬ (a = b)) → ((r = (5 : Int32))) → (¬ (a = (W 0))) → (¬ (a = (W 1))) → (¬ (a = (W 3))) → (¬ (a = (W 4))) → bi (own_I W a b r) = (0 : Int32)) a b r W hc2 hc3 hc5 hc7 hc9 hc11 hc13], N4, rfl⟩)
      · by_cases hc14 : r = (7 : Int32)
        · refine goS (n := 80) (Ls' := #[.val (.ref a), .val (.ref b)]) (st' := []) (fun _ kz => lsw (g := (mkF m 18 #[.val (.ref a), .val (.ref b)] [(.int r)])) X4 hx rfl (pc0 := 18) (pc' := 80) rfl (o := 62) (hb hby d2_18) rfl (by intro a b c d h; revert h; simp; try omega) (Or.inl ⟨7, by rw [hc14]; rfl⟩) (by decide) (by decide) kz) ?_
          refine goS (n := 81) (Ls' := #[.val (.ref a), .val (.ref b)]) (st' := [(.ref a)]) (fun _ kz => XS.aloadN X4.here hx rfl (hb hby d2_80) rfl rfl kz) ?_
          obtain ⟨T15, X15, e15, st15⟩ := getS2 X4 hx hZ hown (host := "") (Or.inl (hw _ (List.mem_of_getElem? (i := 56) rfl))) Via.refl e4 (S_ALTER_CONFIGS.ext O0.2) (g := (mkF m 81 #[.val (.ref a), .val (.ref b)] [(.ref a)])) rfl (hb hby d2_81)
          refine goS (n := 84) (Ls' := #[.val (.ref a), .val (.ref b)]) (st' := [(.ref (W 8)), (.ref a)]) st15 ?_
          by_cases hc16 : a = (W 8)
          · refine goS (n := 87) (Ls' := #[.val (.ref a), .val (.ref b)]) (st' := []) (fun _ kz => Jvm.RoadKit.acmp (g := (mkF m 84 #[.val (.ref a), .val (.ref b)] [(.ref (W 8)), (.ref a)])) X15 hx rfl rfl rfl (pc0 := 84) (pc' := 87) (same := true) rfl (hb hby d2_84) rfl (decide_eq_true (congrArg Value.ref hc16)) (by decide) (by decide) kz) ?_
            refine goS (n := 88) (Ls' := #[.val (.ref a), .val (.ref b)]) (st' := [(.int (1 : Int32))]) (fun _ kz => XS.iconst X15.here hx rfl (hb hby d2_87) kz) ?_
            refine goS (n := 96) (Ls' := #[.val (.ref a), .val (.ref b)]) (st' := [(.int (1 : Int32))]) (fun _ kz => XS.goto X15.here hx rfl (pc0 := 88) (pc' := 96) rfl (hb hby d2_88) (by decide) (by decide) kz) ?_
            exact goRetZ X15 hx hlk Bd.returns (Or.inr rfl) (hb hby d2_96) (by decide) (by decide) (by rw [e15]; exact ⟨by rw [((by intros; simp_all [bi]) : ∀ (a : Addr) (b : Addr) (r : Int32) (W : Nat → Addr), (¬ (a = (W 13))) → (¬ (a = b)) → (¬ (r = (5 : Int32))) → ((r = (7 : Int32))) → ((a = (W 8))) → bi (own_I W a b r) = (1 : Int32)) a b r W hc2 hc3 hc5 hc14 hc16], N4, rfl⟩)
          · refine goS (n := 91) (Ls' := #[.val (.ref a), .val (.ref b)]) (st' := []) (fun _ kz => Jvm.RoadKit.acmp (g := (mkF m 84 #[.val (.ref a), .val (.ref b)] [(.ref (W 8)), (.ref a)])) X15 hx rfl rfl rfl (pc0 := 84) (pc' := 91) (same := false) rfl (hb hby d2_84) rfl (decide_eq_false fun q => hc16 (Value.ref.inj q)) (by decide) (by decide) kz) ?_
            refine goS (n := 92) (Ls' := #[.val (.ref a), .val (.ref b)]) (st' := [(.int (0 : Int32))]) (fun _ kz => XS.iconst X15.here hx rfl (hb hby d2_91) kz) ?_
            refine goS (n := 96) (Ls' := #[.val (.ref a), .val (.ref b)]) (st' := [(.int (0 : Int32))]) (fun _ kz => XS.goto X15.here hx rfl (pc0 := 92) (pc' := 96) rfl (hb hby d2_92) (by decide) (by decide) kz) ?_
            exact goRetZ X15 hx hlk Bd.returns (Or.inl rfl) (hb hby d2_96) (by decide) (by decide) (by rw [e15]; exact ⟨by rw [((by intros; simp_all [bi]) : ∀ (a : Addr) (b : Addr) (r : Int32) (W : Nat → Addr), (¬ (a = (W 13))) → (¬ (a = b)) → (¬ (r = (5 : Int32))) → ((r = (7 : Int32))) → (¬ (a = (W 8))) → bi (own_I W a b r) = (0 : Int32)) a b r W hc2 hc3 hc5 hc14 hc16], N4, rfl⟩)
        · refine goS (n := 95) (Ls' := #[.val (.ref a), .val (.ref b)]) (st' := []) (fun _ kz => lsw (g := (mkF m 18 #[.val (.ref a), .val (.ref b)] [(.int r)])) X4 hx rfl (pc0 := 18) (pc' := 95) rfl (o := 77) (hb hby d2_18) rfl (by intro a b c d h; revert h; simp; try omega) (Or.inr ⟨find_miss (by intro p hp; simp only [List.mem_cons, List.mem_nil_iff, or_false] at hp; rcases hp with rfl | rfl <;> first | exact ne_key hc5 rfl | exact ne_key hc14 rfl), rfl⟩) (by decide) (by decide) kz) ?_
          refine goS (n := 96) (Ls' := #[.val (.ref a), .val (.ref b)]) (st' := [(.int (0 : Int32))]) (fun _ kz => XS.iconst X4.here hx rfl (hb hby d2_95) kz) ?_
          exact goRetZ X4 hx hlk Bd.returns (Or.inl rfl) (hb hby d2_96) (by decide) (by decide) (by rw [e4]; exact ⟨by rw [((by intros; simp_all [bi]) : ∀ (a : Addr) (b : Addr) (r : Int32) (W : Nat → Addr), (¬ (a = (W 13))) → (¬ (a = b)) → (¬ (r = (5 : Int32))) → (¬ (r = (7 : Int32))) → bi (own_I W a b r) = (0 : Int32)) a b r W hc2 hc3 hc5 hc14], N4, rfl⟩)
theorem pd_1 : parseMethodDescriptor "(II)Z" = some ⟨[.int, .int], some .boolean⟩ := by decide +kernel
theorem pd_2 : parseMethodDescriptor "(Lcom/example/claimgate/claimgate/Operation;)Z" = some ⟨[(.object "com/example/claimgate/claimgate/Operation")], some .boolean⟩ := by decide +kernel
theorem ef_law (m : MethodId) (p1 : Int32) (p2 : Int32) : entryFrame m #[(.int p1), (.int p2)] maxLocals = mkF m 0 #[.val (.int p1), .val (.int p2), .unset, .unset, .unset, .unset] [] := by first | (simp [entryFrame, mkF, argsToLocals, Value.category, maxLocals]; done) | rfl
def Q_law (Z : State) (p1 : Int32) (p2 : Int32) (W : Nat → Addr) (h0 : Heap) (n0 : Nat) (v : Option Value) (h : Heap) (L : List Loc) : Prop := v = some (.int 1) ∧ Fr n0 L
set_option maxRecDepth 65536 in
set_option maxHeartbeats 40000000 in
theorem rm_law (l : Launch) (Z : State) (a0 : Array Value) (hw : ∀ d ∈ tables_1, d.before a0 Z = true) (ws : List Jvm.Cond) (p1 : Int32) (p2 : Int32) (W : Nat → Addr) (h0 : Heap) (n0 : Nat) (O0 : Old Z n0 h0) (S_READ : Sta Z Z.heap "com/example/claimgate/claimgate/Operation" "READ" "Lcom/example/claimgate/claimgate/Operation;" (.ref (W 0))) (S_WRITE : Sta Z Z.heap "com/example/claimgate/claimgate/Operation" "WRITE" "Lcom/example/claimgate/claimgate/Operation;" (.ref (W 1))) (S_CREATE : Sta Z Z.heap "com/example/claimgate/claimgate/Operation" "CREATE" "Lcom/example/claimgate/claimgate/Operation;" (.ref (W 2))) (S_DELETE : Sta Z Z.heap "com/example/claimgate/claimgate/Operation" "DELETE" "Lcom/example/claimgate/claimgate/Operation;" (.ref (W 3))) (S_ALTER : Sta Z Z.heap "com/example/claimgate/claimgate/Operation" "ALTER" "Lcom/example/claimgate/claimgate/Operation;" (.ref (W 4))) (S_DESCRIBE : Sta Z Z.heap "com/example/claimgate/claimgate/Operation" "DESCRIBE" "Lcom/example/claimgate/claimgate/Operation;" (.ref (W 5))) (S_CLUSTER_ACTION : Sta Z Z.heap "com/example/claimgate/claimgate/Operation" "CLUSTER_ACTION" "Lcom/example/claimgate/claimgate/Operation;" (.ref (W 6))) (S_DESCRIBE_CONFIGS : Sta Z Z.heap "com/example/claimgate/claimgate/Operation" "DESCRIBE_CONFIGS" "Lcom/example/claimgate/claimgate/Operation;" (.ref (W 7))) (S_ALTER_CONFIGS : Sta Z Z.heap "com/example/claimgate/claimgate/Operation" "ALTER_CONFIGS" "Lcom/example/claimgate/claimgate/Operation;" (.ref (W 8))) (S_IDEMPOTENT_WRITE : Sta Z Z.heap "com/example/claimgate/claimgate/Operation" "IDEMPOTENT_WRITE" "Lcom/example/claimgate/claimgate/Operation;" (.ref (W 9))) (S_CREATE_TOKENS : Sta Z Z.heap "com/example/claimgate/claimgate/Operation" "CREATE_TOKENS" "Lcom/example/claimgate/claimgate/Operation;" (.ref (W 10))) (S_DESCRIBE_TOKENS : Sta Z Z.heap "com/example/claimgate/claimgate/Operation" "DESCRIBE_TOKENS" "Lcom/example/claimgate/claimgate/Operation;" (.ref (W 11))) (S_TWO_PHASE_COMMIT : Sta Z Z.heap "com/example/claimgate/claimgate/Operation" "TWO_PHASE_COMMIT" "Lcom/example/claimgate/claimgate/Operation;" (.ref (W 12))) (S_ALL : Sta Z Z.heap "com/example/claimgate/claimgate/Operation" "ALL" "Lcom/example/claimgate/claimgate/Operation;" (.ref (W 13))) (EX : ∀ n, n < 14 → Exa Z Z.heap (W n) "com/example/claimgate/claimgate/Operation") (ORD : ∀ n, n < 14 → Fld Z Z.heap (W n) "java/lang/Enum" "ordinal" "I" (.int (Int32.ofNat n))) (INJ : ∀ i j, i < 14 → j < 14 → W i = W j → i = j) :
    MetFree l x (head1 (Jvm.Cond.code x code maxLocals ret :: ws) room_1) (fun as_ U => as_ = #[(.int p1), (.int p2)] ∧ Z.Warmed39 U.vm ∧ U.heap = h0) (fun _ _ _ _ _ => True) (fun _ U o U' => ∃ v L, o = .returned v ∧ Q_law Z p1 p2 W h0 n0 v U'.heap L ∧ FrameEnd U o U' L room_1.cells room_1.slots) := by
  refine MetFree.of_bodySF (plainFor_of_name pn_0) hisR ?_
  intro p e s m args below meth c s₁ Bd hml0 hP hK
  obtain ⟨rfl, hZ, hh⟩ := hP
  have hx := Bd.exec
  have hby := Bd.bytes
  have hml : c.maxLocals = 6 := hml0
  have hown : s.vm.findClass "com/example/claimgate/claimgate/OperationImpliesPinLaw" = some m.cls := findClass_of_methodNamed Bd.named
  have hnm := (name_of_methodNamed Bd.named Bd.method).1
  have hlk : meth.locks = false := BodyLoose.notSynchronized Bd
  have X0 : Stand p l e room_1 s m #[(.int p1), (.int p2)] below meth c s₁ [] 0 0 := Stand.of_body Bd
  have e0 : s₁.heap = h0 := by rw [← hh, Bd.state]; rfl
  have N0 := Fr.nil n0
  refine enter (P := PQ s room_1.cells room_1.slots (Q_law Z p1 p2 W h0 n0)) (ef_law m p1 p2) ?_
  refine goS (n := 2) (Ls' := #[.val (.int p1), .val (.int p2), .unset, .unset, .unset, .unset]) (st' := [(.int (14 : Int32))]) (fun _ kz => XS.bipush X0.here hx rfl (hb hby at_0) kz) ?_
  obtain ⟨T1, h1, k1, X1, e1, E1, A1, O_1, st1⟩ := newR X0 hx hZ hown (hw _ (List.mem_of_getElem? (i := 0) rfl)) (hw _ (List.mem_of_getElem? (i := 1) rfl)) e0 (g := (mkF m 2 #[.val (.int p1), .val (.int p2), .unset, .unset, .unset, .unset] [(.int (14 : Int32))])) rfl (hb hby at_2) rfl (by decide) (cap := 14) (by decide) (by decide) (by decide) (by decide)
  obtain ⟨b1, g1⟩ : ∃ z, z = h0.size := ⟨_, rfl⟩
  rw [← g1] at A1 st1
  have g_b1 : n0 ≤ b1 := Nat.le_trans (O0.1 ▸ O0.2.1) (Nat.le_of_eq g1.symm)
  have V_b1 : Arv Z h1 b1 k1 (.object "com/example/claimgate/claimgate/Operation") (14 : Int32) [.null, .null, .null, .null, .null, .null, .null, .null, .null, .null, .null, .null, .null, .null] .null := (Arv.new A1 (by decide)).pad (pad_rep [] .null 14)
  have O1 := O0.ext E1
  refine goS (n := 5) (Ls' := #[.val (.int p1), .val (.int p2), .unset, .unset, .unset, .unset]) (st' := [(.ref b1)]) st1 ?_
  refine goS (n := 6) (Ls' := #[.val (.int p1), .val (.int p2), .unset, .unset, .unset, .unset]) (st' := [(.ref b1), (.ref b1)]) (fun _ kz => XS.dup X1.here hx rfl (hb hby at_5) rfl rfl kz) ?_
  refine goS (n := 7) (Ls' := #[.val (.int p1), .val (.int p2), .unset, .unset, .unset, .unset]) (st' := [(.int (0 : Int32)), (.ref b1), (.ref b1)]) (fun _ kz => XS.iconst X1.here hx rfl (hb hby at_6) kz) ?_
  obtain ⟨T2, X2, e2, st2⟩ := getS2 X1 hx hZ hown (host := "") (Or.inl (hw _ (List.mem_of_getElem? (i := 2) rfl))) Via.refl e1 (S_READ.ext O1.2) (g := (mkF m 7 #[.val (.int p1), .val (.int p2), .unset, .unset, .unset, .unset] [(.int (0 : Int32)), (.ref b1), (.ref b1)])) rfl (hb hby at_7)
  refine goS (n := 10) (Ls' := #[.val (.int p1), .val (.int p2), .unset, .unset, .unset, .unset]) (st' := [(.ref (W 0)), (.int (0 : Int32)), (.ref b1), (.ref b1)]) st2 ?_
  obtain ⟨cl3, Ar3, q3, S3, Nn3, H3, G3⟩ := V_b1
  have hin3 : ¬ ((0 : Int32) < 0 ∨ cl3.slots.size ≤ ((0 : Int32)).toNatClampNeg) := inb_of S3 ⟨by decide, by decide⟩
  obtain ⟨T4, h4, X4, e4, W4, st4⟩ := stR X2 hx hZ e2 Ar3 (j := (0 : Int32)) hin3 rfl (Sto.ofV Ar3 q3 O_1 (Ins.self ((EX 0 (by decide)).ext O1.2))) (g := (mkF m 10 #[.val (.int p1), .val (.int p2), .unset, .unset, .unset, .unset] [(.ref (W 0)), (.int (0 : Int32)), (.ref b1), (.ref b1)])) rfl rfl (hb hby at_10)
  have V_b1 : Arv Z h4 b1 k1 (.object "com/example/claimgate/claimgate/Operation") (14 : Int32) [(.ref (W 0)), .null, .null, .null, .null, .null, .null, .null, .null, .null, .null, .null, .null, .null] .null := Arv.set Ar3 q3 S3 Nn3 H3 G3 rfl W4 0 rfl (Nat.le_of_ble_eq_true rfl)
  have N4 := Fr.snoc X4 N0 g_b1
  have O4 := O1.wr W4 g_b1
  refine goS (n := 11) (Ls' := #[.val (.int p1), .val (.int p2), .unset, .unset, .unset, .unset]) (st' := [(.ref b1)]) st4 ?_
  refine goS (n := 12) (Ls' := #[.val (.int p1), .val (.int p2), .unset, .unset, .unset, .unset]) (st' := [(.ref b1), (.ref b1)]) (fun _ kz => XS.dup X4.here hx rfl (hb hby at_11) rfl rfl kz) ?_
  refine goS (n := 13) (Ls' := #[.val (.int p1), .val (.int p2), .unset, .unset, .unset, .unset]) (st' := [(.int (1 : Int32)), (.ref b1), (.ref b1)]) (fun _ kz => XS.iconst X4.here hx rfl (hb hby at_12) kz) ?_
  obtain ⟨T5, X5, e5, st5⟩ := getS2 X4 hx hZ hown (host := "") (Or.inl (hw _ (List.mem_of_getElem? (i := 6) rfl))) Via.refl e4 (S_WRITE.ext O4.2) (g := (mkF m 13 #[.val (.int p1), .val (.int p2), .unset, .unset, .unset, .unset] [(.int (1 : Int32)), (.ref b1), (.ref b1)])) rfl (hb hby at_13)
  refine goS (n := 16) (Ls' := #[.val (.int p1), .val (.int p2), .unset, .unset, .unset, .unset]) (st' := [(.ref (W 1)), (.int (1 : Int32)), (.ref b1), (.ref b1)]) st5 ?_
  obtain ⟨cl6, Ar6, q6, S6, Nn6, H6, G6⟩ := V_b1
  have hin6 : ¬ ((1 : Int32) < 0 ∨ cl6.slots.size ≤ ((1 : Int32)).toNatClampNeg) := inb_of S6 ⟨by decide, by decide⟩
  obtain ⟨T7, h7, X7, e7, W7, st7⟩ := stR X5 hx hZ e5 Ar6 (j := (1 : Int32)) hin6 rfl (Sto.ofV Ar6 q6 O_1 (Ins.self ((EX 1 (by decide)).ext O4.2))) (g := (mkF m 16 #[.val (.int p1), .val (.int p2), .unset, .unset, .unset, .unset] [(.ref (W 1)), (.int (1 : Int32)), (.ref b1), (.ref b1)])) rfl rfl (hb hby at_16)
  have V_b1 : Arv Z h7 b1 k1 (.object "com/example/claimgate/claimgate/Operation") (14 : Int32) [(.ref (W 0)), (.ref (W 1)), .null, .null, .null, .null, .null, .null, .null, .null, .null, .null, .null, .null] .null := Arv.set Ar6 q6 S6 Nn6 H6 G6 rfl W7 1 rfl (Nat.le_of_ble_eq_true rfl)
  have N7 := Fr.snoc X7 N4 g_b1
  have O7 := O4.wr W7 g_b1
  refine goS (n := 17) (Ls' := #[.val (.int p1), .val (.int p2), .unset, .unset, .unset, .unset]) (st' := [(.ref b1)]) st7 ?_
  refine goS (n := 18) (Ls' := #[.val (.int p1), .val (.int p2), .unset, .unset, .unset, .unset]) (st' := [(.ref b1), (.ref b1)]) (fun _ kz => XS.dup X7.here hx rfl (hb hby at_17) rfl rfl kz) ?_
  refine goS (n := 19) (Ls' := #[.val (.int p1), .val (.int p2), .unset, .unset, .unset, .unset]) (st' := [(.int (2 : Int32)), (.ref b1), (.ref b1)]) (fun _ kz => XS.iconst X7.here hx rfl (hb hby at_18) kz) ?_
  obtain ⟨T8, X8, e8, st8⟩ := getS2 X7 hx hZ hown (host := "") (Or.inl (hw _ (List.mem_of_getElem? (i := 8) rfl))) Via.refl e7 (S_CREATE.ext O7.2) (g := (mkF m 19 #[.val (.int p1), .val (.int p2), .unset, .unset, .unset, .unset] [(.int (2 : Int32)), (.ref b1), (.ref b1)])) rfl (hb hby at_19)
  refine goS (n := 22) (Ls' := #[.val (.int p1), .val (.int p2), .unset, .unset, .unset, .unset]) (st' := [(.ref (W 2)), (.int (2 : Int32)), (.ref b1), (.ref b1)]) st8 ?_
  obtain ⟨cl9, Ar9, q9, S9, Nn9, H9, G9⟩ := V_b1
  have hin9 : ¬ ((2 : Int32) < 0 ∨ cl9.slots.size ≤ ((2 : Int32)).toNatClampNeg) := inb_of S9 ⟨by decide, by decide⟩
  obtain ⟨T10, h10, X10, e10, W10, st10⟩ := stR X8 hx hZ e8 Ar9 (j := (2 : Int32)) hin9 rfl (Sto.ofV Ar9 q9 O_1 (Ins.self ((EX 2 (by decide)).ext O7.2))) (g := (mkF m 22 #[.val (.int p1), .val (.int p2), .unset, .unset, .unset, .unset] [(.ref (W 2)), (.int (2 : Int32)), (.ref b1), (.ref b1)])) rfl rfl (hb hby at_22)
  have V_b1 : Arv Z h10 b1 k1 (.object "com/example/claimgate/claimgate/Operation") (14 : Int32) [(.ref (W 0)), (.ref (W 1)), (.ref (W 2)), .null, .null, .null, .null, .null, .null, .null, .null, .null, .null, .null] .null := Arv.set Ar9 q9 S9 Nn9 H9 G9 rfl W10 2 rfl (Nat.le_of_ble_eq_true rfl)
  have N10 := Fr.snoc X10 N7 g_b1
  have O10 := O7.wr W10 g_b1
  refine goS (n := 23) (Ls' := #[.val (.int p1), .val (.int p2), .unset, .unset, .unset, .unset]) (st' := [(.ref b1)]) st10 ?_
  refine goS (n := 24) (Ls' := #[.val (.int p1), .val (.int p2), .unset, .unset, .unset, .unset]) (st' := [(.ref b1), (.ref b1)]) (fun _ kz => XS.dup X10.here hx rfl (hb hby at_23) rfl rfl kz) ?_
  refine goS (n := 25) (Ls' := #[.val (.int p1), .val (.int p2), .unset, .unset, .unset, .unset]) (st' := [(.int (3 : Int32)), (.ref b1), (.ref b1)]) (fun _ kz => XS.iconst X10.here hx rfl (hb hby at_24) kz) ?_
  obtain ⟨T11, X11, e11, st11⟩ := getS2 X10 hx hZ hown (host := "") (Or.inl (hw _ (List.mem_of_getElem? (i := 10) rfl))) Via.refl e10 (S_DELETE.ext O10.2) (g := (mkF m 25 #[.val (.int p1), .val (.int p2), .unset, .unset, .unset, .unset] [(.int (3 : Int32)), (.ref b1), (.ref b1)])) rfl (hb hby at_25)
  refine goS (n := 28) (Ls' := #[.val (.int p1), .val (.int p2), .unset, .unset, .unset, .unset]) (st' := [(.ref (W 3)), (.int (3 : Int32)), (.ref b1), (.ref b1)]) st11 ?_
  obtain ⟨cl12, Ar12, q12, S12, Nn12, H12, G12⟩ := V_b1
  have hin12 : ¬ ((3 : Int32) < 0 ∨ cl12.slots.size ≤ ((3 : Int32)).toNatClampNeg) := inb_of S12 ⟨by decide, by decide⟩
  obtain ⟨T13, h13, X13, e13, W13, st13⟩ := stR X11 hx hZ e11 Ar12 (j := (3 : Int32)) hin12 rfl (Sto.ofV Ar12 q12 O_1 (Ins.self ((EX 3 (by decide)).ext O10.2))) (g := (mkF m 28 #[.val (.int p1), .val (.int p2), .unset, .unset, .unset, .unset] [(.ref (W 3)), (.int (3 : Int32)), (.ref b1), (.ref b1)])) rfl rfl (hb hby at_28)
  have V_b1 : Arv Z h13 b1 k1 (.object "com/example/claimgate/claimgate/Operation") (14 : Int32) [(.ref (W 0)), (.ref (W 1)), (.ref (W 2)), (.ref (W 3)), .null, .null, .null, .null, .null, .null, .null, .null, .null, .null] .null := Arv.set Ar12 q12 S12 Nn12 H12 G12 rfl W13 3 rfl (Nat.le_of_ble_eq_true rfl)
  have N13 := Fr.snoc X13 N10 g_b1
  have O13 := O10.wr W13 g_b1
  refine goS (n := 29) (Ls' := #[.val (.int p1), .val (.int p2), .unset, .unset, .unset, .unset]) (st' := [(.ref b1)]) st13 ?_
  refine goS (n := 30) (Ls' := #[.val (.int p1), .val (.int p2), .unset, .unset, .unset, .unset]) (st' := [(.ref b1), (.ref b1)]) (fun _ kz => XS.dup X13.here hx rfl (hb hby at_29) rfl rfl kz) ?_
  refine goS (n := 31) (Ls' := #[.val (.int p1), .val (.int p2), .unset, .unset, .unset, .unset]) (st' := [(.int (4 : Int32)), (.ref b1), (.ref b1)]) (fun _ kz => XS.iconst X13.here hx rfl (hb hby at_30) kz) ?_
  obtain ⟨T14, X14, e14, st14⟩ := getS2 X13 hx hZ hown (host := "") (Or.inl (hw _ (List.mem_of_getElem? (i := 12) rfl))) Via.refl e13 (S_ALTER.ext O13.2) (g := (mkF m 31 #[.val (.int p1), .val (.int p2), .unset, .unset, .unset, .unset] [(.int (4 : Int32)), (.ref b1), (.ref b1)])) rfl (hb hby at_31)
  refine goS (n := 34) (Ls' := #[.val (.int p1), .val (.int p2), .unset, .unset, .unset, .unset]) (st' := [(.ref (W 4)), (.int (4 : Int32)), (.ref b1), (.ref b1)]) st14 ?_
  obtain ⟨cl15, Ar15, q15, S15, Nn15, H15, G15⟩ := V_b1
  have hin15 : ¬ ((4 : Int32) < 0 ∨ cl15.slots.size ≤ ((4 : Int32)).toNatClampNeg) := inb_of S15 ⟨by decide, by decide⟩
  obtain ⟨T16, h16, X16, e16, W16, st16⟩ := stR X14 hx hZ e14 Ar15 (j := (4 : Int32)) hin15 rfl (Sto.ofV Ar15 q15 O_1 (Ins.self ((EX 4 (by decide)).ext O13.2))) (g := (mkF m 34 #[.val (.int p1), .val (.int p2), .unset, .unset, .unset, .unset] [(.ref (W 4)), (.int (4 : Int32)), (.ref b1), (.ref b1)])) rfl rfl (hb hby at_34)
  have V_b1 : Arv Z h16 b1 k1 (.object "com/example/claimgate/claimgate/Operation") (14 : Int32) [(.ref (W 0)), (.ref (W 1)), (.ref (W 2)), (.ref (W 3)), (.ref (W 4)), .null, .null, .null, .null, .null, .null, .null, .null, .null] .null := Arv.set Ar15 q15 S15 Nn15 H15 G15 rfl W16 4 rfl (Nat.le_of_ble_eq_true rfl)
  have N16 := Fr.snoc X16 N13 g_b1
  have O16 := O13.wr W16 g_b1
  refine goS (n := 35) (Ls' := #[.val (.int p1), .val (.int p2), .unset, .unset, .unset, .unset]) (st' := [(.ref b1)]) st16 ?_
  refine goS (n := 36) (Ls' := #[.val (.int p1), .val (.int p2), .unset, .unset, .unset, .unset]) (st' := [(.ref b1), (.ref b1)]) (fun _ kz => XS.dup X16.here hx rfl (hb hby at_35) rfl rfl kz) ?_
  refine goS (n := 37) (Ls' := #[.val (.int p1), .val (.int p2), .unset, .unset, .unset, .unset]) (st' := [(.int (5 : Int32)), (.ref b1), (.ref b1)]) (fun _ kz => XS.iconst X16.here hx rfl (hb hby at_36) kz) ?_
  obtain ⟨T17, X17, e17, st17⟩ := getS2 X16 hx hZ hown (host := "") (Or.inl (hw _ (List.mem_of_getElem? (i := 14) rfl))) Via.refl e16 (S_DESCRIBE.ext O16.2) (g := (mkF m 37 #[.val (.int p1), .val (.int p2), .unset, .unset, .unset, .unset] [(.int (5 : Int32)), (.ref b1), (.ref b1)])) rfl (hb hby at_37)
  refine goS (n := 40) (Ls' := #[.val (.int p1), .val (.int p2), .unset, .unset, .unset, .unset]) (st' := [(.ref (W 5)), (.int (5 : Int32)), (.ref b1), (.ref b1)]) st17 ?_
  obtain ⟨cl18, Ar18, q18, S18, Nn18, H18, G18⟩ := V_b1
  have hin18 : ¬ ((5 : Int32) < 0 ∨ cl18.slots.size ≤ ((5 : Int32)).toNatClampNeg) := inb_of S18 ⟨by decide, by decide⟩
  obtain ⟨T19, h19, X19, e19, W19, st19⟩ := stR X17 hx hZ e17 Ar18 (j := (5 : Int32)) hin18 rfl (Sto.ofV Ar18 q18 O_1 (Ins.self ((EX 5 (by decide)).ext O16.2))) (g := (mkF m 40 #[.val (.int p1), .val (.int p2), .unset, .unset, .unset, .unset] [(.ref (W 5)), (.int (5 : Int32)), (.ref b1), (.ref b1)])) rfl rfl (hb hby at_40)
  have V_b1 : Arv Z h19 b1 k1 (.object "com/example/claimgate/claimgate/Operation") (14 : Int32) [(.ref (W 0)), (.ref (W 1)), (.ref (W 2)), (.ref (W 3)), (.ref (W 4)), (.ref (W 5)), .null, .null, .null, .null, .null, .null, .null, .null] .null := Arv.set Ar18 q18 S18 Nn18 H18 G18 rfl W19 5 rfl (Nat.le_of_ble_eq_true rfl)
  have N19 := Fr.snoc X19 N16 g_b1
  have O19 := O16.wr W19 g_b1
  refine goS (n := 41) (Ls' := #[.val (.int p1), .val (.int p2), .unset, .unset, .unset, .unset]) (st' := [(.ref b1)]) st19 ?_
  refine goS (n := 42) (Ls' := #[.val (.int p1), .val (.int p2), .unset, .unset, .unset, .unset]) (st' := [(.ref b1), (.ref b1)]) (fun _ kz => XS.dup X19.here hx rfl (hb hby at_41) rfl rfl kz) ?_
  refine goS (n := 44) (Ls' := #[.val (.int p1), .val (.int p2), .unset, .unset, .unset, .unset]) (st' := [(.int (6 : Int32)), (.ref b1), (.ref b1)]) (fun _ kz => XS.bipush X19.here hx rfl (hb hby at_42) kz) ?_
  obtain ⟨T20, X20, e20, st20⟩ := getS2 X19 hx hZ hown (host := "") (Or.inl (hw _ (List.mem_of_getElem? (i := 16) rfl))) Via.refl e19 (S_CLUSTER_ACTION.ext O19.2) (g := (mkF m 44 #[.val (.int p1), .val (.int p2), .unset, .unset, .unset, .unset] [(.int (6 : Int32)), (.ref b1), (.ref b1)])) rfl (hb hby at_44)
  refine goS (n := 47) (Ls' := #[.val (.int p1), .val (.int p2), .unset, .unset, .unset, .unset]) (st' := [(.ref (W 6)), (.int (6 : Int32)), (.ref b1), (.ref b1)]) st20 ?_
  obtain ⟨cl21, Ar21, q21, S21, Nn21, H21, G21⟩ := V_b1
  have hin21 : ¬ ((6 : Int32) < 0 ∨ cl21.slots.size ≤ ((6 : Int32)).toNatClampNeg) := inb_of S21 ⟨by decide, by decide⟩
  obtain ⟨T22, h22, X22, e22, W22, st22⟩ := stR X20 hx hZ e20 Ar21 (j := (6 : Int32)) hin21 rfl (Sto.ofV Ar21 q21 O_1 (Ins.self ((EX 6 (by decide)).ext O19.2))) (g := (mkF m 47 #[.val (.int p1), .val (.int p2), .unset, .unset, .unset, .unset] [(.ref (W 6)), (.int (6 : Int32)), (.ref b1), (.ref b1)])) rfl rfl (hb hby at_47)
  have V_b1 : Arv Z h22 b1 k1 (.object "com/example/claimgate/claimgate/Operation") (14 : Int32) [(.ref (W 0)), (.ref (W 1)), (.ref (W 2)), (.ref (W 3)), (.ref (W 4)), (.ref (W 5)), (.ref (W 6)), .null, .null, .null, .null, .null, .null, .null] .null := Arv.set Ar21 q21 S21 Nn21 H21 G21 rfl W22 6 rfl (Nat.le_of_ble_eq_true rfl)
  have N22 := Fr.snoc X22 N19 g_b1
  have O22 := O19.wr W22 g_b1
  refine goS (n := 48) (Ls' := #[.val (.int p1), .val (.int p2), .unset, .unset, .unset, .unset]) (st' := [(.ref b1)]) st22 ?_
  refine goS (n := 49) (Ls' := #[.val (.int p1), .val (.int p2), .unset, .unset, .unset, .unset]) (st' := [(.ref b1), (.ref b1)]) (fun _ kz => XS.dup X22.here hx rfl (hb hby at_48) rfl rfl kz) ?_
  refine goS (n := 51) (Ls' := #[.val (.int p1), .val (.int p2), .unset, .unset, .unset, .unset]) (st' := [(.int (7 : Int32)), (.ref b1), (.ref b1)]) (fun _ kz => XS.bipush X22.here hx rfl (hb hby at_49) kz) ?_
  obtain ⟨T23, X23, e23, st23⟩ := getS2 X22 hx hZ hown (host := "") (Or.inl (hw _ (List.mem_of_getElem? (i := 18) rfl))) Via.refl e22 (S_DESCRIBE_CONFIGS.ext O22.2) (g := (mkF m 51 #[.val (.int p1), .val (.int p2), .unset, .unset, .unset, .unset] [(.int (7 : Int32)), (.ref b1), (.ref b1)])) rfl (hb hby at_51)
  refine goS (n := 54) (Ls' := #[.val (.int p1), .val (.int p2), .unset, .unset, .unset, .unset]) (st' := [(.ref (W 7)), (.int (7 : Int32)), (.ref b1), (.ref b1)]) st23 ?_
  obtain ⟨cl24, Ar24, q24, S24, Nn24, H24, G24⟩ := V_b1
  have hin24 : ¬ ((7 : Int32) < 0 ∨ cl24.slots.size ≤ ((7 : Int32)).toNatClampNeg) := inb_of S24 ⟨by decide, by decide⟩
  obtain ⟨T25, h25, X25, e25, W25, st25⟩ := stR X23 hx hZ e23 Ar24 (j := (7 : Int32)) hin24 rfl (Sto.ofV Ar24 q24 O_1 (Ins.self ((EX 7 (by decide)).ext O22.2))) (g := (mkF m 54 #[.val (.int p1), .val (.int p2), .unset, .unset, .unset, .unset] [(.ref (W 7)), (.int (7 : Int32)), (.ref b1), (.ref b1)])) rfl rfl (hb hby at_54)
  have V_b1 : Arv Z h25 b1 k1 (.object "com/example/claimgate/claimgate/Operation") (14 : Int32) [(.ref (W 0)), (.ref (W 1)), (.ref (W 2)), (.ref (W 3)), (.ref (W 4)), (.ref (W 5)), (.ref (W 6)), (.ref (W 7)), .null, .null, .null, .null, .null, .null] .null := Arv.set Ar24 q24 S24 Nn24 H24 G24 rfl W25 7 rfl (Nat.le_of_ble_eq_true rfl)
  have N25 := Fr.snoc X25 N22 g_b1
  have O25 := O22.wr W25 g_b1
  refine goS (n := 55) (Ls' := #[.val (.int p1), .val (.int p2), .unset, .unset, .unset, .unset]) (st' := [(.ref b1)]) st25 ?_
  refine goS (n := 56) (Ls' := #[.val (.int p1), .val (.int p2), .unset, .unset, .unset, .unset]) (st' := [(.ref b1), (.ref b1)]) (fun _ kz => XS.dup X25.here hx rfl (hb hby at_55) rfl rfl kz) ?_
  refine goS (n := 58) (Ls' := #[.val (.int p1), .val (.int p2), .unset, .unset, .unset, .unset]) (st' := [(.int (8 : Int32)), (.ref b1), (.ref b1)]) (fun _ kz => XS.bipush X25.here hx rfl (hb hby at_56) kz) ?_
  obtain ⟨T26, X26, e26, st26⟩ := getS2 X25 hx hZ hown (host := "") (Or.inl (hw _ (List.mem_of_getElem? (i := 20) rfl))) Via.refl e25 (S_ALTER_CONFIGS.ext O25.2) (g := (mkF m 58 #[.val (.int p1), .val (.int p2), .unset, .unset, .unset, .unset] [(.int (8 : Int32)), (.ref b1), (.ref b1)])) rfl (hb hby at_58)
  refine goS (n := 61) (Ls' := #[.val (.int p1), .val (.int p2), .unset, .unset, .unset, .unset]) (st' := [(.ref (W 8)), (.int (8 : Int32)), (.ref b1), (.ref b1)]) st26 ?_
  obtain ⟨cl27, Ar27, q27, S27, Nn27, H27, G27⟩ := V_b1
  have hin27 : ¬ ((8 : Int32) < 0 ∨ cl27.slots.size ≤ ((8 : Int32)).toNatClampNeg) := inb_of S27 ⟨by decide, by decide⟩
  obtain ⟨T28, h28, X28, e28, W28, st28⟩ := stR X26 hx hZ e26 Ar27 (j := (8 : Int32)) hin27 rfl (Sto.ofV Ar27 q27 O_1 (Ins.self ((EX 8 (by decide)).ext O25.2))) (g := (mkF m 61 #[.val (.int p1), .val (.int p2), .unset, .unset, .unset, .unset] [(.ref (W 8)), (.int (8 : Int32)), (.ref b1), (.ref b1)])) rfl rfl (hb hby at_61)
  have V_b1 : Arv Z h28 b1 k1 (.object "com/example/claimgate/claimgate/Operation") (14 : Int32) [(.ref (W 0)), (.ref (W 1)), (.ref (W 2)), (.ref (W 3)), (.ref (W 4)), (.ref (W 5)), (.ref (W 6)), (.ref (W 7)), (.ref (W 8)), .null, .null, .null, .null, .null] .null := Arv.set Ar27 q27 S27 Nn27 H27 G27 rfl W28 8 rfl (Nat.le_of_ble_eq_true rfl)
  have N28 := Fr.snoc X28 N25 g_b1
  have O28 := O25.wr W28 g_b1
  refine goS (n := 62) (Ls' := #[.val (.int p1), .val (.int p2), .unset, .unset, .unset, .unset]) (st' := [(.ref b1)]) st28 ?_
  refine goS (n := 63) (Ls' := #[.val (.int p1), .val (.int p2), .unset, .unset, .unset, .unset]) (st' := [(.ref b1), (.ref b1)]) (fun _ kz => XS.dup X28.here hx rfl (hb hby at_62) rfl rfl kz) ?_
  refine goS (n := 65) (Ls' := #[.val (.int p1), .val (.int p2), .unset, .unset, .unset, .unset]) (st' := [(.int (9 : Int32)), (.ref b1), (.ref b1)]) (fun _ kz => XS.bipush X28.here hx rfl (hb hby at_63) kz) ?_
  obtain ⟨T29, X29, e29, st29⟩ := getS2 X28 hx hZ hown (host := "") (Or.inl (hw _ (List.mem_of_getElem? (i := 22) rfl))) Via.refl e28 (S_IDEMPOTENT_WRITE.ext O28.2) (g := (mkF m 65 #[.val (.int p1), .val (.int p2), .unset, .unset, .unset, .unset] [(.int (9 : Int32)), (.ref b1), (.ref b1)])) rfl (hb hby at_65)
  refine goS (n := 68) (Ls' := #[.val (.int p1), .val (.int p2), .unset, .unset, .unset, .unset]) (st' := [(.ref (W 9)), (.int (9 : Int32)), (.ref b1), (.ref b1)]) st29 ?_
  obtain ⟨cl30, Ar30, q30, S30, Nn30, H30, G30⟩ := V_b1
  have hin30 : ¬ ((9 : Int32) < 0 ∨ cl30.slots.size ≤ ((9 : Int32)).toNatClampNeg) := inb_of S30 ⟨by decide, by decide⟩
  obtain ⟨T31, h31, X31, e31, W31, st31⟩ := stR X29 hx hZ e29 Ar30 (j := (9 : Int32)) hin30 rfl (Sto.ofV Ar30 q30 O_1 (Ins.self ((EX 9 (by decide)).ext O28.2))) (g := (mkF m 68 #[.val (.int p1), .val (.int p2), .unset, .unset, .unset, .unset] [(.ref (W 9)), (.int (9 : Int32)), (.ref b1), (.ref b1)])) rfl rfl (hb hby at_68)
  have V_b1 : Arv Z h31 b1 k1 (.object "com/example/claimgate/claimgate/Operation") (14 : Int32) [(.ref (W 0)), (.ref (W 1)), (.ref (W 2)), (.ref (W 3)), (.ref (W 4)), (.ref (W 5)), (.ref (W 6)), (.ref (W 7)), (.ref (W 8)), (.ref (W 9)), .null, .null, .null, .null] .null := Arv.set Ar30 q30 S30 Nn30 H30 G30 rfl W31 9 rfl (Nat.le_of_ble_eq_true rfl)
  have N31 := Fr.snoc X31 N28 g_b1
  have O31 := O28.wr W31 g_b1
  refine goS (n := 69) (Ls' := #[.val (.int p1), .val (.int p2), .unset, .unset, .unset, .unset]) (st' := [(.ref b1)]) st31 ?_
  refine goS (n := 70) (Ls' := #[.val (.int p1), .val (.int p2), .unset, .unset, .unset, .unset]) (st' := [(.ref b1), (.ref b1)]) (fun _ kz => XS.dup X31.here hx rfl (hb hby at_69) rfl rfl kz) ?_
  refine goS (n := 72) (Ls' := #[.val (.int p1), .val (.int p2), .unset, .unset, .unset, .unset]) (st' := [(.int (10 : Int32)), (.ref b1), (.ref b1)]) (fun _ kz => XS.bipush X31.here hx rfl (hb hby at_70) kz) ?_
  obtain ⟨T32, X32, e32, st32⟩ := getS2 X31 hx hZ hown (host := "") (Or.inl (hw _ (List.mem_of_getElem? (i := 24) rfl))) Via.refl e31 (S_CREATE_TOKENS.ext O31.2) (g := (mkF m 72 #[.val (.int p1), .val (.int p2), .unset, .unset, .unset, .unset] [(.int (10 : Int32)), (.ref b1), (.ref b1)])) rfl (hb hby at_72)
  refine goS (n := 75) (Ls' := #[.val (.int p1), .val (.int p2), .unset, .unset, .unset, .unset]) (st' := [(.ref (W 10)), (.int (10 : Int32)), (.ref b1), (.ref b1)]) st32 ?_
  obtain ⟨cl33, Ar33, q33, S33, Nn33, H33, G33⟩ := V_b1
  have hin33 : ¬ ((10 : Int32) < 0 ∨ cl33.slots.size ≤ ((10 : Int32)).toNatClampNeg) := inb_of S33 ⟨by decide, by decide⟩
  obtain ⟨T34, h34, X34, e34, W34, st34⟩ := stR X32 hx hZ e32 Ar33 (j := (10 : Int32)) hin33 rfl (Sto.ofV Ar33 q33 O_1 (Ins.self ((EX 10 (by decide)).ext O31.2))) (g := (mkF m 75 #[.val (.int p1), .val (.int p2), .unset, .unset, .unset, .unset] [(.ref (W 10)), (.int (10 : Int32)), (.ref b1), (.ref b1)])) rfl rfl (hb hby at_75)
  have V_b1 : Arv Z h34 b1 k1 (.object "com/example/claimgate/claimgate/Operation") (14 : Int32) [(.ref (W 0)), (.ref (W 1)), (.ref (W 2)), (.ref (W 3)), (.ref (W 4)), (.ref (W 5)), (.ref (W 6)), (.ref (W 7)), (.ref (W 8)), (.ref (W 9)), (.ref (W 10)), .null, .null, .null] .null := Arv.set Ar33 q33 S33 Nn33 H33 G33 rfl W34 10 rfl (Nat.le_of_ble_eq_true rfl)
  have N34 := Fr.snoc X34 N31 g_b1
  have O34 := O31.wr W34 g_b1
  refine goS (n := 76) (Ls' := #[.val (.int p1), .val (.int p2), .unset, .unset, .unset, .unset]) (st' := [(.ref b1)]) st34 ?_
  refine goS (n := 77) (Ls' := #[.val (.int p1), .val (.int p2), .unset, .unset, .unset, .unset]) (st' := [(.ref b1), (.ref b1)]) (fun _ kz => XS.dup X34.here hx rfl (hb hby at_76) rfl rfl kz) ?_
  refine goS (n := 79) (Ls' := #[.val (.int p1), .val (.int p2), .unset, .unset, .unset, .unset]) (st' := [(.int (11 : Int32)), (.ref b1), (.ref b1)]) (fun _ kz => XS.bipush X34.here hx rfl (hb hby at_77) kz) ?_
  obtain ⟨T35, X35, e35, st35⟩ := getS2 X34 hx hZ hown (host := "") (Or.inl (hw _ (List.mem_of_getElem? (i := 26) rfl))) Via.refl e34 (S_DESCRIBE_TOKENS.ext O34.2) (g := (mkF m 79 #[.val (.int p1), .val (.int p2), .unset, .unset, .unset, .unset] [(.int (11 : Int32)), (.ref b1), (.ref b1)])) rfl (hb hby at_79)
  refine goS (n := 82) (Ls' := #[.val (.int p1), .val (.int p2), .unset, .unset, .unset, .unset]) (st' := [(.ref (W 11)), (.int (11 : Int32)), (.ref b1), (.ref b1)]) st35 ?_
  obtain ⟨cl36, Ar36, q36, S36, Nn36, H36, G36⟩ := V_b1
  have hin36 : ¬ ((11 : Int32) < 0 ∨ cl36.slots.size ≤ ((11 : Int32)).toNatClampNeg) := inb_of S36 ⟨by decide, by decide⟩
  obtain ⟨T37, h37, X37, e37, W37, st37⟩ := stR X35 hx hZ e35 Ar36 (j := (11 : Int32)) hin36 rfl (Sto.ofV Ar36 q36 O_1 (Ins.self ((EX 11 (by decide)).ext O34.2))) (g := (mkF m 82 #[.val (.int p1), .val (.int p2), .unset, .unset, .unset, .unset] [(.ref (W 11)), (.int (11 : Int32)), (.ref b1), (.ref b1)])) rfl rfl (hb hby at_82)
  have V_b1 : Arv Z h37 b1 k1 (.object "com/example/claimgate/claimgate/Operation") (14 : Int32) [(.ref (W 0)), (.ref (W 1)), (.ref (W 2)), (.ref (W 3)), (.ref (W 4)), (.ref (W 5)), (.ref (W 6)), (.ref (W 7)), (.ref (W 8)), (.ref (W 9)), (.ref (W 10)), (.ref (W 11)), .null, .null] .null := Arv.set Ar36 q36 S36 Nn36 H36 G36 rfl W37 11 rfl (Nat.le_of_ble_eq_true rfl)
  have N37 := Fr.snoc X37 N34 g_b1
  have O37 := O34.wr W37 g_b1
  refine goS (n := 83) (Ls' := #[.val (.int p1), .val (.int p2), .unset, .unset, .unset, .unset]) (st' := [(.ref b1)]) st37 ?_
  refine goS (n := 84) (Ls' := #[.val (.int p1), .val (.int p2), .unset, .unset, .unset, .unset]) (st' := [(.ref b1), (.ref b1)]) (fun _ kz => XS.dup X37.here hx rfl (hb hby at_83) rfl rfl kz) ?_
  refine goS (n := 86) (Ls' := #[.val (.int p1), .val (.int p2), .unset, .unset, .unset, .unset]) (st' := [(.int (12 : Int32)), (.ref b1), (.ref b1)]) (fun _ kz => XS.bipush X37.here hx rfl (hb hby at_84) kz) ?_
  obtain ⟨T38, X38, e38, st38⟩ := getS2 X37 hx hZ hown (host := "") (Or.inl (hw _ (List.mem_of_getElem? (i := 28) rfl))) Via.refl e37 (S_TWO_PHASE_COMMIT.ext O37.2) (g := (mkF m 86 #[.val (.int p1), .val (.int p2), .unset, .unset, .unset, .unset] [(.int (12 : Int32)), (.ref b1), (.ref b1)])) rfl (hb hby at_86)
  refine goS (n := 89) (Ls' := #[.val (.int p1), .val (.int p2), .unset, .unset, .unset, .unset]) (st' := [(.ref (W 12)), (.int (12 : Int32)), (.ref b1), (.ref b1)]) st38 ?_
  obtain ⟨cl39, Ar39, q39, S39, Nn39, H39, G39⟩ := V_b1
  have hin39 : ¬ ((12 : Int32) < 0 ∨ cl39.slots.size ≤ ((12 : Int32)).toNatClampNeg) := inb_of S39 ⟨by decide, by decide⟩
  obtain ⟨T40, h40, X40, e40, W40, st40⟩ := stR X38 hx hZ e38 Ar39 (j := (12 : Int32)) hin39 rfl (Sto.ofV Ar39 q39 O_1 (Ins.self ((EX 12 (by decide)).ext O37.2))) (g := (mkF m 89 #[.val (.int p1), .val (.int p2), .unset, .unset, .unset, .unset] [(.ref (W 12)), (.int (12 : Int32)), (.ref b1), (.ref b1)])) rfl rfl (hb hby at_89)
  have V_b1 : Arv Z h40 b1 k1 (.object "com/example/claimgate/claimgate/Operation") (14 : Int32) [(.ref (W 0)), (.ref (W 1)), (.ref (W 2)), (.ref (W 3)), (.ref (W 4)), (.ref (W 5)), (.ref (W 6)), (.ref (W 7)), (.ref (W 8)), (.ref (W 9)), (.ref (W 10)), (.ref (W 11)), (.ref (W 12)), .null] .null := Arv.set Ar39 q39 S39 Nn39 H39 G39 rfl W40 12 rfl (Nat.le_of_ble_eq_true rfl)
  have N40 := Fr.snoc X40 N37 g_b1
  have O40 := O37.wr W40 g_b1
  refine goS (n := 90) (Ls' := #[.val (.int p1), .val (.int p2), .unset, .unset, .unset, .unset]) (st' := [(.ref b1)]) st40 ?_
  refine goS (n := 91) (Ls' := #[.val (.int p1), .val (.int p2), .unset, .unset, .unset, .unset]) (st' := [(.ref b1), (.ref b1)]) (fun _ kz => XS.dup X40.here hx rfl (hb hby at_90) rfl rfl kz) ?_
  refine goS (n := 93) (Ls' := #[.val (.int p1), .val (.int p2), .unset, .unset, .unset, .unset]) (st' := [(.int (13 : Int32)), (.ref b1), (.ref b1)]) (fun _ kz => XS.bipush X40.here hx rfl (hb hby at_91) kz) ?_
  obtain ⟨T41, X41, e41, st41⟩ := getS2 X40 hx hZ hown (host := "") (Or.inl (hw _ (List.mem_of_getElem? (i := 30) rfl))) Via.refl e40 (S_ALL.ext O40.2) (g := (mkF m 93 #[.val (.int p1), .val (.int p2), .unset, .unset, .unset, .unset] [(.int (13 : Int32)), (.ref b1), (.ref b1)])) rfl (hb hby at_93)
  refine goS (n := 96) (Ls' := #[.val (.int p1), .val (.int p2), .unset, .unset, .unset, .unset]) (st' := [(.ref (W 13)), (.int (13 : Int32)), (.ref b1), (.ref b1)]) st41 ?_
  obtain ⟨cl42, Ar42, q42, S42, Nn42, H42, G42⟩ := V_b1
  have hin42 : ¬ ((13 : Int32) < 0 ∨ cl42.slots.size ≤ ((13 : Int32)).toNatClampNeg) := inb_of S42 ⟨by decide, by decide⟩
  obtain ⟨T43, h43, X43, e43, W43, st43⟩ := stR X41 hx hZ e41 Ar42 (j := (13 : Int32)) hin42 rfl (Sto.ofV Ar42 q42 O_1 (Ins.self ((EX 13 (by decide)).ext O40.2))) (g := (mkF m 96 #[.val (.int p1), .val (.int p2), .unset, .unset, .unset, .unset] [(.ref (W 13)), (.int (13 : Int32)), (.ref b1), (.ref b1)])) rfl rfl (hb hby at_96)
  have V_b1 : Arv Z h43 b1 k1 (.object "com/example/claimgate/claimgate/Operation") (14 : Int32) [(.ref (W 0)), (.ref (W 1)), (.ref (W 2)), (.ref (W 3)), (.ref (W 4)), (.ref (W 5)), (.ref (W 6)), (.ref (W 7)), (.ref (W 8)), (.ref (W 9)), (.ref (W 10)), (.ref (W 11)), (.ref (W 12)), (.ref (W 13))] .null := Arv.set Ar42 q42 S42 Nn42 H42 G42 rfl W43 13 rfl (Nat.le_of_ble_eq_true rfl)
  have N43 := Fr.snoc X43 N40 g_b1
  have O43 := O40.wr W43 g_b1
  refine goS (n := 97) (Ls' := #[.val (.int p1), .val (.int p2), .unset, .unset, .unset, .unset]) (st' := [(.ref b1)]) st43 ?_
  refine goS (n := 98) (Ls' := #[.val (.int p1), .val (.int p2), .val (.ref b1), .unset, .unset, .unset]) (st' := []) (fun _ kz => XS.astoreN X43.here hx rfl (hb hby at_97) rfl rfl (l' := #[.val (.int p1), .val (.int p2), .val (.ref b1), .unset, .unset, .unset]) rfl kz) ?_
  refine goS (n := 99) (Ls' := #[.val (.int p1), .val (.int p2), .val (.ref b1), .unset, .unset, .unset]) (st' := [(.int p1)]) (fun _ kz => XS.iloadN X43.here hx rfl (hb hby at_98) rfl kz) ?_
  refine goS (n := 101) (Ls' := #[.val (.int p1), .val (.int p2), .val (.ref b1), .unset, .unset, .unset]) (st' := [(.int (2147483647 : Int32)), (.int p1)]) (X43.ldcInt hx hown (mvT hZ (hw _ (List.mem_of_getElem? (i := 32) rfl))) (g := (mkF m 99 #[.val (.int p1), .val (.int p2), .val (.ref b1), .unset, .unset, .unset] [(.int p1)])) rfl (hb hby at_99)) ?_
  refine goS (n := 102) (Ls' := #[.val (.int p1), .val (.int p2), .val (.ref b1), .unset, .unset, .unset]) (st' := [(.int (p1 &&& (2147483647 : Int32)))]) (fun _ kz => XS.iand X43.here hx rfl (hb hby at_101) rfl kz) ?_
  refine goS (n := 104) (Ls' := #[.val (.int p1), .val (.int p2), .val (.ref b1), .unset, .unset, .unset]) (st' := [(.int (14 : Int32)), (.int (p1 &&& (2147483647 : Int32)))]) (fun _ kz => XS.bipush X43.here hx rfl (hb hby at_102) kz) ?_
  refine goS (n := 105) (Ls' := #[.val (.int p1), .val (.int p2), .val (.ref b1), .unset, .unset, .unset]) (st' := [(.int ((p1 &&& (2147483647 : Int32)) % (14 : Int32)))]) (fun _ kz => iremM X43 hx rfl (hb hby at_104) rfl (by decide) kz) ?_
  refine goS (n := 106) (Ls' := #[.val (.int p1), .val (.int p2), .val (.ref b1), .val (.int ((p1 &&& (2147483647 : Int32)) % (14 : Int32))), .unset, .unset]) (st' := []) (fun _ kz => XS.istoreN X43.here hx rfl (hb hby at_105) rfl (l' := #[.val (.int p1), .val (.int p2), .val (.ref b1), .val (.int ((p1 &&& (2147483647 : Int32)) % (14 : Int32))), .unset, .unset]) rfl kz) ?_
  refine goS (n := 107) (Ls' := #[.val (.int p1), .val (.int p2), .val (.ref b1), .val (.int ((p1 &&& (2147483647 : Int32)) % (14 : Int32))), .unset, .unset]) (st' := [(.int p2)]) (fun _ kz => XS.iloadN X43.here hx rfl (hb hby at_106) rfl kz) ?_
  refine goS (n := 109) (Ls' := #[.val (.int p1), .val (.int p2), .val (.ref b1), .val (.int ((p1 &&& (2147483647 : Int32)) % (14 : Int32))), .unset, .unset]) (st' := [(.int (2147483647 : Int32)), (.int p2)]) (X43.ldcInt hx hown (mvT hZ (hw _ (List.mem_of_getElem? (i := 32) rfl))) (g := (mkF m 107 #[.val (.int p1), .val (.int p2), .val (.ref b1), .val (.int ((p1 &&& (2147483647 : Int32)) % (14 : Int32))), .unset, .unset] [(.int p2)])) rfl (hb hby at_107)) ?_
  refine goS (n := 110) (Ls' := #[.val (.int p1), .val (.int p2), .val (.ref b1), .val (.int ((p1 &&& (2147483647 : Int32)) % (14 : Int32))), .unset, .unset]) (st' := [(.int (p2 &&& (2147483647 : Int32)))]) (fun _ kz => XS.iand X43.here hx rfl (hb hby at_109) rfl kz) ?_
  refine goS (n := 112) (Ls' := #[.val (.int p1), .val (.int p2), .val (.ref b1), .val (.int ((p1 &&& (2147483647 : Int32)) % (14 : Int32))), .unset, .unset]) (st' := [(.int (14 : Int32)), (.int (p2 &&& (2147483647 : Int32)))]) (fun _ kz => XS.bipush X43.here hx rfl (hb hby at_110) kz) ?_
  refine goS (n := 113) (Ls' := #[.val (.int p1), .val (.int p2), .val (.ref b1), .val (.int ((p1 &&& (2147483647 : Int32)) % (14 : Int32))), .unset, .unset]) (st' := [(.int ((p2 &&& (2147483647 : Int32)) % (14 : Int32)))]) (fun _ kz => iremM X43 hx rfl (hb hby at_112) rfl (by decide) kz) ?_
  refine goS (n := 115) (Ls' := #[.val (.int p1), .val (.int p2), .val (.ref b1), .val (.int ((p1 &&& (2147483647 : Int32)) % (14 : Int32))), .val (.int ((p2 &&& (2147483647 : Int32)) % (14 : Int32))), .unset]) (st' := []) (fun _ kz => XS.istore X43.here hx rfl (hb hby at_113) rfl (l' := #[.val (.int p1), .val (.int p2), .val (.ref b1), .val (.int ((p1 &&& (2147483647 : Int32)) % (14 : Int32))), .val (.int ((p2 &&& (2147483647 : Int32)) % (14 : Int32))), .unset]) rfl kz) ?_
  obtain ⟨i, hi⟩ : ∃ i : Int32, i = ((p1 &&& (2147483647 : Int32)) % (14 : Int32)) := ⟨_, rfl⟩
  rw [← hi]
  obtain ⟨n, hn, hti, hki, hnegi⟩ := idx (i := i) (n := 14) (by rw [hi]; exact modk p1 14 14 (by decide) (by decide))
  have hlti : i < (14 : Int32) := by rw [Int32.lt_iff_toInt_lt]; show i.toInt < 14; omega
  obtain ⟨j, hj⟩ : ∃ i : Int32, i = ((p2 &&& (2147483647 : Int32)) % (14 : Int32)) := ⟨_, rfl⟩
  rw [← hj]
  obtain ⟨k, hk, htj, hkj, hnegj⟩ := idx (i := j) (n := 14) (by rw [hj]; exact modk p2 14 14 (by decide) (by decide))
  have hltj : j < (14 : Int32) := by rw [Int32.lt_iff_toInt_lt]; show j.toInt < 14; omega
  have OR := fun k hk => ORD k hk
  have hjo : Int32.ofNat k = j := Int32.toInt_inj.mp (by rw [htj]; exact Int32.toInt_ofNat_small (by omega))
  have ORk : Fld Z Z.heap (W k) "java/lang/Enum" "ordinal" "I" (.int j) := by rw [← hjo]; exact ORD k hk
  refine goS (n := 116) (Ls' := #[.val (.int p1), .val (.int p2), .val (.ref b1), .val (.int i), .val (.int j), .unset]) (st' := [(.int i)]) (fun _ kz => XS.iloadN X43.here hx rfl (hb hby at_115) rfl kz) ?_
  refine goS (n := 118) (Ls' := #[.val (.int p1), .val (.int p2), .val (.ref b1), .val (.int i), .val (.int j), .unset]) (st' := [(.int j), (.int i)]) (fun _ kz => XS.iload X43.here hx rfl (hb hby at_116) rfl kz) ?_
  obtain ⟨_, _, ⟨T44, L44, k44, n44⟩, -, X44, ⟨Lc44, hQ44, l44, y44, z44⟩, st44⟩ := Jvm.LawKit.callS X43 hx (y := (⟨"com/example/claimgate/claimgate/OperationImpliesPinLaw", "expected", "(II)Z"⟩ : MethodName)) hown (mvT hZ (hw _ (List.mem_of_getElem? (i := 33) rfl))) (mvT hZ (hw _ (List.mem_of_getElem? (i := 34) rfl))) (mvT hZ (hw _ (List.mem_of_getElem? (i := 35) rfl))) (mvT hZ (hw _ (List.mem_of_getElem? (i := 36) rfl))) (by decide) (backOf (W := 0) (rm_exp l Z a0 hw [] i j h43 n0 O43) hZ (hw _ (List.mem_of_getElem? (i := 36) rfl)) (hw _ (List.mem_of_getElem? (i := 35) rfl)) (by decide) (by decide)) (g := (mkF m 118 #[.val (.int p1), .val (.int p2), .val (.ref b1), .val (.int i), .val (.int j), .unset] [(.int j), (.int i)])) rfl (by rw [hml]; rfl) (argsL := [(.int i), (.int j)]) (rest := []) (lenOf pd_1 rfl) rfl (by show 2 * 0 + _ ≤ _; exact Nat.le_of_eq rfl) (hb hby at_118) (fun _ _ => ⟨rfl, e43, (Nat.le_of_ble_eq_true rfl), (Nat.le_of_ble_eq_true rfl)⟩)
  dsimp only [Pt.U, Pt.locs, Pt.cells, Pt.slots] at X44 l44 y44 z44 st44 hQ44
  subst l44 y44 z44
  obtain ⟨v44, N44q, e44⟩ := hQ44
  obtain ⟨r1, hr1⟩ : ∃ r, r = bi (own_E i j) := ⟨_, rfl⟩
  rw [← hr1] at v44
  subst v44
  have N44 := Fr.app N43 N44q
  refine goS (n := 121) (Ls' := #[.val (.int p1), .val (.int p2), .val (.ref b1), .val (.int i), .val (.int j), .unset]) (st' := [(.int r1)]) st44 ?_
  refine goS (n := 123) (Ls' := #[.val (.int p1), .val (.int p2), .val (.ref b1), .val (.int i), .val (.int j), .val (.int r1)]) (st' := []) (fun _ kz => XS.istore X44.here hx rfl (hb hby at_121) rfl (l' := #[.val (.int p1), .val (.int p2), .val (.ref b1), .val (.int i), .val (.int j), .val (.int r1)]) rfl kz) ?_
  refine goS (n := 124) (Ls' := #[.val (.int p1), .val (.int p2), .val (.ref b1), .val (.int i), .val (.int j), .val (.int r1)]) (st' := [(.ref b1)]) (fun _ kz => XS.aloadN X44.here hx rfl (hb hby at_123) rfl rfl kz) ?_
  refine goS (n := 125) (Ls' := #[.val (.int p1), .val (.int p2), .val (.ref b1), .val (.int i), .val (.int j), .val (.int r1)]) (st' := [(.int i), (.ref b1)]) (fun _ kz => XS.iloadN X44.here hx rfl (hb hby at_124) rfl kz) ?_
  have vv45 := V_b1
  obtain ⟨cl45, Ar45, q45, S45, Nn45, H45, G45⟩ := vv45
  have hin45 : ¬ (i < 0 ∨ cl45.slots.size ≤ (i).toNatClampNeg) := inb_of S45 ⟨hnegi, hlti⟩
  have hat45 : cl45.slots[(i).toNatClampNeg]? = some (.ref (W n)) := Has.at H45 hin45 (by rw [hki]; exact own_at W n hn)
  refine goS (n := 126) (Ls' := #[.val (.int p1), .val (.int p2), .val (.ref b1), .val (.int i), .val (.int j), .val (.int r1)]) (st' := [(.ref (W n))]) (fun tz kz => X44.aaload hx (j := i) (v := (.ref (W n))) (by rw [e44]; exact Ar45.1) (State.isArrayOf_alike hZ.alike Ar45.2.1) rfl Ar45.2.2 hin45 hat45 (g := (mkF m 125 #[.val (.int p1), .val (.int p2), .val (.ref b1), .val (.int i), .val (.int j), .val (.int r1)] [(.int i), (.ref b1)])) rfl rfl (hb hby at_125) tz kz) ?_
  refine goS (n := 127) (Ls' := #[.val (.int p1), .val (.int p2), .val (.ref b1), .val (.int i), .val (.int j), .val (.int r1)]) (st' := [(.ref b1), (.ref (W n))]) (fun _ kz => XS.aloadN X44.here hx rfl (hb hby at_126) rfl rfl kz) ?_
  refine goS (n := 129) (Ls' := #[.val (.int p1), .val (.int p2), .val (.ref b1), .val (.int i), .val (.int j), .val (.int r1)]) (st' := [(.int j), (.ref b1), (.ref (W n))]) (fun _ kz => XS.iload X44.here hx rfl (hb hby at_127) rfl kz) ?_
  have vv46 := V_b1
  obtain ⟨cl46, Ar46, q46, S46, Nn46, H46, G46⟩ := vv46
  have hin46 : ¬ (j < 0 ∨ cl46.slots.size ≤ (j).toNatClampNeg) := inb_of S46 ⟨hnegj, hltj⟩
  have hat46 : cl46.slots[(j).toNatClampNeg]? = some (.ref (W k)) := Has.at H46 hin46 (by rw [hkj]; exact own_at W k hk)
  refine goS (n := 130) (Ls' := #[.val (.int p1), .val (.int p2), .val (.ref b1), .val (.int i), .val (.int j), .val (.int r1)]) (st' := [(.ref (W k)), (.ref (W n))]) (fun tz kz => X44.aaload hx (j := j) (v := (.ref (W k))) (by rw [e44]; exact Ar46.1) (State.isArrayOf_alike hZ.alike Ar46.2.1) rfl Ar46.2.2 hin46 hat46 (g := (mkF m 129 #[.val (.int p1), .val (.int p2), .val (.ref b1), .val (.int i), .val (.int j), .val (.int r1)] [(.int j), (.ref b1), (.ref (W n))])) rfl rfl (hb hby at_129) tz kz) ?_
  obtain ⟨cq47, kq47, q47a, q47b, q47c⟩ := isOf hZ e44 ((EX n hn).ext O43.2)
  obtain ⟨_, _, ⟨T47, L47, k47, n47⟩, -, X47, ⟨Lc47, hQ47, l47, y47, z47⟩, st47⟩ := X44.virtualBack hx (y := (⟨"com/example/claimgate/claimgate/Operation", "implies", "(Lcom/example/claimgate/claimgate/Operation;)Z"⟩ : MethodName)) (z := (⟨"com/example/claimgate/claimgate/Operation", "implies", "(Lcom/example/claimgate/claimgate/Operation;)Z"⟩ : MethodName)) hown (mvT hZ (hw _ (List.mem_of_getElem? (i := 37) rfl))) (mvT hZ (hw _ (List.mem_of_getElem? (i := 38) rfl))) (notFace_of_selects (args := #[]) (mvT hZ (hw _ (List.mem_of_getElem? (i := 40) rfl)))) (mvT hZ (hw _ (List.mem_of_getElem? (i := 40) rfl))) (mvT hZ (hw _ (List.mem_of_getElem? (i := 39) rfl))) (by decide) (backOf (W := 0) (rm_imp l Z a0 hw [] (W n) (W k) j W h43 n0 O43 S_READ S_WRITE S_DELETE S_ALTER S_ALTER_CONFIGS S_ALL ORk (EX k hk)) hZ (hw _ (List.mem_of_getElem? (i := 41) rfl)) (hw _ (List.mem_of_getElem? (i := 3) rfl)) (by decide) (by decide)) q47a q47c (g := (mkF m 130 #[.val (.int p1), .val (.int p2), .val (.ref b1), .val (.int i), .val (.int j), .val (.int r1)] [(.ref (W k)), (.ref (W n))])) rfl (by rw [hml]; rfl) (Steps.refl _) (argsL := [(.ref (W k))]) (rest := []) (lenOf pd_2 rfl) rfl (by show 2 * 0 + _ ≤ _; exact Nat.le_of_eq rfl) (hb hby at_130) (fun _ _ => ⟨rfl, e44, (Nat.le_of_ble_eq_true rfl), (Nat.le_of_ble_eq_true rfl)⟩)
  dsimp only [Pt.U, Pt.locs, Pt.cells, Pt.slots] at X47 l47 y47 z47 st47 hQ47
  subst l47 y47 z47
  obtain ⟨v47, N47q, e47⟩ := hQ47
  obtain ⟨r2, hr2⟩ : ∃ r, r = bi (own_I W (W n) (W k) j) := ⟨_, rfl⟩
  rw [← hr2] at v47
  subst v47
  have heq : r2 = r1 := by rw [hr1, hr2]; unfold bi; simp only [own_same W INJ n k hn hk i j hti htj]
  have N47 := Fr.app N44 N47q
  refine goT (n := 133) (Ls' := #[.val (.int p1), .val (.int p2), .val (.ref b1), .val (.int i), .val (.int j), .val (.int r1)]) (st' := [(.int r2)]) st47 ?_
  refine goS (n := 135) (Ls' := #[.val (.int p1), .val (.int p2), .val (.ref b1), .val (.int i), .val (.int j), .val (.int r1)]) (st' := [(.int r1), (.int r2)]) (fun _ kz => XS.iload X47.here hx rfl (hb hby at_133) rfl kz) ?_
  refine goS (n := 138) (Ls' := #[.val (.int p1), .val (.int p2), .val (.ref b1), .val (.int i), .val (.int j), .val (.int r1)]) (st' := []) (fun _ kz => XS.icmpNo X47.here hx rfl (hb hby at_135) rfl (teq heq).2 kz) ?_
  refine goS (n := 139) (Ls' := #[.val (.int p1), .val (.int p2), .val (.ref b1), .val (.int i), .val (.int j), .val (.int r1)]) (st' := [(.int (1 : Int32))]) (fun _ kz => XS.iconst X47.here hx rfl (hb hby at_138) kz) ?_
  refine goS (n := 143) (Ls' := #[.val (.int p1), .val (.int p2), .val (.ref b1), .val (.int i), .val (.int j), .val (.int r1)]) (st' := [(.int (1 : Int32))]) (fun _ kz => XS.goto X47.here hx rfl (pc0 := 139) (pc' := 143) rfl (hb hby at_139) (by decide) (by decide) kz) ?_
  exact goRetZ X47 hx hlk Bd.returns (Or.inr rfl) (hb hby at_143) (by decide) (by decide) (by rw [e47]; exact ⟨rfl, N47⟩)
set_option maxRecDepth 65536 in
set_option maxHeartbeats 40000000 in
theorem comes_1 {Post : Tables → Env → Array Value → State → Outcome → State → Prop} (hpost : ∀ tb e args s v u, (limb_1_1.after args s (.returned v) u = true ∧ limb_1_2.after args s (.returned v) u = true ∧ True) → FrameEnd s (.returned v) u (Jvm.fieldLocs frame_1_writes args s ++ Jvm.arrayLocs frame_1_arrays args s ++ Jvm.staticLocs frame_1_statics s) 16 128 → Post tb e args s (.returned v) u) :
    ArmFor flags0 classFile x code maxLocals ret World_1 tables_1 room_1 Calls_1 rest_1 Pre_1 Post := by
  intro l hfl _ _ p e ha hc hk s m args below hf hA hF happ hP
  obtain ⟨hcalls, hrest, hpre⟩ := hP
  obtain ⟨-, -, -, hnamed, -, -, -, hat⟩ := (Spec.applies_iff hf).mp happ
  obtain ⟨hg, hn⟩ := and_e (Cond.before_iff.mp (show (Jvm.Cond.and given_1 narrow_1).before args s = true from hpre))
  obtain ⟨g1, g2⟩ := and_e hg
  obtain ⟨g3, g4⟩ := and_e g2
  obtain ⟨w0, w1, rfl⟩ : ∃ w0 w1 : Value, args = #[w0, w1] := by
    have hs : args.size = 2 := by simpa [Cond.value, given_1] using g1
    obtain ⟨L⟩ := args
    match L, hs with
    | [w0, w1], _ => exact ⟨w0, w1, rfl⟩
  have hw := fun d (hd : d ∈ tables_1) => atoms_spec (ws := Jvm.Cond.code x code maxLocals ret :: tables_1) hat d (List.mem_cons_of_mem _ hd)
  have hfit : Fit s := fun {y c} hc i hi => by
    obtain ⟨ha, rfl⟩ := Array.getElem?_eq_some_iff.mp hc
    have q := List.all_eq_true.mp ((Array.all_eq_true_iff_forall_mem.mp hF) _ (Array.getElem_mem ha)) i (List.mem_range.mpr hi)
    simpa [Array.getElem?_eq_getElem hi] using q
  obtain ⟨i0, ei0⟩ := is_v g3
  obtain rfl : w0 = (.int i0) := Option.some.inj ei0
  obtain ⟨i1, ei1⟩ := is_v g4
  obtain rfl : w1 = (.int i1) := Option.some.inj ei1
  obtain ⟨nr1, nr2⟩ := and_e hn
  obtain ⟨nr3, nr4⟩ := and_e nr2
  obtain ⟨nr5, nr6⟩ := and_e nr4
  obtain ⟨nr7, nr8⟩ := and_e nr6
  obtain ⟨nr9, nr10⟩ := and_e nr8
  obtain ⟨nr11, nr12⟩ := and_e nr10
  obtain ⟨nr13, nr14⟩ := and_e nr12
  obtain ⟨nr15, nr16⟩ := and_e nr14
  obtain ⟨nr17, nr18⟩ := and_e nr16
  obtain ⟨nr19, nr20⟩ := and_e nr18
  obtain ⟨nr21, nr22⟩ := and_e nr20
  obtain ⟨nr23, nr24⟩ := and_e nr22
  obtain ⟨nr25, nr26⟩ := and_e nr24
  obtain ⟨nr27, nr28⟩ := and_e nr26
  obtain ⟨nr29, nr30⟩ := and_e nr28
  obtain ⟨nr31, nr32⟩ := and_e nr30
  obtain ⟨nr33, nr34⟩ := and_e nr32
  obtain ⟨nr35, nr36⟩ := and_e nr34
  obtain ⟨nr37, nr38⟩ := and_e nr36
  obtain ⟨nr39, nr40⟩ := and_e nr38
  obtain ⟨nr41, nr42⟩ := and_e nr40
  obtain ⟨nr43, nr44⟩ := and_e nr42
  obtain ⟨nr45, nr46⟩ := and_e nr44
  obtain ⟨nr47, nr48⟩ := and_e nr46
  obtain ⟨nr49, nr50⟩ := and_e nr48
  obtain ⟨nr51, nr52⟩ := and_e nr50
  obtain ⟨nr53, nr54⟩ := and_e nr52
  obtain ⟨w_READ, ev_READ⟩ := exa_v nr1
  have EX_READ : Exa s s.heap w_READ "com/example/claimgate/claimgate/Operation" := Exa.start ev_READ nr1
  have ST_READ : Sta s s.heap "com/example/claimgate/claimgate/Operation" "READ" "Lcom/example/claimgate/claimgate/Operation;" (.ref w_READ) := Sta.start ev_READ (Or.inr ⟨(hw _ (List.mem_of_getElem? (i := 3) rfl)), (hw _ (List.mem_of_getElem? (i := 4) rfl))⟩)
  obtain ⟨w_WRITE, ev_WRITE⟩ := exa_v nr3
  have EX_WRITE : Exa s s.heap w_WRITE "com/example/claimgate/claimgate/Operation" := Exa.start ev_WRITE nr3
  have ST_WRITE : Sta s s.heap "com/example/claimgate/claimgate/Operation" "WRITE" "Lcom/example/claimgate/claimgate/Operation;" (.ref w_WRITE) := Sta.start ev_WRITE (Or.inr ⟨(hw _ (List.mem_of_getElem? (i := 3) rfl)), (hw _ (List.mem_of_getElem? (i := 7) rfl))⟩)
  obtain ⟨w_CREATE, ev_CREATE⟩ := exa_v nr5
  have EX_CREATE : Exa s s.heap w_CREATE "com/example/claimgate/claimgate/Operation" := Exa.start ev_CREATE nr5
  have ST_CREATE : Sta s s.heap "com/example/claimgate/claimgate/Operation" "CREATE" "Lcom/example/claimgate/claimgate/Operation;" (.ref w_CREATE) := Sta.start ev_CREATE (Or.inr ⟨(hw _ (List.mem_of_getElem? (i := 3) rfl)), (hw _ (List.mem_of_getElem? (i := 9) rfl))⟩)
  obtain ⟨w_DELETE, ev_DELETE⟩ := exa_v nr7
  have EX_DELETE : Exa s s.heap w_DELETE "com/example/claimgate/claimgate/Operation" := Exa.start ev_DELETE nr7
  have ST_DELETE : Sta s s.heap "com/example/claimgate/claimgate/Operation" "DELETE" "Lcom/example/claimgate/claimgate/Operation;" (.ref w_DELETE) := Sta.start ev_DELETE (Or.inr ⟨(hw _ (List.mem_of_getElem? (i := 3) rfl)), (hw _ (List.mem_of_getElem? (i := 11) rfl))⟩)
  obtain ⟨w_ALTER, ev_ALTER⟩ := exa_v nr9
  have EX_ALTER : Exa s s.heap w_ALTER "com/example/claimgate/claimgate/Operation" := Exa.start ev_ALTER nr9
  have ST_ALTER : Sta s s.heap "com/example/claimgate/claimgate/Operation" "ALTER" "Lcom/example/claimgate/claimgate/Operation;" (.ref w_ALTER) := Sta.start ev_ALTER (Or.inr ⟨(hw _ (List.mem_of_getElem? (i := 3) rfl)), (hw _ (List.mem_of_getElem? (i := 13) rfl))⟩)
  obtain ⟨w_DESCRIBE, ev_DESCRIBE⟩ := exa_v nr11
  have EX_DESCRIBE : Exa s s.heap w_DESCRIBE "com/example/claimgate/claimgate/Operation" := Exa.start ev_DESCRIBE nr11
  have ST_DESCRIBE : Sta s s.heap "com/example/claimgate/claimgate/Operation" "DESCRIBE" "Lcom/example/claimgate/claimgate/Operation;" (.ref w_DESCRIBE) := Sta.start ev_DESCRIBE (Or.inr ⟨(hw _ (List.mem_of_getElem? (i := 3) rfl)), (hw _ (List.mem_of_getElem? (i := 15) rfl))⟩)
  obtain ⟨w_CLUSTER_ACTION, ev_CLUSTER_ACTION⟩ := exa_v nr13
  have EX_CLUSTER_ACTION : Exa s s.heap w_CLUSTER_ACTION "com/example/claimgate/claimgate/Operation" := Exa.start ev_CLUSTER_ACTION nr13
  have ST_CLUSTER_ACTION : Sta s s.heap "com/example/claimgate/claimgate/Operation" "CLUSTER_ACTION" "Lcom/example/claimgate/claimgate/Operation;" (.ref w_CLUSTER_ACTION) := Sta.start ev_CLUSTER_ACTION (Or.inr ⟨(hw _ (List.mem_of_getElem? (i := 3) rfl)), (hw _ (List.mem_of_getElem? (i := 17) rfl))⟩)
  obtain ⟨w_DESCRIBE_CONFIGS, ev_DESCRIBE_CONFIGS⟩ := exa_v nr15
  have EX_DESCRIBE_CONFIGS : Exa s s.heap w_DESCRIBE_CONFIGS "com/example/claimgate/claimgate/Operation" := Exa.start ev_DESCRIBE_CONFIGS nr15
  have ST_DESCRIBE_CONFIGS : Sta s s.heap "com/example/claimgate/claimgate/Operation" "DESCRIBE_CONFIGS" "Lcom/example/claimgate/claimgate/Operation;" (.ref w_DESCRIBE_CONFIGS) := Sta.start ev_DESCRIBE_CONFIGS (Or.inr ⟨(hw _ (List.mem_of_getElem? (i := 3) rfl)), (hw _ (List.mem_of_getElem? (i := 19) rfl))⟩)
  obtain ⟨w_ALTER_CONFIGS, ev_ALTER_CONFIGS⟩ := exa_v nr17
  have EX_ALTER_CONFIGS : Exa s s.heap w_ALTER_CONFIGS "com/example/claimgate/claimgate/Operation" := Exa.start ev_ALTER_CONFIGS nr17
  have ST_ALTER_CONFIGS : Sta s s.heap "com/example/claimgate/claimgate/Operation" "ALTER_CONFIGS" "Lcom/example/claimgate/claimgate/Operation;" (.ref w_ALTER_CONFIGS) := Sta.start ev_ALTER_CONFIGS (Or.inr ⟨(hw _ (List.mem_of_getElem? (i := 3) rfl)), (hw _ (List.mem_of_getElem? (i := 21) rfl))⟩)
  obtain ⟨w_IDEMPOTENT_WRITE, ev_IDEMPOTENT_WRITE⟩ := exa_v nr19
  have EX_IDEMPOTENT_WRITE : Exa s s.heap w_IDEMPOTENT_WRITE "com/example/claimgate/claimgate/Operation" := Exa.start ev_IDEMPOTENT_WRITE nr19
  have ST_IDEMPOTENT_WRITE : Sta s s.heap "com/example/claimgate/claimgate/Operation" "IDEMPOTENT_WRITE" "Lcom/example/claimgate/claimgate/Operation;" (.ref w_IDEMPOTENT_WRITE) := Sta.start ev_IDEMPOTENT_WRITE (Or.inr ⟨(hw _ (List.mem_of_getElem? (i := 3) rfl)), (hw _ (List.mem_of_getElem? (i := 23) rfl))⟩)
  obtain ⟨w_CREATE_TOKENS, ev_CREATE_TOKENS⟩ := exa_v nr21
  have EX_CREATE_TOKENS : Exa s s.heap w_CREATE_TOKENS "com/example/claimgate/claimgate/Operation" := Exa.start ev_CREATE_TOKENS nr21
  have ST_CREATE_TOKENS : Sta s s.heap "com/example/claimgate/claimgate/Operation" "CREATE_TOKENS" "Lcom/example/claimgate/claimgate/Operation;" (.ref w_CREATE_TOKENS) := Sta.start ev_CREATE_TOKENS (Or.inr ⟨(hw _ (List.mem_of_getElem? (i := 3) rfl)), (hw _ (List.mem_of_getElem? (i := 25) rfl))⟩)
  obtain ⟨w_DESCRIBE_TOKENS, ev_DESCRIBE_TOKENS⟩ := exa_v nr23
  have EX_DESCRIBE_TOKENS : Exa s s.heap w_DESCRIBE_TOKENS "com/example/claimgate/claimgate/Operation" := Exa.start ev_DESCRIBE_TOKENS nr23
  have ST_DESCRIBE_TOKENS : Sta s s.heap "com/example/claimgate/claimgate/Operation" "DESCRIBE_TOKENS" "Lcom/example/claimgate/claimgate/Operation;" (.ref w_DESCRIBE_TOKENS) := Sta.start ev_DESCRIBE_TOKENS (Or.inr ⟨(hw _ (List.mem_of_getElem? (i := 3) rfl)), (hw _ (List.mem_of_getElem? (i := 27) rfl))⟩)
  obtain ⟨w_TWO_PHASE_COMMIT, ev_TWO_PHASE_COMMIT⟩ := exa_v nr25
  have EX_TWO_PHASE_COMMIT : Exa s s.heap w_TWO_PHASE_COMMIT "com/example/claimgate/claimgate/Operation" := Exa.start ev_TWO_PHASE_COMMIT nr25
  have ST_TWO_PHASE_COMMIT : Sta s s.heap "com/example/claimgate/claimgate/Operation" "TWO_PHASE_COMMIT" "Lcom/example/claimgate/claimgate/Operation;" (.ref w_TWO_PHASE_COMMIT) := Sta.start ev_TWO_PHASE_COMMIT (Or.inr ⟨(hw _ (List.mem_of_getElem? (i := 3) rfl)), (hw _ (List.mem_of_getElem? (i := 29) rfl))⟩)
  obtain ⟨w_ALL, ev_ALL⟩ := exa_v nr27
  have EX_ALL : Exa s s.heap w_ALL "com/example/claimgate/claimgate/Operation" := Exa.start ev_ALL nr27
  have ST_ALL : Sta s s.heap "com/example/claimgate/claimgate/Operation" "ALL" "Lcom/example/claimgate/claimgate/Operation;" (.ref w_ALL) := Sta.start ev_ALL (Or.inr ⟨(hw _ (List.mem_of_getElem? (i := 3) rfl)), (hw _ (List.mem_of_getElem? (i := 31) rfl))⟩)
  have FL_READ_ordinal : Fld s s.heap w_READ "java/lang/Enum" "ordinal" "I" (.int (0 : Int32)) := fldStart ev_READ nr29
  have FL_ALL_ordinal : Fld s s.heap w_ALL "java/lang/Enum" "ordinal" "I" (.int (13 : Int32)) := fldStart ev_ALL nr31
  have FL_DELETE_ordinal : Fld s s.heap w_DELETE "java/lang/Enum" "ordinal" "I" (.int (3 : Int32)) := fldStart ev_DELETE nr33
  have FL_WRITE_ordinal : Fld s s.heap w_WRITE "java/lang/Enum" "ordinal" "I" (.int (1 : Int32)) := fldStart ev_WRITE nr35
  have FL_CREATE_TOKENS_ordinal : Fld s s.heap w_CREATE_TOKENS "java/lang/Enum" "ordinal" "I" (.int (10 : Int32)) := fldStart ev_CREATE_TOKENS nr37
  have FL_DESCRIBE_ordinal : Fld s s.heap w_DESCRIBE "java/lang/Enum" "ordinal" "I" (.int (5 : Int32)) := fldStart ev_DESCRIBE nr39
  have FL_ALTER_ordinal : Fld s s.heap w_ALTER "java/lang/Enum" "ordinal" "I" (.int (4 : Int32)) := fldStart ev_ALTER nr41
  have FL_ALTER_CONFIGS_ordinal : Fld s s.heap w_ALTER_CONFIGS "java/lang/Enum" "ordinal" "I" (.int (8 : Int32)) := fldStart ev_ALTER_CONFIGS nr43
  have FL_CREATE_ordinal : Fld s s.heap w_CREATE "java/lang/Enum" "ordinal" "I" (.int (2 : Int32)) := fldStart ev_CREATE nr45
  have FL_DESCRIBE_TOKENS_ordinal : Fld s s.heap w_DESCRIBE_TOKENS "java/lang/Enum" "ordinal" "I" (.int (11 : Int32)) := fldStart ev_DESCRIBE_TOKENS nr47
  have FL_CLUSTER_ACTION_ordinal : Fld s s.heap w_CLUSTER_ACTION "java/lang/Enum" "ordinal" "I" (.int (6 : Int32)) := fldStart ev_CLUSTER_ACTION nr49
  have FL_TWO_PHASE_COMMIT_ordinal : Fld s s.heap w_TWO_PHASE_COMMIT "java/lang/Enum" "ordinal" "I" (.int (12 : Int32)) := fldStart ev_TWO_PHASE_COMMIT nr51
  have FL_DESCRIBE_CONFIGS_ordinal : Fld s s.heap w_DESCRIBE_CONFIGS "java/lang/Enum" "ordinal" "I" (.int (7 : Int32)) := fldStart ev_DESCRIBE_CONFIGS nr53
  have FL_IDEMPOTENT_WRITE_ordinal : Fld s s.heap w_IDEMPOTENT_WRITE "java/lang/Enum" "ordinal" "I" (.int (9 : Int32)) := fldStart ev_IDEMPOTENT_WRITE nr54
  let W : Nat → Addr := fun n => [w_READ, w_WRITE, w_CREATE, w_DELETE, w_ALTER, w_DESCRIBE, w_CLUSTER_ACTION, w_DESCRIBE_CONFIGS, w_ALTER_CONFIGS, w_IDEMPOTENT_WRITE, w_CREATE_TOKENS, w_DESCRIBE_TOKENS, w_TWO_PHASE_COMMIT, w_ALL].getD n 0
  have EX : ∀ n, n < 14 → Exa s s.heap (W n) "com/example/claimgate/claimgate/Operation" := by
    intro n hn
    rcases n with _ | n; · exact EX_READ
    rcases n with _ | n; · exact EX_WRITE
    rcases n with _ | n; · exact EX_CREATE
    rcases n with _ | n; · exact EX_DELETE
    rcases n with _ | n; · exact EX_ALTER
    rcases n with _ | n; · exact EX_DESCRIBE
    rcases n with _ | n; · exact EX_CLUSTER_ACTION
    rcases n with _ | n; · exact EX_DESCRIBE_CONFIGS
    rcases n with _ | n; · exact EX_ALTER_CONFIGS
    rcases n with _ | n; · exact EX_IDEMPOTENT_WRITE
    rcases n with _ | n; · exact EX_CREATE_TOKENS
    rcases n with _ | n; · exact EX_DESCRIBE_TOKENS
    rcases n with _ | n; · exact EX_TWO_PHASE_COMMIT
    rcases n with _ | n; · exact EX_ALL
    omega
  have OR : ∀ n, n < 14 → Fld s s.heap (W n) "java/lang/Enum" "ordinal" "I" (.int (Int32.ofNat n)) := by
    intro n hn
    rcases n with _ | n; · exact FL_READ_ordinal
    rcases n with _ | n; · exact FL_WRITE_ordinal
    rcases n with _ | n; · exact FL_CREATE_ordinal
    rcases n with _ | n; · exact FL_DELETE_ordinal
    rcases n with _ | n; · exact FL_ALTER_ordinal
    rcases n with _ | n; · exact FL_DESCRIBE_ordinal
    rcases n with _ | n; · exact FL_CLUSTER_ACTION_ordinal
    rcases n with _ | n; · exact FL_DESCRIBE_CONFIGS_ordinal
    rcases n with _ | n; · exact FL_ALTER_CONFIGS_ordinal
    rcases n with _ | n; · exact FL_IDEMPOTENT_WRITE_ordinal
    rcases n with _ | n; · exact FL_CREATE_TOKENS_ordinal
    rcases n with _ | n; · exact FL_DESCRIBE_TOKENS_ordinal
    rcases n with _ | n; · exact FL_TWO_PHASE_COMMIT_ordinal
    rcases n with _ | n; · exact FL_ALL_ordinal
    omega
  have INJ : ∀ i j, i < 14 → j < 14 → W i = W j → i = j := by
    intro i j hi hj q
    refine Decidable.byContradiction fun hne => Fld.ne (OR i hi) (OR j hj) (fun z => ?_) q
    have z1 : (Int32.ofNat i).toInt = (Int32.ofNat j).toInt := by rw [Value.int.inj z]
    rw [Int32.toInt_ofNat_small (by omega), Int32.toInt_ofNat_small (by omega)] at z1
    omega
  obtain ⟨n, o, h1, h2, h3, _, L, rfl, ⟨rfl, N⟩, hq⟩ := rm_law l s _ hw tables_1 i0 i1 W s.heap s.heap.size (Old.start s) ST_READ ST_WRITE ST_CREATE ST_DELETE ST_ALTER ST_DESCRIBE ST_CLUSTER_ACTION ST_DESCRIBE_CONFIGS ST_ALTER_CONFIGS ST_IDEMPOTENT_WRITE ST_CREATE_TOKENS ST_DESCRIBE_TOKENS ST_TWO_PHASE_COMMIT ST_ALL EX OR INJ p e ha hc hk s m _ below hf ((Spec.applies_iff_loose hf).mp happ).1 ⟨rfl, State.Warmed39.refl s, rfl⟩ trivial
  refine ⟨n, _, h1, h2, h3, hpost _ _ _ _ _ _ ⟨Cond.after_iff.mpr rfl, Cond.after_iff.mpr (eq_i res_at (Term.int_eval (1)) rfl), trivial⟩ ⟨hq.1, hq.2.1, (hq.2.2.sift fun y hy => Or.inr (N y hy)).mono (by decide) (by decide)⟩⟩
theorem main_1_1 : Claimed_1_1 := comes_1 fun _ _ _ _ _ _ h hF => ⟨h.1, hF⟩
theorem main_1_2 : Claimed_1_2 := comes_1 fun _ _ _ _ _ _ h hF => ⟨h.2.1, hF⟩
end Jvm.Pilot.@@N@@
namespace Jvm.Pilot.@@N@@
open Jvm Jvm.ClassFile Sem Op Lib Jvm.Free Jvm.Stand Jvm.Pilot.@@N@@.Jvm.D
/-! MADE BY PROGRAM (witnessworld.py) out of the Statement's table words and the real class files: 13 classes; the members and pool entries that the words name. The judged class is class 1, her method 1. -/
namespace start1
open Jvm.ClassFile
def u (s : String) : CpInfo := .utf8 (stringToUtf16 s)
/-- a pool by its gaps: so many unusable entries, then the entry; so many at the end -/
def gap : Nat → List CpInfo → List CpInfo
  | 0, r => r
  | n + 1, r => .unusable :: gap n r
def poolList (es : List (Nat × CpInfo)) (last : Nat) : List CpInfo := es.foldr (fun e r => gap e.1 (e.2 :: r)) (gap last [])
def pool (es : List (Nat × CpInfo)) (last : Nat) : Array CpInfo := ⟨poolList es last⟩
def fileOf (pool : Array CpInfo) (this : Nat) (attrs : Array Attribute := #[]) (ms : Array MethodInfo := #[]) (fl : Nat := 33) (sup : Nat := 0) (ifs : Array Nat := #[]) (fds : Array FieldInfo := #[]) : ClassFile where
  minorVersion := 0
  majorVersion := 65
  constantPool := pool
  accessFlags := fl
  thisClass := this
  superClass := sup
  interfaces := ifs
  fields := fds
  methods := ms
  attributes := attrs
def plain (name : String) (sup : Option ClassId) : Class where
  name := name
  kind := .ordinary
  loader := none
  accessFlags := 33
  super := sup
  interfaces := #[]
  cf := none
  fields := #[]
  methods := #[]
  instanceTypes := #[]
  staticTypes := #[]
  resolved := #[]
  callSites := []
  init := .initialized
  statics := none
  mirror := none

def pool0 : Array CpInfo := pool [(5, u "<init>"), (0, u "()V"), (1, .class_ 10), (1, u "java/lang/Object")] 113

def k0m0 : Method := { name := "<init>", desc := "()V", sig := { parameters := [], returnType := none }, accessFlags := 1, code := none }
/-- java/lang/Object -/
def k0 : Class := { plain "java/lang/Object" none with
  accessFlags := 33
  interfaces := #[]
  cf := some (fileOf pool0 8 #[] #[{ accessFlags := 1, nameIndex := 5, descriptorIndex := 6, attributes := #[] }] 33 0 #[] #[])
  fields := #[]
  methods := #[k0m0]
  instanceTypes := #[]
  staticTypes := #[]
  resolved := Array.replicate 124 none
  statics := none }

def pool1 : Array CpInfo := pool [(2, .class_ 4), (1, u "java/lang/Object"), (0, u "<init>"), (0, u "()V"), (0, .class_ 8), (0, u "com/example/claimgate/claimgate/Operation"), (0, .fieldref 7 10), (0, .nameAndType 11 12), (0, u "READ"), (0, u "Lcom/example/claimgate/claimgate/Operation;"), (0, .fieldref 7 14), (0, .nameAndType 15 12), (0, u "WRITE"), (0, .fieldref 7 17), (0, .nameAndType 18 12), (0, u "CREATE"), (0, .fieldref 7 20), (0, .nameAndType 21 12), (0, u "DELETE"), (0, .fieldref 7 23), (0, .nameAndType 24 12), (0, u "ALTER"), (0, .fieldref 7 26), (0, .nameAndType 27 12), (0, u "DESCRIBE"), (0, .fieldref 7 29), (0, .nameAndType 30 12), (0, u "CLUSTER_ACTION"), (0, .fieldref 7 32), (0, .nameAndType 33 12), (0, u "DESCRIBE_CONFIGS"), (0, .fieldref 7 35), (0, .nameAndType 36 12), (0, u "ALTER_CONFIGS"), (0, .fieldref 7 38), (0, .nameAndType 39 12), (0, u "IDEMPOTENT_WRITE"), (0, .fieldref 7 41), (0, .nameAndType 42 12), (0, u "CREATE_TOKENS"), (0, .fieldref 7 44), (0, .nameAndType 45 12), (0, u "DESCRIBE_TOKENS"), (0, .fieldref 7 47), (0, .nameAndType 48 12), (0, u "TWO_PHASE_COMMIT"), (0, .fieldref 7 50), (0, .nameAndType 51 12), (0, u "ALL"), (0, .integer 2147483647), (0, .methodref 54 55), (0, .class_ 56), (0, .nameAndType 57 58), (0, u "com/example/claimgate/claimgate/OperationImpliesPinLaw"), (0, u "expected"), (0, u "(II)Z"), (0, .methodref 7 60), (0, .nameAndType 61 62), (0, u "implies"), (0, u "(Lcom/example/claimgate/claimgate/Operation;)Z"), (2, u "law")] 5

def k1m0 : Method := { name := "<init>", desc := "()V", sig := { parameters := [], returnType := none }, accessFlags := 2, code := none }
def k1c1 : Code := { maxStack := 4, maxLocals := 6, code := code, exceptionTable := #[], attributes := #[] }
def k1m1 : Method := { name := "law", desc := "(II)Z", sig := { parameters := [.int, .int], returnType := some .boolean }, accessFlags := 9, code := some k1c1 }
def k1c2 : Code := { maxStack := 2, maxLocals := 2, code := method_3_code, exceptionTable := #[], attributes := #[] }
def k1m2 : Method := { name := "expected", desc := "(II)Z", sig := { parameters := [.int, .int], returnType := some .boolean }, accessFlags := 10, code := some k1c2 }
/-- com/example/claimgate/claimgate/OperationImpliesPinLaw -/
def k1 : Class := { plain "com/example/claimgate/claimgate/OperationImpliesPinLaw" (some 0) with
  accessFlags := 49
  interfaces := #[]
  cf := some (fileOf pool1 54 #[] #[{ accessFlags := 2, nameIndex := 5, descriptorIndex := 6, attributes := #[] }, { accessFlags := 9, nameIndex := 65, descriptorIndex := 58, attributes := #[] }, { accessFlags := 10, nameIndex := 57, descriptorIndex := 58, attributes := #[] }] 49 2 #[] #[])
  fields := #[]
  methods := #[k1m0, k1m1, k1m2]
  instanceTypes := #[]
  staticTypes := #[]
  resolved := Array.replicate 71 none
  statics := none }

def pool2 : Array CpInfo := pool [(1, .class_ 2), (0, u "java/lang/constant/Constable"), (0, .class_ 4), (0, u "java/lang/Object")] 6

/-- java/lang/constant/Constable -/
def k2 : Class := { plain "java/lang/constant/Constable" (some 0) with
  accessFlags := 1537
  interfaces := #[]
  cf := some (fileOf pool2 1 #[] #[] 1537 3 #[] #[])
  fields := #[]
  methods := #[]
  instanceTypes := #[]
  staticTypes := #[]
  resolved := Array.replicate 11 none
  statics := none }

def pool3 : Array CpInfo := pool [(1, .class_ 2), (0, u "java/lang/Comparable"), (0, .class_ 4), (0, u "java/lang/Object")] 7

/-- java/lang/Comparable -/
def k3 : Class := { plain "java/lang/Comparable" (some 0) with
  accessFlags := 1537
  interfaces := #[]
  cf := some (fileOf pool3 1 #[] #[] 1537 3 #[] #[])
  fields := #[]
  methods := #[]
  instanceTypes := #[]
  staticTypes := #[]
  resolved := Array.replicate 12 none
  statics := none }

def pool4 : Array CpInfo := pool [(1, .class_ 2), (0, u "java/io/Serializable"), (0, .class_ 4), (0, u "java/lang/Object")] 2

/-- java/io/Serializable -/
def k4 : Class := { plain "java/io/Serializable" (some 0) with
  accessFlags := 1537
  interfaces := #[]
  cf := some (fileOf pool4 1 #[] #[] 1537 3 #[] #[])
  fields := #[]
  methods := #[]
  instanceTypes := #[]
  staticTypes := #[]
  resolved := Array.replicate 7 none
  statics := none }

def pool5 : Array CpInfo := pool [(2, .class_ 4), (1, u "java/lang/Enum"), (0, u "name"), (0, u "Ljava/lang/String;"), (0, .fieldref 2 8), (0, .nameAndType 9 10), (0, u "ordinal"), (0, u "I"), (1, .class_ 14), (1, u "java/lang/Object"), (4, u "hash"), (86, .class_ 108), (1, u "java/lang/Enum$EnumDesc"), (2, .class_ 112), (0, u "java/lang/constant/Constable"), (0, .class_ 114), (0, u "java/lang/Comparable"), (0, .class_ 116), (0, u "java/io/Serializable"), (9, u "()I")] 77

def k5c0 : Code := { maxStack := 1, maxLocals := 1, code := jdk_37_method_2_code, exceptionTable := #[], attributes := #[] }
def k5m0 : Method := { name := "ordinal", desc := "()I", sig := { parameters := [], returnType := some .int }, accessFlags := 17, code := some k5c0 }
/-- java/lang/Enum -/
def k5 : Class := { plain "java/lang/Enum" (some 0) with
  accessFlags := 1057
  interfaces := #[2, 3, 4]
  cf := some (fileOf pool5 2 #[.nestMembers #[106]] #[{ accessFlags := 17, nameIndex := 9, descriptorIndex := 126, attributes := #[] }] 1057 12 #[111, 113, 115] #[{ accessFlags := 18, nameIndex := 5, descriptorIndex := 6, attributes := #[] }, { accessFlags := 18, nameIndex := 9, descriptorIndex := 10, attributes := #[] }, { accessFlags := 2, nameIndex := 19, descriptorIndex := 10, attributes := #[] }])
  fields := #[{ name := "name", type := (.object "java/lang/String"), accessFlags := 18, slot := 0, constantValue := 0 }, { name := "ordinal", type := .int, accessFlags := 18, slot := 1, constantValue := 0 }, { name := "hash", type := .int, accessFlags := 2, slot := 2, constantValue := 0 }]
  methods := #[k5m0]
  instanceTypes := #[(.object "java/lang/String"), .int, .int]
  staticTypes := #[]
  resolved := Array.replicate 204 none
  statics := none }

def pool6 : Array CpInfo := pool [(1, .class_ 2), (0, u "com/example/claimgate/claimgate/Operation"), (0, .fieldref 1 4), (0, .nameAndType 5 6), (0, u "READ"), (0, u "Lcom/example/claimgate/claimgate/Operation;"), (0, .fieldref 1 8), (0, .nameAndType 9 6), (0, u "WRITE"), (2, u "CREATE"), (0, .fieldref 1 14), (0, .nameAndType 15 6), (0, u "DELETE"), (0, .fieldref 1 17), (0, .nameAndType 18 6), (0, u "ALTER"), (2, u "DESCRIBE"), (2, u "CLUSTER_ACTION"), (2, u "DESCRIBE_CONFIGS"), (0, .fieldref 1 29), (0, .nameAndType 30 6), (0, u "ALTER_CONFIGS"), (2, u "IDEMPOTENT_WRITE"), (2, u "CREATE_TOKENS"), (2, u "DESCRIBE_TOKENS"), (2, u "TWO_PHASE_COMMIT"), (0, .fieldref 1 44), (0, .nameAndType 45 6), (0, u "ALL"), (2, u "$VALUES"), (0, u "[Lcom/example/claimgate/claimgate/Operation;"), (6, .class_ 58), (1, u "java/lang/Enum"), (8, u "BY_NAME"), (0, u "Ljava/util/Map;"), (18, .methodref 1 88), (0, .nameAndType 89 90), (0, u "ordinal"), (0, u "()I"), (52, u "implies"), (0, u "(Lcom/example/claimgate/claimgate/Operation;)Z")] 6

def k6c0 : Code := { maxStack := 2, maxLocals := 2, code := prog_20_method_5_code, exceptionTable := #[], attributes := #[] }
def k6m0 : Method := { name := "implies", desc := "(Lcom/example/claimgate/claimgate/Operation;)Z", sig := { parameters := [(.object "com/example/claimgate/claimgate/Operation")], returnType := some .boolean }, accessFlags := 0, code := some k6c0 }
/-- com/example/claimgate/claimgate/Operation -/
def k6 : Class := { plain "com/example/claimgate/claimgate/Operation" (some 5) with
  accessFlags := 16432
  interfaces := #[]
  cf := some (fileOf pool6 1 #[] #[{ accessFlags := 0, nameIndex := 143, descriptorIndex := 144, attributes := #[] }] 16432 56 #[] #[{ accessFlags := 16409, nameIndex := 5, descriptorIndex := 6, attributes := #[] }, { accessFlags := 16409, nameIndex := 9, descriptorIndex := 6, attributes := #[] }, { accessFlags := 16409, nameIndex := 12, descriptorIndex := 6, attributes := #[] }, { accessFlags := 16409, nameIndex := 15, descriptorIndex := 6, attributes := #[] }, { accessFlags := 16409, nameIndex := 18, descriptorIndex := 6, attributes := #[] }, { accessFlags := 16409, nameIndex := 21, descriptorIndex := 6, attributes := #[] }, { accessFlags := 16409, nameIndex := 24, descriptorIndex := 6, attributes := #[] }, { accessFlags := 16409, nameIndex := 27, descriptorIndex := 6, attributes := #[] }, { accessFlags := 16409, nameIndex := 30, descriptorIndex := 6, attributes := #[] }, { accessFlags := 16409, nameIndex := 33, descriptorIndex := 6, attributes := #[] }, { accessFlags := 16409, nameIndex := 36, descriptorIndex := 6, attributes := #[] }, { accessFlags := 16409, nameIndex := 39, descriptorIndex := 6, attributes := #[] }, { accessFlags := 16409, nameIndex := 42, descriptorIndex := 6, attributes := #[] }, { accessFlags := 16409, nameIndex := 45, descriptorIndex := 6, attributes := #[] }, { accessFlags := 26, nameIndex := 67, descriptorIndex := 68, attributes := #[] }, { accessFlags := 4122, nameIndex := 48, descriptorIndex := 49, attributes := #[] }])
  fields := #[{ name := "READ", type := (.object "com/example/claimgate/claimgate/Operation"), accessFlags := 16409, slot := 0, constantValue := 0 }, { name := "WRITE", type := (.object "com/example/claimgate/claimgate/Operation"), accessFlags := 16409, slot := 1, constantValue := 0 }, { name := "CREATE", type := (.object "com/example/claimgate/claimgate/Operation"), accessFlags := 16409, slot := 2, constantValue := 0 }, { name := "DELETE", type := (.object "com/example/claimgate/claimgate/Operation"), accessFlags := 16409, slot := 3, constantValue := 0 }, { name := "ALTER", type := (.object "com/example/claimgate/claimgate/Operation"), accessFlags := 16409, slot := 4, constantValue := 0 }, { name := "DESCRIBE", type := (.object "com/example/claimgate/claimgate/Operation"), accessFlags := 16409, slot := 5, constantValue := 0 }, { name := "CLUSTER_ACTION", type := (.object "com/example/claimgate/claimgate/Operation"), accessFlags := 16409, slot := 6, constantValue := 0 }, { name := "DESCRIBE_CONFIGS", type := (.object "com/example/claimgate/claimgate/Operation"), accessFlags := 16409, slot := 7, constantValue := 0 }, { name := "ALTER_CONFIGS", type := (.object "com/example/claimgate/claimgate/Operation"), accessFlags := 16409, slot := 8, constantValue := 0 }, { name := "IDEMPOTENT_WRITE", type := (.object "com/example/claimgate/claimgate/Operation"), accessFlags := 16409, slot := 9, constantValue := 0 }, { name := "CREATE_TOKENS", type := (.object "com/example/claimgate/claimgate/Operation"), accessFlags := 16409, slot := 10, constantValue := 0 }, { name := "DESCRIBE_TOKENS", type := (.object "com/example/claimgate/claimgate/Operation"), accessFlags := 16409, slot := 11, constantValue := 0 }, { name := "TWO_PHASE_COMMIT", type := (.object "com/example/claimgate/claimgate/Operation"), accessFlags := 16409, slot := 12, constantValue := 0 }, { name := "ALL", type := (.object "com/example/claimgate/claimgate/Operation"), accessFlags := 16409, slot := 13, constantValue := 0 }, { name := "BY_NAME", type := (.object "java/util/Map"), accessFlags := 26, slot := 14, constantValue := 0 }, { name := "$VALUES", type := (.array (.object "com/example/claimgate/claimgate/Operation")), accessFlags := 4122, slot := 15, constantValue := 0 }]
  methods := #[k6m0]
  instanceTypes := #[(.object "java/lang/String"), .int, .int]
  staticTypes := #[(.object "com/example/claimgate/claimgate/Operation"), (.object "com/example/claimgate/claimgate/Operation"), (.object "com/example/claimgate/claimgate/Operation"), (.object "com/example/claimgate/claimgate/Operation"), (.object "com/example/claimgate/claimgate/Operation"), (.object "com/example/claimgate/claimgate/Operation"), (.object "com/example/claimgate/claimgate/Operation"), (.object "com/example/claimgate/claimgate/Operation"), (.object "com/example/claimgate/claimgate/Operation"), (.object "com/example/claimgate/claimgate/Operation"), (.object "com/example/claimgate/claimgate/Operation"), (.object "com/example/claimgate/claimgate/Operation"), (.object "com/example/claimgate/claimgate/Operation"), (.object "com/example/claimgate/claimgate/Operation"), (.object "java/util/Map"), (.array (.object "com/example/claimgate/claimgate/Operation"))]
  resolved := Array.replicate 151 none
  statics := some 0 }

def pool7 : Array CpInfo := pool [(1, u "java/lang/Cloneable"), (0, .class_ 1), (0, u "java/lang/Object"), (0, .class_ 3)] 3

/-- java/lang/Cloneable -/
def k7 : Class := { plain "java/lang/Cloneable" (some 0) with
  accessFlags := 1537
  interfaces := #[]
  cf := some (fileOf pool7 2 #[] #[] 1537 4 #[] #[])
  fields := #[]
  methods := #[]
  instanceTypes := #[]
  staticTypes := #[]
  resolved := Array.replicate 8 none
  statics := none }

/-- the primitive byte -/
def k8 : Class := { plain "byte" none with kind := .primitive 'B', accessFlags := 0x411 }
/-- [B -/
def k9 : Class := { plain "[B" (some 0) with kind := .array 8 .byte, interfaces := #[7, 4], accessFlags := 1041 }

/-- the primitive int -/
def k10 : Class := { plain "int" none with kind := .primitive 'I', accessFlags := 0x411 }
/-- [I -/
def k11 : Class := { plain "[I" (some 0) with kind := .array 10 .int, interfaces := #[7, 4], accessFlags := 1041 }

/-- [Lcom/example/claimgate/claimgate/Operation; -/
def k12 : Class := { plain "[Lcom/example/claimgate/claimgate/Operation;" (some 0) with kind := .array 6 (.object "com/example/claimgate/claimgate/Operation"), interfaces := #[7, 4], accessFlags := 1041 }

def heap : Heap := #[{ cls := 6, slots := #[.ref 1, .ref 2, .ref 3, .ref 4, .ref 5, .ref 6, .ref 7, .ref 8, .ref 9, .ref 10, .ref 11, .ref 12, .ref 13, .ref 14, .null, .null], vm := .statics 6 },
  { cls := 6, slots := #[.null, .int 0, .int 0], vm := .none },
  { cls := 6, slots := #[.null, .int 1, .int 0], vm := .none },
  { cls := 6, slots := #[.null, .int 2, .int 0], vm := .none },
  { cls := 6, slots := #[.null, .int 3, .int 0], vm := .none },
  { cls := 6, slots := #[.null, .int 4, .int 0], vm := .none },
  { cls := 6, slots := #[.null, .int 5, .int 0], vm := .none },
  { cls := 6, slots := #[.null, .int 6, .int 0], vm := .none },
  { cls := 6, slots := #[.null, .int 7, .int 0], vm := .none },
  { cls := 6, slots := #[.null, .int 8, .int 0], vm := .none },
  { cls := 6, slots := #[.null, .int 9, .int 0], vm := .none },
  { cls := 6, slots := #[.null, .int 10, .int 0], vm := .none },
  { cls := 6, slots := #[.null, .int 11, .int 0], vm := .none },
  { cls := 6, slots := #[.null, .int 12, .int 0], vm := .none },
  { cls := 6, slots := #[.null, .int 13, .int 0], vm := .none }]
def classes : Array Class := #[k0, k1, k2, k3, k4, k5, k6, k7, k8, k9, k10, k11, k12]
def interned : List (Array UInt16 × Addr) := []
def slotsUsed : Nat := 58
def theMethod : MethodId := ⟨1, 1⟩
def args0 : Array Value := #[.int 5, .int 9]
def aboutOver (below : List Frame) : State where
  vm := { classes := classes, interned := interned.toArray }
  heap := heap
  slotsUsed := slotsUsed
  threads := #[{ frames := .invoking theMethod args0 :: below }]
def below0 : List Frame := [.native { method := ⟨0, 0⟩, args := #[] }]
def about1 : State := aboutOver below0
def p0 : Program := .bare "" "" ""
def e0 : Env := launch0.env 0 0 0
theorem w_frames : about1.frames = Frame.invoking theMethod args0 :: below0 := rfl
set_option maxRecDepth 65536 in
theorem w_args : argsFit about1.vm theMethod args0 = true := by decide +kernel
set_option maxRecDepth 65536 in
theorem w_heap : heapFits about1 = true := by decide +kernel
set_option maxRecDepth 65536 in
theorem w_runnable : about1.curStatus? = some .runnable := by decide +kernel
set_option maxRecDepth 65536 in
theorem w_alone : about1.alone = true := by decide +kernel
set_option maxRecDepth 65536 in
theorem w_named : about1.methodNamed? x = some theMethod := by decide +kernel
set_option maxRecDepth 65536 in
theorem w_hears : about1.hears theMethod below0 = true := by decide +kernel
set_option maxRecDepth 65536 in
theorem w_ripe : about1.ripe theMethod args0 below0 = true := by decide +kernel
theorem w_running : about1.status = .running := rfl
set_option maxRecDepth 65536 in
theorem w_room : about1.hasRoom e0.platform room_1 = true :=
  launch0.hasRoom_least _ room_1 (by decide +kernel) (by decide +kernel) (by decide +kernel) (by decide +kernel) (by decide +kernel) (by decide +kernel)
theorem allAtoms_all (ts : List Jvm.Cond) (a : Array Jvm.Value) (st : Jvm.State) : (allAtoms ts).before a st = ts.all (fun c => c.before a st) := by
  induction ts with
  | nil => rfl
  | cons c t ih =>
    show (Jvm.Cond.and c (allAtoms t)).before a st = _
    rw [Jvm.Cond.before_and, ih, List.all_cons]
def words1 : List Jvm.Cond := Jvm.Cond.code x code maxLocals ret :: tables_1
/-- a 'code' word, met by the world's own term for the bytes: nothing is compared byte by byte -/
theorem code_word {y : MethodName} {bytes : ByteArray} {mx : Nat} {rt : Option FieldType} {a : Array Value} {s : State} {m : MethodId} {meth : Method} {c : Code} (h1 : s.methodNamed? y = some m) (h2 : s.vm.method? m = some meth) (h3 : meth.code = some c) (h4 : c.code = bytes)
    (h5 : (c.maxLocals == mx && c.exceptionTable.isEmpty && decide (c.maxStack ≤ mostOperands) && decide (meth.sig.returnType = rt) && !meth.locks && decide (parseMethodDescriptor y.desc = some meth.sig)) = true) : (Jvm.Cond.code y bytes mx rt).before a s = true := by
  simp only [Bool.and_eq_true, beq_iff_eq, Bool.not_eq_true', decide_eq_true_eq] at h5
  obtain ⟨⟨⟨⟨⟨g1, g2⟩, g3⟩, g4⟩, g5⟩, g6⟩ := h5
  simp [Cond.before, Cond.holds, Cond.value, h1, h2, h3, h4, g1, g2, g3, g4, g5, g6]
def isCode : Jvm.Cond → Bool
  | .code _ _ _ _ => true
  | _ => false
theorem all_split {L : List Jvm.Cond} {P : Jvm.Cond → Bool} (h1 : L.all (fun c => isCode c || P c) = true) (h2 : ∀ c ∈ L.filter isCode, P c = true) : L.all P = true := by
  refine List.all_eq_true.mpr fun c hc => ?_
  have h := List.all_eq_true.mp h1 c hc
  rcases Bool.eq_false_or_eq_true (isCode c) with hi | hi
  · exact h2 c (List.mem_filter.mpr ⟨hc, hi⟩)
  · simpa [hi] using h
set_option maxRecDepth 65536 in
theorem w_c0 : (Jvm.Cond.code x code maxLocals ret).before args0 about1 = true := code_word (m := ⟨1, 1⟩) (meth := k1m1) (c := k1c1) (by decide +kernel) rfl rfl rfl (by decide +kernel)
set_option maxRecDepth 65536 in
theorem w_c1 : (Jvm.Cond.code ({ cls := "com/example/claimgate/claimgate/OperationImpliesPinLaw", name := "expected", desc := "(II)Z" } : Jvm.MethodName) method_3_code (2 : Nat) (Option.some Jvm.ClassFile.FieldType.boolean)).before args0 about1 = true := code_word (m := ⟨1, 2⟩) (meth := k1m2) (c := k1c2) (by decide +kernel) rfl rfl rfl (by decide +kernel)
set_option maxRecDepth 65536 in
theorem w_c2 : (Jvm.Cond.code ({ cls := "com/example/claimgate/claimgate/Operation", name := "implies", desc := "(Lcom/example/claimgate/claimgate/Operation;)Z" } : Jvm.MethodName) prog_20_method_5_code (2 : Nat) (Option.some Jvm.ClassFile.FieldType.boolean)).before args0 about1 = true := code_word (m := ⟨6, 0⟩) (meth := k6m0) (c := k6c0) (by decide +kernel) rfl rfl rfl (by decide +kernel)
set_option maxRecDepth 65536 in
theorem w_c3 : (Jvm.Cond.code ({ cls := "java/lang/Enum", name := "ordinal", desc := "()I" } : Jvm.MethodName) jdk_37_method_2_code (1 : Nat) (Option.some Jvm.ClassFile.FieldType.int)).before args0 about1 = true := code_word (m := ⟨5, 0⟩) (meth := k5m0) (c := k5c0) (by decide +kernel) rfl rfl rfl (by decide +kernel)
def codes1 : List Jvm.Cond := [Jvm.Cond.code x code maxLocals ret, Jvm.Cond.code ({ cls := "com/example/claimgate/claimgate/OperationImpliesPinLaw", name := "expected", desc := "(II)Z" } : Jvm.MethodName) method_3_code (2 : Nat) (Option.some Jvm.ClassFile.FieldType.boolean), Jvm.Cond.code ({ cls := "com/example/claimgate/claimgate/Operation", name := "implies", desc := "(Lcom/example/claimgate/claimgate/Operation;)Z" } : Jvm.MethodName) prog_20_method_5_code (2 : Nat) (Option.some Jvm.ClassFile.FieldType.boolean), Jvm.Cond.code ({ cls := "java/lang/Enum", name := "ordinal", desc := "()I" } : Jvm.MethodName) jdk_37_method_2_code (1 : Nat) (Option.some Jvm.ClassFile.FieldType.int)]
set_option maxRecDepth 65536 in
theorem codes_eq : words1.filter isCode = codes1 := rfl
theorem w_codes : ∀ c ∈ words1.filter isCode, c.before args0 about1 = true := by
  rw [codes_eq]
  intro c hc
  simp only [codes1, List.mem_cons, List.not_mem_nil, or_false] at hc
  rcases hc with rfl | rfl | rfl | rfl
  · exact w_c0
  · exact w_c1
  · exact w_c2
  · exact w_c3
set_option maxRecDepth 65536 in
theorem w_t1 : (words1.take 24).all (fun c => isCode c || c.before args0 about1) = true := by decide +kernel
set_option maxRecDepth 65536 in
theorem w_t2 : ((words1.drop 24).take 24).all (fun c => isCode c || c.before args0 about1) = true := by decide +kernel
set_option maxRecDepth 65536 in
theorem w_t3 : ((words1.drop 24).drop 24).all (fun c => isCode c || c.before args0 about1) = true := by decide +kernel
theorem w_tables : (allAtoms (Jvm.Cond.code x code maxLocals ret :: tables_1)).before args0 about1 = true := by
  rw [allAtoms_all]
  show words1.all (fun c => c.before args0 about1) = true
  refine all_split ?_ w_codes
  rw [← List.take_append_drop 24 words1, List.all_append, w_t1, ← List.take_append_drop 24 (words1.drop 24), List.all_append, w_t2, w_t3]
  rfl
set_option maxRecDepth 65536 in
theorem w_case : (Jvm.Cond.and given_1 narrow_1).before args0 about1 = true := by decide +kernel
theorem w_applies : (headSpec (Jvm.Cond.code x code maxLocals ret :: tables_1) room_1).applies x e0.platform about1 = true :=
  (Spec.applies_iff w_frames).mpr ⟨w_running, w_runnable, w_alone, w_named, w_hears, w_ripe, w_room, w_tables⟩
theorem atStart : AtStart classFile x code maxLocals ret World_1 tables_1 room_1 Calls_1 rest_1 Pre_1 launch0 p0 e0 about1 theMethod args0 below0 :=
  ⟨lists_1, trivial, launch0.admits_env _ _ _, launch0.least_env, fairChoices_fair.cas, fairChoices_fair.clock, w_frames, w_args, w_heap, w_applies, trivial, trivial, w_case⟩
end start1
theorem witness_1 : WitnessClaimed_1 := ⟨start1.p0, start1.e0, start1.about1, start1.theMethod, start1.args0, start1.below0, start1.atStart⟩
end Jvm.Pilot.@@N@@
