import JvmDerived
import JvmDerived.Pilot.@@N@@Statement
import JvmDerived.Pilot.@@N@@Code
set_option linter.unusedVariables false
set_option linter.unusedSimpArgs false
namespace Jvm.OwnGo
open Sem ClassFile Op Lib Jvm.Stand Jvm.Free Jvm.LawKit Jvm.RoadKit
section Own
variable {p : Program} {l : Launch} {e : Env} {R : Room} {s : State} {m : MethodId} {args : Array Value} {below : List Frame} {meth : Method} {c : Code} {T T' : State} {locs : List Loc} {cells slots : Nat} {P : Outcome → State → Prop} {g g' : JFrame} {Z : State} {h : Heap}
/-- from where the walk stands (the state T, the frame g) it ends well -/
def Go (p : Program) (e : Env) (below : List Frame) (P : Outcome → State → Prop) (T : State) (g : JFrame) : Prop :=
  ∃ s₂ o, Steps p.tables e below (T.setTop g) s₂ ∧ s₂.status = .running ∧ Ended s₂ below o ∧ P o s₂
/-- what a contract asks of the end -/
abbrev PQ (s : State) (C S : Nat) (Q : Option Value → Heap → List Loc → Prop) : Outcome → State → Prop := fun o U' => ∃ v L, o = .returned v ∧ Q v U'.heap L ∧ FrameEnd s o U' L C S
theorem goS {n : Nat} {Ls' : Array Slot} {st' : List Value} (k : ∀ t, Steps p.tables e below (T'.setTop (mkF m n Ls' st')) t → Steps p.tables e below (T.setTop g) t) (h : Go p e below P T' (mkF m n Ls' st')) : Go p e below P T g := by
  obtain ⟨s2, o, h1, h2⟩ := h; exact ⟨s2, o, k _ h1, h2⟩
theorem goT {n : Nat} {Ls' : Array Slot} {st' : List Value} (k : Steps p.tables e below (T.setTop g) (T'.setTop (mkF m n Ls' st'))) (h : Go p e below P T' (mkF m n Ls' st')) : Go p e below P T g := by
  obtain ⟨s2, o, h1, h2⟩ := h; exact ⟨s2, o, k.trans h1, h2⟩
theorem enter (q : entryFrame m args n = g) (h : Go p e below P T g) : ∃ s₂ o, Steps p.tables e below (T.setTop (entryFrame m args n)) s₂ ∧ s₂.status = .running ∧ Ended s₂ below o ∧ P o s₂ := by
  rw [q]; exact h
theorem goRet {Q : Option Value → Heap → List Loc → Prop} {C S : Nat} (X : Stand p l e R s m args below meth c T locs cells slots) (hx : p.tables.exec = Jvm.exec) (hlk : meth.locks = false) {pc : Nat} {Ls : Array Slot} {w : Value} {t : FieldType} {i : Instr} {rest : List Value} (hret : meth.sig.returnType = some t) (hn : narrow t w = w)
    (hi : (i = .ireturn ∧ (t = .int ∨ t = .boolean ∨ t = .byte ∨ t = .char ∨ t = .short) ∧ ∃ z, w = .int z) ∨ (i = .lreturn ∧ t = .long ∧ ∃ z, w = .long z) ∨ (i = .dreturn ∧ t = .double ∧ ∃ z, w = .double z) ∨ (i = .freturn ∧ t = .float ∧ ∃ z, w = .float z) ∨ (i = .areturn ∧ t.isReference = true ∧ w.isRef = true))
    (hd : decode c.code pc = .ok (i, 1)) (hC : cells ≤ C) (hS : slots ≤ S) (hQ : Q (some w) T.heap locs) : Go p e below (PQ s C S Q) T (mkF m pc Ls (w :: rest)) := by
  obtain ⟨fs, hr, hrun, hended, hW, hsame⟩ := X.leave (v := some w) (fun h => by rw [hret] at h; cases h) hlk
  exact ⟨_, _, retOut X hx hret hn hi hd hr, hrun, hended, _, _, rfl, hQ, ⟨_, rfl⟩, hW, hsame.mono hC hS⟩
theorem goRetI {Q : Option Value → Heap → List Loc → Prop} {C S : Nat} (X : Stand p l e R s m args below meth c T locs cells slots) (hx : p.tables.exec = Jvm.exec) (hlk : meth.locks = false) {pc : Nat} {Ls : Array Slot} {z : Int32} {rest : List Value} (hret : meth.sig.returnType = some .int) (hd : decode c.code pc = .ok (.ireturn, 1)) (hC : cells ≤ C) (hS : slots ≤ S) (hQ : Q (some (.int z)) T.heap locs) : Go p e below (PQ s C S Q) T (mkF m pc Ls (.int z :: rest)) :=
  goRet X hx hlk hret rfl (Or.inl ⟨rfl, Or.inl rfl, _, rfl⟩) hd hC hS hQ
theorem goRetZ {Q : Option Value → Heap → List Loc → Prop} {C S : Nat} (X : Stand p l e R s m args below meth c T locs cells slots) (hx : p.tables.exec = Jvm.exec) (hlk : meth.locks = false) {pc : Nat} {Ls : Array Slot} {z : Int32} {rest : List Value} (hret : meth.sig.returnType = some .boolean) (hz : z = 0 ∨ z = 1) (hd : decode c.code pc = .ok (.ireturn, 1)) (hC : cells ≤ C) (hS : slots ≤ S) (hQ : Q (some (.int z)) T.heap locs) : Go p e below (PQ s C S Q) T (mkF m pc Ls (.int z :: rest)) :=
  goRet X hx hlk hret (by rcases hz with rfl | rfl <;> rfl) (Or.inl ⟨rfl, Or.inr (Or.inl rfl), _, rfl⟩) hd hC hS hQ
theorem goRetJ {Q : Option Value → Heap → List Loc → Prop} {C S : Nat} (X : Stand p l e R s m args below meth c T locs cells slots) (hx : p.tables.exec = Jvm.exec) (hlk : meth.locks = false) {pc : Nat} {Ls : Array Slot} {z : Int64} {rest : List Value} (hret : meth.sig.returnType = some .long) (hd : decode c.code pc = .ok (.lreturn, 1)) (hC : cells ≤ C) (hS : slots ≤ S) (hQ : Q (some (.long z)) T.heap locs) : Go p e below (PQ s C S Q) T (mkF m pc Ls (.long z :: rest)) :=
  goRet X hx hlk hret rfl (Or.inr (Or.inl ⟨rfl, rfl, _, rfl⟩)) hd hC hS hQ
theorem goRetA {Q : Option Value → Heap → List Loc → Prop} {C S : Nat} (X : Stand p l e R s m args below meth c T locs cells slots) (hx : p.tables.exec = Jvm.exec) (hlk : meth.locks = false) {pc : Nat} {Ls : Array Slot} {w : Value} {t : FieldType} {rest : List Value} (hret : meth.sig.returnType = some t) (ht : t.isReference = true) (hw : w.isRef = true) (hd : decode c.code pc = .ok (.areturn, 1)) (hC : cells ≤ C) (hS : slots ≤ S) (hQ : Q (some w) T.heap locs) : Go p e below (PQ s C S Q) T (mkF m pc Ls (w :: rest)) :=
  goRet X hx hlk hret (by cases t <;> first | rfl | cases ht) (Or.inr (Or.inr (Or.inr (Or.inr ⟨rfl, ht, hw⟩)))) hd hC hS hQ
theorem goRetV {Q : Option Value → Heap → List Loc → Prop} {C S : Nat} (X : Stand p l e R s m args below meth c T locs cells slots) (hx : p.tables.exec = Jvm.exec) (hlk : meth.locks = false) {pc : Nat} {Ls : Array Slot} (hret : meth.sig.returnType = none) (hd : decode c.code pc = .ok (.return_, 1)) (hC : cells ≤ C) (hS : slots ≤ S) (hQ : Q none T.heap locs) : Go p e below (PQ s C S Q) T (mkF m pc Ls []) := by
  obtain ⟨fs, hr, hrun, hended, hW, hsame⟩ := X.leave (v := none) (fun _ => rfl) hlk
  exact ⟨_, _, X.returnOut hx hret hd hr, hrun, hended, _, _, rfl, hQ, ⟨_, rfl⟩, hW, hsame.mono hC hS⟩
abbrev PQW (s : State) (C S : Nat) (Q : Option Value → Heap → List Loc → Prop) : Outcome → State → Prop := fun o U' => ∃ v L, o = .returned v ∧ Q v U'.heap L ∧ ReturnedEndW s o U' L C S
theorem goRetW {Q : Option Value → Heap → List Loc → Prop} {C S : Nat} {vm₁ : Vm} (X : Stand p l e R (s.setVm vm₁) m args below meth c T locs cells slots) (hx : p.tables.exec = Jvm.exec) (hlk : meth.locks = false) {n : Nat} (hS : s.Since vm₁ n) (hn0 : n ≤ T.heap.size) {pc : Nat} {Ls : Array Slot} {w : Value} {t : FieldType} {i : Instr} {rest : List Value} (hret : meth.sig.returnType = some t) (hn : narrow t w = w)
    (hi : (i = .ireturn ∧ (t = .int ∨ t = .boolean ∨ t = .byte ∨ t = .char ∨ t = .short) ∧ ∃ z, w = .int z) ∨ (i = .lreturn ∧ t = .long ∧ ∃ z, w = .long z) ∨ (i = .dreturn ∧ t = .double ∧ ∃ z, w = .double z) ∨ (i = .freturn ∧ t = .float ∧ ∃ z, w = .float z) ∨ (i = .areturn ∧ t.isReference = true ∧ w.isRef = true))
    (hd : decode c.code pc = .ok (i, 1)) (hC : cells ≤ C) (hSl : slots ≤ S) (hQ : Q (some w) T.heap locs) : Go p e below (PQW s C S Q) T (mkF m pc Ls (w :: rest)) := by
  obtain ⟨fs, hr, hrun, hended, h1, h2, h3, h4⟩ := X.leaveW hS hn0 (v := some w) (fun h => by rw [hret] at h; cases h) hlk
  exact ⟨_, _, retOut X hx hret hn hi hd hr, hrun, hended, _, _, rfl, hQ, ⟨_, rfl⟩, h2, h3, h4.mono hC hSl⟩
theorem goRetVW {Q : Option Value → Heap → List Loc → Prop} {C S : Nat} {vm₁ : Vm} (X : Stand p l e R (s.setVm vm₁) m args below meth c T locs cells slots) (hx : p.tables.exec = Jvm.exec) (hlk : meth.locks = false) {n : Nat} (hS : s.Since vm₁ n) (hn0 : n ≤ T.heap.size) {pc : Nat} {Ls : Array Slot} (hret : meth.sig.returnType = none) (hd : decode c.code pc = .ok (.return_, 1)) (hC : cells ≤ C) (hSl : slots ≤ S) (hQ : Q none T.heap locs) : Go p e below (PQW s C S Q) T (mkF m pc Ls []) := by
  obtain ⟨fs, hr, hrun, hended, h1, h2, h3, h4⟩ := X.leaveW hS hn0 (v := none) (fun _ => rfl) hlk
  exact ⟨_, _, X.returnOut hx hret hd hr, hrun, hended, _, _, rfl, hQ, ⟨_, rfl⟩, h2, h3, h4.mono hC hSl⟩
abbrev PQH (Z : State) (EL : List (String × Nat)) (s : State) (C S : Nat) (Q : Option Value → Heap → List Loc → Prop) : Outcome → State → Prop := fun o U' => ∃ v L, o = .returned v ∧ Q v U'.heap L ∧ CHr Z EL s.vm s.heap U'.vm U'.heap ∧ ReturnedEndW s o U' L C S
theorem goRetH {Q : Option Value → Heap → List Loc → Prop} {C S : Nat} {vm₁ : Vm} {EL : List (String × Nat)} {a0 : Array Value} (X : Stand p l e R (s.setVm vm₁) m args below meth c T locs cells slots) (hx : p.tables.exec = Jvm.exec) (hlk : meth.locks = false) {n : Nat} (hS : s.Since vm₁ n) (hn0 : n ≤ T.heap.size) (hZ : Z.Warmed39 vm₁) (hEL : EW Z a0 EL) (hC' : CHr Z EL s.vm s.heap vm₁ T.heap) {pc : Nat} {Ls : Array Slot} {w : Value} {t : FieldType} {i : Instr} {rest : List Value} (hret : meth.sig.returnType = some t) (hn : narrow t w = w)
    (hi : (i = .ireturn ∧ (t = .int ∨ t = .boolean ∨ t = .byte ∨ t = .char ∨ t = .short) ∧ ∃ z, w = .int z) ∨ (i = .lreturn ∧ t = .long ∧ ∃ z, w = .long z) ∨ (i = .dreturn ∧ t = .double ∧ ∃ z, w = .double z) ∨ (i = .freturn ∧ t = .float ∧ ∃ z, w = .float z) ∨ (i = .areturn ∧ t.isReference = true ∧ w.isRef = true))
    (hd : decode c.code pc = .ok (i, 1)) (hC : cells ≤ C) (hSl : slots ≤ S) (hQ : Q (some w) T.heap locs) : Go p e below (PQH Z EL s C S Q) T (mkF m pc Ls (w :: rest)) := by
  obtain ⟨fs, hr, hrun, hended, h1, h2, h3, h4⟩ := X.leaveW hS hn0 (v := some w) (fun h => by rw [hret] at h; cases h) hlk
  have qC : CHr Z EL s.vm s.heap T.vm T.heap := hC'.trans (CHv.at X hZ hEL hC'.1)
  exact ⟨_, _, retOut X hx hret hn hi hd hr, hrun, hended, _, _, rfl, hQ, qC, ⟨_, rfl⟩, h2, h3, h4.mono hC hSl⟩
theorem goRetVH {Q : Option Value → Heap → List Loc → Prop} {C S : Nat} {vm₁ : Vm} {EL : List (String × Nat)} {a0 : Array Value} (X : Stand p l e R (s.setVm vm₁) m args below meth c T locs cells slots) (hx : p.tables.exec = Jvm.exec) (hlk : meth.locks = false) {n : Nat} (hS : s.Since vm₁ n) (hn0 : n ≤ T.heap.size) (hZ : Z.Warmed39 vm₁) (hEL : EW Z a0 EL) (hC' : CHr Z EL s.vm s.heap vm₁ T.heap) {pc : Nat} {Ls : Array Slot} (hret : meth.sig.returnType = none) (hd : decode c.code pc = .ok (.return_, 1)) (hC : cells ≤ C) (hSl : slots ≤ S) (hQ : Q none T.heap locs) : Go p e below (PQH Z EL s C S Q) T (mkF m pc Ls []) := by
  obtain ⟨fs, hr, hrun, hended, h1, h2, h3, h4⟩ := X.leaveW hS hn0 (v := none) (fun _ => rfl) hlk
  have qC : CHr Z EL s.vm s.heap T.vm T.heap := hC'.trans (CHv.at X hZ hEL hC'.1)
  exact ⟨_, _, X.returnOut hx hret hd hr, hrun, hended, _, _, rfl, hQ, qC, ⟨_, rfl⟩, h2, h3, h4.mono hC hSl⟩
/-- a String under construction (its value is null) is no booked one -/
theorem safeNull {vm : Vm} {EL : List (String × Nat)} {a : Addr} (hal : Z.vm.Alike vm) (E : Exa Z h a "java/lang/String") (F : Fld Z h a "java/lang/String" "value" "[B" .null) : Safe Z EL vm h a := fun B => by
  obtain ⟨cell, cf, k, i, f, f1, f2, f3, f4, f5, f6, f7⟩ := F
  obtain ⟨cell', k', e1, e2, e3, -, -⟩ := E
  cases f1.symm.trans e1
  obtain ⟨p, -, u, a', -, q, -, F', rfl | rfl⟩ := B
  · have ha := F'.ha
    cases (show h[q.sa]? = some q.sC from ha).symm.trans f1
    obtain ⟨cS, ⟨⟨-, -, -, ⟨cv, kv, iv, s4, -⟩, -, -, -, s8, -⟩, -⟩, -⟩ := F'
    obtain ⟨kv', z4⟩ := ff_back (U := Wst Z vm h) hal s4
    cases f2.symm.trans z4
    rw [f7] at s8
    cases s8
  · have hd := F'.hd
    cases (show h[q.sd]? = some q.SA from hd).symm.trans f1
    obtain ⟨cS, -, -, hB, -⟩ := F'
    have hB' : Z.vm.findClass "[B" = some q.SA.cls := by rw [← hal.findClass]; exact hB
    obtain ⟨k1, q1, q2⟩ := Vm.findClass_spec hB'
    obtain ⟨k2, q3, q4⟩ := Vm.findClass_spec e2
    cases q1.symm.trans q3
    exact absurd (q2.symm.trans q4) (by decide)
theorem mvMN {a0 args : Array Value} {own host : String} {y : MethodName} {index : Nat} (hZ : Z.Warmed39 s.vm) (w : (Cond.methodLinkNest own index y host).before a0 Z = true) : (Cond.methodLinkNest own index y host).before args s = true := (Cond.methodLinkNest_wide hZ w :)
theorem shr0 (z : Int32) : z >>> ((0 : Int32) &&& 31) = z := by
  have h := c_ishr z 0 0 (by decide)
  exact Int32.toInt_inj.mp (by rw [h]; omega)
theorem narZ {z : Int32} (hz : z = 0 ∨ z = 1) : narrow .boolean (.int z) = .int z := by rcases hz with rfl | rfl <;> rfl
theorem fldStart {args : Array Value} {t : Term} {C n d : String} {a : Addr} {k : Int32} (ht : t.eval args Z none [] Z = some (.ref a)) (h : (Cond.eq (Term.field t C n d) (.int k)).value args Z none Z [] = some true) : Fld Z Z.heap a C n d (.int k) := by
  obtain ⟨x, y, e1, e2, k1, k2⟩ := cmp_v (Or.inl h)
  rw [Term.int_eval] at e2
  cases e2
  obtain ⟨z, rfl⟩ := k2
  have e3 := e1
  rw [fld_at ht] at e3
  have q : z = k := by simpa [Cond.value, e1, Term.int_eval] using h
  subst q
  exact Fld.start e3
def bi (P : Prop) [Decidable P] : Int32 := if P then 1 else 0
theorem bi_t {P : Prop} [Decidable P] (h : P) : bi P = 1 := if_pos h
theorem bi_f {P : Prop} [Decidable P] (h : ¬ P) : bi P = 0 := if_neg h
theorem bi01 (P : Prop) [Decidable P] : bi P = 0 ∨ bi P = 1 := by unfold bi; split <;> simp
theorem modk (x k : Int32) (K : Int) (hk : k.toInt = K) : 0 < K → 0 ≤ ((x &&& 2147483647) % k).toInt ∧ ((x &&& 2147483647) % k).toInt < K := by
  intro h0
  have h1 := c_mask x 2147483647 31 (by decide) (by decide)
  have h2 : 0 ≤ (x &&& 2147483647).toInt := by rw [h1]; omega
  have h3 := (c_irem (x &&& 2147483647) k K hk).1 h2
  rw [h3]
  exact ⟨Int.emod_nonneg _ (by omega), Int.emod_lt_of_pos _ h0⟩
/-- an index: a natural below n -/
theorem idx {i : Int32} {n : Nat} (h : 0 ≤ i.toInt ∧ i.toInt < (n : Int)) : ∃ k : Nat, k < n ∧ i.toInt = (k : Int) ∧ i.toNatClampNeg = k ∧ ¬ i < 0 := by
  have h0 : ¬ i < 0 := by rw [Int32.lt_iff_toInt_lt]; show ¬ i.toInt < 0; omega
  have h1 := nat_of h0
  exact ⟨i.toNatClampNeg, by omega, h1, rfl, h0⟩
theorem lsw {target : State} (X : Stand p l e R s m args below meth c T locs cells slots) (hx : p.tables.exec = Jvm.exec) (hg : g.method = m) {dflt : Int} {pairs : Array (Int × Int)} {len pc0 pc' : Nat} (hpc : g.pc = pc0) {o : Int} {i : Int32} {rest : List Value} (hd : decode c.code g.pc = .ok (.lookupswitch dflt pairs, len)) (hs : g.stack = .int i :: rest)
    (hord : ∀ (a b a_1 b_1 : Int), ((a, b), a_1, b_1) ∈ pairs.toList.zip pairs.toList.tail → a < a_1) (hf : (∃ kk, pairs.find? (·.1 == i.toInt) = some (kk, o)) ∨ (pairs.find? (·.1 == i.toInt) = none ∧ o = dflt)) (h0 : 0 ≤ (pc0 : Int) + o) (hp : ((pc0 : Int) + o).toNat = pc')
    (hr : Steps p.tables e below (T.setTop { g with pc := pc', stack := rest }) target) : Steps p.tables e below (T.setTop g) target := by
  subst hg hpc hp
  rcases hf with ⟨kk, hf⟩ | ⟨hf, rfl⟩
  · jvm_step X.here [X.here.top, hx, hd, hs, hf, h0, lookupswitch.wp_whole]
    exact ⟨hord, hr⟩
  · jvm_step X.here [X.here.top, hx, hd, hs, hf, h0, lookupswitch.wp_whole]
    exact ⟨hord, hr⟩
theorem ieq {x k : Int32} {n K : Nat} (hx : x.toInt = (n : Int)) (hk : k.toInt = (K : Int)) : x = k ↔ n = K := by rw [← Int32.toInt_inj, hx, hk]; omega
theorem lenStart {args : Array Value} {t : Term} {a : Addr} {cl : Cell} {ty : FieldType} {z : Int32} (ht : t.eval args Z none [] Z = some (.ref a)) (A : Arr Z Z.heap a cl ty) (h : (Term.length t).eval args Z none [] Z = some (.int z)) : cl.slots.size < 2 ^ 31 ∧ cl.slots.size.toInt32 = z := by
  have ha := A.fin (U := Z) (Vm.Alike.refl _)
  by_cases q : cl.slots.size < 2 ^ 31
  · refine ⟨q, ?_⟩
    rw [len_f ht ha q] at h
    exact Value.int.inj (Option.some.inj h)
  · simp [Term.eval, ht, ha, q] at h
theorem subIdx {args : Array Value} {j : Int32} (hj : ¬ j < 0) (k : Int32) : (Term.sub (.index 0) (.int k)).eval args Z none [j.toNatClampNeg] Z = some (.int (j - k)) := Term.sub_int (idx_at hj) (Term.int_eval _)
theorem bi_iff {P Q : Prop} [Decidable P] [Decidable Q] (h : P ↔ Q) : bi P = bi Q := by unfold bi; simp only [h]
theorem cacheIdx {x : Int32} {n : Nat} (h1 : ¬ x < (-128 : Int32)) (h2 : ¬ (127 : Int32) < x) (hn : n = (256 : Int32).toNatClampNeg) : ¬ (x + (128 : Int32) < 0 ∨ n ≤ (x + (128 : Int32)).toNatClampNeg) := by
  rw [Int32.lt_iff_toInt_lt] at h1 h2
  have a1 : ¬ x.toInt < -128 := h1
  have a2 : ¬ (127 : Int) < x.toInt := h2
  have q0 : (128 : Int32).toInt = 128 := rfl
  have q := c_iadd x 128
  have r := rng32 (x + 128)
  rw [q0] at q
  have e1 : (x + (128 : Int32)).toInt = x.toInt + 128 := by omega
  have e2 : ¬ x + (128 : Int32) < 0 := by rw [Int32.lt_iff_toInt_lt]; show ¬ _ < (0 : Int); omega
  have e3 := nat_of e2
  have e4 : n = 256 := hn
  rintro (h | h)
  · exact e2 h
  · omega
theorem nsRoot {a0 : Array Value} {O K : String} {n : Nat} (w : (Cond.noSuperclass O).before a0 Z = true) (wk : (Cond.instantiable K n).before a0 Z = true) (hn : O ≠ K) : NS Z O K := by
  obtain ⟨c, k, h1, h2, h3, -, -⟩ := Cond.noSuperclass_spec w
  obtain ⟨t, kt, g1, -⟩ := Cond.instantiable_spec wk
  have ne := ids_ne h1 g1 hn
  refine ⟨c, t, h1, g1, fun fuel => ?_⟩
  cases fuel with
  | zero => rfl
  | succ f => simp [Vm.isSubclassAux, ne, h2, h3]
theorem nsNo {a0 : Array Value} {C S K : String} {n : Nat} (w : (Cond.superclass C S).before a0 Z = true) (wk : (Cond.instantiable K n).before a0 Z = true) (q : NS Z C K) (hn : C ≠ K) : ∃ c t, Z.vm.findClass C = some c ∧ Z.vm.findClass K = some t ∧ Z.vm.assignable c t = false := by
  obtain ⟨c, t, h0, g0, n3⟩ := q
  obtain ⟨p, k, kp, h1, h2, h3, h4, h5, -, h7⟩ := Cond.superclass_spec h0 w
  obtain ⟨t', k', g1, g2, g5, g7, -⟩ := Cond.instantiable_spec wk
  cases g0.symm.trans g1
  have g8 := (Bool.or_eq_false_iff.mp g7).1
  have ne := ids_ne h0 g0 hn
  refine ⟨c, t, h0, g0, ?_⟩
  show Z.vm.assignableAux (255 + 1) c t = false
  simp [Vm.assignableAux, ne, h2, g2, h5, g5, g8, Vm.isSubclass, n3]
theorem ne_key {x k : Int32} {K : Int} (h : ¬ x = k) (hk : k.toInt = K) : K ≠ x.toInt := fun q => h (Int32.toInt_inj.mp (by rw [hk]; exact q.symm))
end Own
end Jvm.OwnGo

namespace Jvm.Pilot.@@N@@
open Jvm Jvm.ClassFile Sem Op Lib Jvm.Free Jvm.Stand Jvm.LawKit Jvm.RoadKit Jvm.OwnGo Bundle Jvm.Pilot.@@N@@.Jvm.D
theorem d2_0 : decode jdk_30_method_1_code 0 = .ok (.aload_n 0, 1) := by decide +kernel
theorem d2_1 : decode jdk_30_method_1_code 1 = .ok (.invokespecial 1, 3) := by decide +kernel
theorem d2_4 : decode jdk_30_method_1_code 4 = .ok (.return_, 1) := by decide +kernel
theorem pn_0 : plainName "java/lang/Record" = true := by first | (simp [plainName, overriddenIn]; done) | decide +kernel
theorem ef_rec (m : MethodId) (a : Addr) : entryFrame m #[(.ref a)] 1 = mkF m 0 #[.val (.ref a)] [] := by first | (simp [entryFrame, mkF, argsToLocals, Value.category]; done) | rfl
abbrev R_rec : Room := { frames := 1, cells := 0, slots := 0, locals := 12 }
def Q_rec (Z : State) (a : Addr) (h0 : Heap) (n0 : Nat) (v : Option Value) (h : Heap) (L : List Loc) : Prop := v = none ∧ Fr n0 L ∧ h = h0
set_option maxRecDepth 65536 in
set_option maxHeartbeats 40000000 in
theorem rm_rec (l : Launch) (Z : State) (a0 : Array Value) (hw : ∀ d ∈ tables_1, d.before a0 Z = true) (ws : List Jvm.Cond) (a : Addr) (h0 : Heap) (n0 : Nat) (O0 : Old Z n0 h0) :
    MetFree l (⟨"java/lang/Record", "<init>", "()V"⟩ : MethodName) (head1 (Jvm.Cond.code (⟨"java/lang/Record", "<init>", "()V"⟩ : MethodName) jdk_30_method_1_code 1 none :: ws) R_rec) (fun as_ U => as_ = #[(.ref a)] ∧ Z.Warmed39 U.vm ∧ U.heap = h0) (fun _ _ _ _ _ => True) (fun _ U o U' => ∃ v L, o = .returned v ∧ Q_rec Z a h0 n0 v U'.heap L ∧ FrameEnd U o U' L R_rec.cells R_rec.slots) := by
  refine MetFree.of_bodySF (plainFor_of_name pn_0) hisR ?_
  intro p e s m args below meth c s₁ Bd hml0 hP hK
  obtain ⟨rfl, hZ, hh⟩ := hP
  have hx := Bd.exec
  have hby := Bd.bytes
  have hml : c.maxLocals = 1 := hml0
  have hown : s.vm.findClass "java/lang/Record" = some m.cls := findClass_of_methodNamed Bd.named
  have hnm := (name_of_methodNamed Bd.named Bd.method).1
  have hlk : meth.locks = false := BodyLoose.notSynchronized Bd
  have X0 : Stand p l e R_rec s m #[(.ref a)] below meth c s₁ [] 0 0 := Stand.of_body Bd
  have e0 : s₁.heap = h0 := by rw [← hh, Bd.state]; rfl
  have N0 := Fr.nil n0
  refine enter (P := PQ s R_rec.cells R_rec.slots (Q_rec Z a h0 n0)) (ef_rec m a) ?_
  refine goS (n := 1) (Ls' := #[.val (.ref a)]) (st' := [(.ref a)]) (fun _ kz => XS.aloadN X0.here hx rfl (hb hby d2_0) rfl rfl kz) ?_
  obtain ⟨T1, X1, e1, st1⟩ := initO X0 hx hZ hown (hw _ (List.mem_of_getElem? (i := 11) rfl)) (hw _ (List.mem_of_getElem? (i := 12) rfl)) (hw _ (List.mem_of_getElem? (i := 13) rfl)) e0 (g := (mkF m 1 #[.val (.ref a)] [(.ref a)])) rfl (by rw [hml]; rfl) rfl (hb hby d2_1) (by decide) (W := 0) (by show 2 * 0 + _ ≤ _; exact Nat.le_of_eq rfl) (by decide)
  refine goS (n := 4) (Ls' := #[.val (.ref a)]) (st' := []) st1 ?_
  exact goRetV X1 hx hlk Bd.returns (hb hby d2_4) (by decide) (by decide) (by rw [e1]; exact ⟨rfl, N0, rfl⟩)
theorem d1_0 : decode prog_31_method_1_code 0 = .ok (.aload_n 0, 1) := by decide +kernel
theorem d1_1 : decode prog_31_method_1_code 1 = .ok (.invokespecial 1, 3) := by decide +kernel
theorem pd_0 : parseMethodDescriptor "()V" = some ⟨[], none⟩ := by decide +kernel
theorem d1_4 : decode prog_31_method_1_code 4 = .ok (.aload_n 0, 1) := by decide +kernel
theorem d1_5 : decode prog_31_method_1_code 5 = .ok (.iload_n 1, 1) := by decide +kernel
theorem d1_6 : decode prog_31_method_1_code 6 = .ok (.putfield 7, 3) := by decide +kernel
theorem d1_9 : decode prog_31_method_1_code 9 = .ok (.aload_n 0, 1) := by decide +kernel
theorem d1_10 : decode prog_31_method_1_code 10 = .ok (.iload_n 2, 1) := by decide +kernel
theorem d1_11 : decode prog_31_method_1_code 11 = .ok (.putfield 13, 3) := by decide +kernel
theorem d1_14 : decode prog_31_method_1_code 14 = .ok (.return_, 1) := by decide +kernel
theorem pn_1 : plainName "com/example/drain_warden/drainwarden/model/SaverRules$Memory" = true := by first | (simp [plainName, overriddenIn]; done) | decide +kernel
theorem ef_init (m : MethodId) (a : Addr) (x : Int32) (y : Int32) : entryFrame m #[(.ref a), (.int x), (.int y)] 3 = mkF m 0 #[.val (.ref a), .val (.int x), .val (.int y)] [] := by first | (simp [entryFrame, mkF, argsToLocals, Value.category]; done) | rfl
abbrev R_init : Room := { frames := 2, cells := 0, slots := 0, locals := 24 }
def Q_init (Z : State) (a : Addr) (x : Int32) (y : Int32) (h0 : Heap) (n0 : Nat) (v : Option Value) (h : Heap) (L : List Loc) : Prop := v = none ∧ Fr n0 L ∧ Keep h0 h [a] ∧ Fld Z h a "com/example/drain_warden/drainwarden/model/SaverRules$Memory" "stickyOn" "Z" (.int x) ∧ Fld Z h a "com/example/drain_warden/drainwarden/model/SaverRules$Memory" "snoozed" "Z" (.int y)
set_option maxRecDepth 65536 in
set_option maxHeartbeats 40000000 in
theorem rm_init (l : Launch) (Z : State) (a0 : Array Value) (hw : ∀ d ∈ tables_1, d.before a0 Z = true) (ws : List Jvm.Cond) (a : Addr) (x : Int32) (y : Int32) (h0 : Heap) (n0 : Nat) (O0 : Old Z n0 h0) (hx01 : x = 0 ∨ x = 1) (hy01 : y = 0 ∨ y = 1) (E_a : Exa Z h0 a "com/example/drain_warden/drainwarden/model/SaverRules$Memory") (F_stickyOn_a : Fld Z h0 a "com/example/drain_warden/drainwarden/model/SaverRules$Memory" "stickyOn" "Z" (.int (0 : Int32))) (F_snoozed_a : Fld Z h0 a "com/example/drain_warden/drainwarden/model/SaverRules$Memory" "snoozed" "Z" (.int (0 : Int32))) (g_a : n0 ≤ a) :
    MetFree l (⟨"com/example/drain_warden/drainwarden/model/SaverRules$Memory", "<init>", "(ZZ)V"⟩ : MethodName) (head1 (Jvm.Cond.code (⟨"com/example/drain_warden/drainwarden/model/SaverRules$Memory", "<init>", "(ZZ)V"⟩ : MethodName) prog_31_method_1_code 3 none :: ws) R_init) (fun as_ U => as_ = #[(.ref a), (.int x), (.int y)] ∧ Z.Warmed39 U.vm ∧ U.heap = h0) (fun _ _ _ _ _ => True) (fun _ U o U' => ∃ v L, o = .returned v ∧ Q_init Z a x y h0 n0 v U'.heap L ∧ FrameEnd U o U' L R_init.cells R_init.slots) := by
  refine MetFree.of_bodySF (plainFor_of_name pn_1) hisR ?_
  intro p e s m args below meth c s₁ Bd hml0 hP hK
  obtain ⟨rfl, hZ, hh⟩ := hP
  have hx := Bd.exec
  have hby := Bd.bytes
  have hml : c.maxLocals = 3 := hml0
  have hown : s.vm.findClass "com/example/drain_warden/drainwarden/model/SaverRules$Memory" = some m.cls := findClass_of_methodNamed Bd.named
  have hnm := (name_of_methodNamed Bd.named Bd.method).1
  have hlk : meth.locks = false := BodyLoose.notSynchronized Bd
  have X0 : Stand p l e R_init s m #[(.ref a), (.int x), (.int y)] below meth c s₁ [] 0 0 := Stand.of_body Bd
  have e0 : s₁.heap = h0 := by rw [← hh, Bd.state]; rfl
  have N0 := Fr.nil n0
  refine enter (P := PQ s R_init.cells R_init.slots (Q_init Z a x y h0 n0)) (ef_init m a x y) ?_
  refine goS (n := 1) (Ls' := #[.val (.ref a), .val (.int x), .val (.int y)]) (st' := [(.ref a)]) (fun _ kz => XS.aloadN X0.here hx rfl (hb hby d1_0) rfl rfl kz) ?_
  obtain ⟨_, _, ⟨T1, L1, k1, n1⟩, -, X1, ⟨Lc1, hQ1, l1, y1, z1⟩, st1⟩ := X0.specialBack hx (y := (⟨"java/lang/Record", "<init>", "()V"⟩ : MethodName)) rfl hown (mvT hZ (hw _ (List.mem_of_getElem? (i := 6) rfl))) (mvT hZ (hw _ (List.mem_of_getElem? (i := 7) rfl))) (mvT hZ (hw _ (List.mem_of_getElem? (i := 10) rfl))) (by decide) (backOf (W := 0) (rm_rec l Z a0 hw [] a h0 n0 O0) hZ (hw _ (List.mem_of_getElem? (i := 10) rfl)) (hw _ (List.mem_of_getElem? (i := 9) rfl)) (by decide) (by decide)) (g := (mkF m 1 #[.val (.ref a), .val (.int x), .val (.int y)] [(.ref a)])) rfl (by rw [hml]; rfl) (Steps.refl _) (a := a) (argsL := []) (rest := []) (lenOf pd_0 rfl) rfl (by show 2 * 0 + _ ≤ _; exact Nat.le_of_eq rfl) (hb hby d1_1) (fun _ _ => ⟨rfl, e0, (Nat.le_of_ble_eq_true rfl), (Nat.le_of_ble_eq_true rfl)⟩)
  dsimp only [Pt.U, Pt.locs, Pt.cells, Pt.slots] at X1 l1 y1 z1 st1 hQ1
  subst l1 y1 z1
  obtain ⟨rfl, N1q, e1⟩ := hQ1
  have N1 := Fr.app N0 N1q
  refine goT (n := 4) (Ls' := #[.val (.ref a), .val (.int x), .val (.int y)]) (st' := []) st1 ?_
  refine goS (n := 5) (Ls' := #[.val (.ref a), .val (.int x), .val (.int y)]) (st' := [(.ref a)]) (fun _ kz => XS.aloadN X1.here hx rfl (hb hby d1_4) rfl rfl kz) ?_
  refine goS (n := 6) (Ls' := #[.val (.ref a), .val (.int x), .val (.int y)]) (st' := [(.int x), (.ref a)]) (fun _ kz => XS.iloadN X1.here hx rfl (hb hby d1_5) rfl kz) ?_
  obtain ⟨T2, h2, X2, e2, W2, st2⟩ := putFN X1 hx hZ hown (hw _ (List.mem_of_getElem? (i := 14) rfl)) Via.refl e1 F_stickyOn_a E_a (Or.inr ⟨(hw _ (List.mem_of_getElem? (i := 15) rfl)), rfl, hnm⟩) (hw _ (List.mem_of_getElem? (i := 1) rfl)) (ty := .boolean) (v' := (.int x)) (by decide) (by rcases hx01 with q | q <;> rw [q] <;> rfl) (by rcases hx01 with q | q <;> rw [q] <;> rfl) (g := (mkF m 6 #[.val (.ref a), .val (.int x), .val (.int y)] [(.int x), (.ref a)])) rfl rfl (hb hby d1_6)
  have Fn2 : Fld Z h2 a "com/example/drain_warden/drainwarden/model/SaverRules$Memory" "stickyOn" "Z" (.int x) := F_stickyOn_a.same W2
  have E_a : Exa Z h2 a "com/example/drain_warden/drainwarden/model/SaverRules$Memory" := E_a.wr W2
  have F_snoozed_a : Fld Z h2 a "com/example/drain_warden/drainwarden/model/SaverRules$Memory" "snoozed" "Z" (.int (0 : Int32)) := F_snoozed_a.other W2 (Or.inr (slot_ne (Or.inr (hw _ (List.mem_of_getElem? (i := 17) rfl))) (Or.inr (hw _ (List.mem_of_getElem? (i := 15) rfl))) (by decide) (t := .boolean) (t' := .boolean) (by decide) (by decide)))
  have F_stickyOn_a := Fn2
  have N2 := Fr.snoc X2 N1 g_a
  have O2 := O0.wr W2 g_a
  have KK2 : Keep h0 h2 [a] := (Keep.refl h0 [a]).wr W2 (Or.inl (List.mem_of_getElem? (i := 0) rfl))
  refine goS (n := 9) (Ls' := #[.val (.ref a), .val (.int x), .val (.int y)]) (st' := []) st2 ?_
  refine goS (n := 10) (Ls' := #[.val (.ref a), .val (.int x), .val (.int y)]) (st' := [(.ref a)]) (fun _ kz => XS.aloadN X2.here hx rfl (hb hby d1_9) rfl rfl kz) ?_
  refine goS (n := 11) (Ls' := #[.val (.ref a), .val (.int x), .val (.int y)]) (st' := [(.int y), (.ref a)]) (fun _ kz => XS.iloadN X2.here hx rfl (hb hby d1_10) rfl kz) ?_
  obtain ⟨T3, h3, X3, e3, W3, st3⟩ := putFN X2 hx hZ hown (hw _ (List.mem_of_getElem? (i := 16) rfl)) Via.refl e2 F_snoozed_a E_a (Or.inr ⟨(hw _ (List.mem_of_getElem? (i := 17) rfl)), rfl, hnm⟩) (hw _ (List.mem_of_getElem? (i := 1) rfl)) (ty := .boolean) (v' := (.int y)) (by decide) (by rcases hy01 with q | q <;> rw [q] <;> rfl) (by rcases hy01 with q | q <;> rw [q] <;> rfl) (g := (mkF m 11 #[.val (.ref a), .val (.int x), .val (.int y)] [(.int y), (.ref a)])) rfl rfl (hb hby d1_11)
  have Fn3 : Fld Z h3 a "com/example/drain_warden/drainwarden/model/SaverRules$Memory" "snoozed" "Z" (.int y) := F_snoozed_a.same W3
  have E_a : Exa Z h3 a "com/example/drain_warden/drainwarden/model/SaverRules$Memory" := E_a.wr W3
  have F_stickyOn_a : Fld Z h3 a "com/example/drain_warden/drainwarden/model/SaverRules$Memory" "stickyOn" "Z" (.int x) := F_stickyOn_a.other W3 (Or.inr (slot_ne (Or.inr (hw _ (List.mem_of_getElem? (i := 15) rfl))) (Or.inr (hw _ (List.mem_of_getElem? (i := 17) rfl))) (by decide) (t := .boolean) (t' := .boolean) (by decide) (by decide)))
  have F_snoozed_a := Fn3
  have N3 := Fr.snoc X3 N2 g_a
  have O3 := O2.wr W3 g_a
  have KK3 : Keep h0 h3 [a] := KK2.wr W3 (Or.inl (List.mem_of_getElem? (i := 0) rfl))
  refine goS (n := 14) (Ls' := #[.val (.ref a), .val (.int x), .val (.int y)]) (st' := []) st3 ?_
  exact goRetV X3 hx hlk Bd.returns (hb hby d1_14) (by decide) (by decide) (by rw [e3]; exact ⟨rfl, N3, KK3, F_stickyOn_a, F_snoozed_a⟩)
theorem d7_0 : decode jdk_18_method_1_code 0 = .ok (.aload_n 0, 1) := by decide +kernel
theorem d7_1 : decode jdk_18_method_1_code 1 = .ok (.invokespecial 1, 3) := by decide +kernel
theorem d7_4 : decode jdk_18_method_1_code 4 = .ok (.return_, 1) := by decide +kernel
theorem pn_2 : plainName "java/lang/Number" = true := by first | (simp [plainName, overriddenIn]; done) | decide +kernel
theorem ef_num (m : MethodId) (a : Addr) : entryFrame m #[(.ref a)] 1 = mkF m 0 #[.val (.ref a)] [] := by first | (simp [entryFrame, mkF, argsToLocals, Value.category]; done) | rfl
abbrev R_num : Room := { frames := 1, cells := 0, slots := 0, locals := 12 }
def Q_num (Z : State) (a : Addr) (h0 : Heap) (n0 : Nat) (v : Option Value) (h : Heap) (L : List Loc) : Prop := v = none ∧ Fr n0 L ∧ h = h0
set_option maxRecDepth 65536 in
set_option maxHeartbeats 40000000 in
theorem rm_num (l : Launch) (Z : State) (a0 : Array Value) (hw : ∀ d ∈ tables_1, d.before a0 Z = true) (ws : List Jvm.Cond) (a : Addr) (h0 : Heap) (n0 : Nat) (O0 : Old Z n0 h0) :
    MetFree l (⟨"java/lang/Number", "<init>", "()V"⟩ : MethodName) (head1 (Jvm.Cond.code (⟨"java/lang/Number", "<init>", "()V"⟩ : MethodName) jdk_18_method_1_code 1 none :: ws) R_num) (fun as_ U => as_ = #[(.ref a)] ∧ Z.Warmed39 U.vm ∧ U.heap = h0) (fun _ _ _ _ _ => True) (fun _ U o U' => ∃ v L, o = .returned v ∧ Q_num Z a h0 n0 v U'.heap L ∧ FrameEnd U o U' L R_num.cells R_num.slots) := by
  refine MetFree.of_bodySF (plainFor_of_name pn_2) hisR ?_
  intro p e s m args below meth c s₁ Bd hml0 hP hK
  obtain ⟨rfl, hZ, hh⟩ := hP
  have hx := Bd.exec
  have hby := Bd.bytes
  have hml : c.maxLocals = 1 := hml0
  have hown : s.vm.findClass "java/lang/Number" = some m.cls := findClass_of_methodNamed Bd.named
  have hnm := (name_of_methodNamed Bd.named Bd.method).1
  have hlk : meth.locks = false := BodyLoose.notSynchronized Bd
  have X0 : Stand p l e R_num s m #[(.ref a)] below meth c s₁ [] 0 0 := Stand.of_body Bd
  have e0 : s₁.heap = h0 := by rw [← hh, Bd.state]; rfl
  have N0 := Fr.nil n0
  refine enter (P := PQ s R_num.cells R_num.slots (Q_num Z a h0 n0)) (ef_num m a) ?_
  refine goS (n := 1) (Ls' := #[.val (.ref a)]) (st' := [(.ref a)]) (fun _ kz => XS.aloadN X0.here hx rfl (hb hby d7_0) rfl rfl kz) ?_
  obtain ⟨T1, X1, e1, st1⟩ := initO X0 hx hZ hown (hw _ (List.mem_of_getElem? (i := 47) rfl)) (hw _ (List.mem_of_getElem? (i := 12) rfl)) (hw _ (List.mem_of_getElem? (i := 13) rfl)) e0 (g := (mkF m 1 #[.val (.ref a)] [(.ref a)])) rfl (by rw [hml]; rfl) rfl (hb hby d7_1) (by decide) (W := 0) (by show 2 * 0 + _ ≤ _; exact Nat.le_of_eq rfl) (by decide)
  refine goS (n := 4) (Ls' := #[.val (.ref a)]) (st' := []) st1 ?_
  exact goRetV X1 hx hlk Bd.returns (hb hby d7_4) (by decide) (by decide) (by rw [e1]; exact ⟨rfl, N0, rfl⟩)
theorem d6_0 : decode jdk_33_method_23_code 0 = .ok (.aload_n 0, 1) := by decide +kernel
theorem d6_1 : decode jdk_33_method_23_code 1 = .ok (.invokespecial 202, 3) := by decide +kernel
theorem d6_4 : decode jdk_33_method_23_code 4 = .ok (.aload_n 0, 1) := by decide +kernel
theorem d6_5 : decode jdk_33_method_23_code 5 = .ok (.iload_n 1, 1) := by decide +kernel
theorem d6_6 : decode jdk_33_method_23_code 6 = .ok (.putfield 205, 3) := by decide +kernel
theorem d6_9 : decode jdk_33_method_23_code 9 = .ok (.return_, 1) := by decide +kernel
theorem pn_3 : plainName "java/lang/Integer" = true := by first | (simp [plainName, overriddenIn]; done) | decide +kernel
theorem ef_intinit (m : MethodId) (a : Addr) (x : Int32) : entryFrame m #[(.ref a), (.int x)] 2 = mkF m 0 #[.val (.ref a), .val (.int x)] [] := by first | (simp [entryFrame, mkF, argsToLocals, Value.category]; done) | rfl
abbrev R_intinit : Room := { frames := 2, cells := 0, slots := 0, locals := 24 }
def Q_intinit (Z : State) (a : Addr) (x : Int32) (h0 : Heap) (n0 : Nat) (v : Option Value) (h : Heap) (L : List Loc) : Prop := v = none ∧ Fr n0 L ∧ Keep h0 h [a] ∧ Fld Z h a "java/lang/Integer" "value" "I" (.int x)
set_option maxRecDepth 65536 in
set_option maxHeartbeats 40000000 in
theorem rm_intinit (l : Launch) (Z : State) (a0 : Array Value) (hw : ∀ d ∈ tables_1, d.before a0 Z = true) (ws : List Jvm.Cond) (a : Addr) (x : Int32) (h0 : Heap) (n0 : Nat) (O0 : Old Z n0 h0) (E_a : Exa Z h0 a "java/lang/Integer") (F_value_a : Fld Z h0 a "java/lang/Integer" "value" "I" (.int (0 : Int32))) (g_a : n0 ≤ a) :
    MetFree l (⟨"java/lang/Integer", "<init>", "(I)V"⟩ : MethodName) (head1 (Jvm.Cond.code (⟨"java/lang/Integer", "<init>", "(I)V"⟩ : MethodName) jdk_33_method_23_code 2 none :: ws) R_intinit) (fun as_ U => as_ = #[(.ref a), (.int x)] ∧ Z.Warmed39 U.vm ∧ U.heap = h0) (fun _ _ _ _ _ => True) (fun _ U o U' => ∃ v L, o = .returned v ∧ Q_intinit Z a x h0 n0 v U'.heap L ∧ FrameEnd U o U' L R_intinit.cells R_intinit.slots) := by
  refine MetFree.of_bodySF (plainFor_of_name pn_3) hisR ?_
  intro p e s m args below meth c s₁ Bd hml0 hP hK
  obtain ⟨rfl, hZ, hh⟩ := hP
  have hx := Bd.exec
  have hby := Bd.bytes
  have hml : c.maxLocals = 2 := hml0
  have hown : s.vm.findClass "java/lang/Integer" = some m.cls := findClass_of_methodNamed Bd.named
  have hnm := (name_of_methodNamed Bd.named Bd.method).1
  have hlk : meth.locks = false := BodyLoose.notSynchronized Bd
  have X0 : Stand p l e R_intinit s m #[(.ref a), (.int x)] below meth c s₁ [] 0 0 := Stand.of_body Bd
  have e0 : s₁.heap = h0 := by rw [← hh, Bd.state]; rfl
  have N0 := Fr.nil n0
  refine enter (P := PQ s R_intinit.cells R_intinit.slots (Q_intinit Z a x h0 n0)) (ef_intinit m a x) ?_
  refine goS (n := 1) (Ls' := #[.val (.ref a), .val (.int x)]) (st' := [(.ref a)]) (fun _ kz => XS.aloadN X0.here hx rfl (hb hby d6_0) rfl rfl kz) ?_
  obtain ⟨_, _, ⟨T1, L1, k1, n1⟩, -, X1, ⟨Lc1, hQ1, l1, y1, z1⟩, st1⟩ := X0.specialBack hx (y := (⟨"java/lang/Number", "<init>", "()V"⟩ : MethodName)) rfl hown (mvT hZ (hw _ (List.mem_of_getElem? (i := 41) rfl))) (mvT hZ (hw _ (List.mem_of_getElem? (i := 42) rfl))) (mvT hZ (hw _ (List.mem_of_getElem? (i := 46) rfl))) (by decide) (backOf (W := 0) (rm_num l Z a0 hw [] a h0 n0 O0) hZ (hw _ (List.mem_of_getElem? (i := 46) rfl)) (hw _ (List.mem_of_getElem? (i := 45) rfl)) (by decide) (by decide)) (g := (mkF m 1 #[.val (.ref a), .val (.int x)] [(.ref a)])) rfl (by rw [hml]; rfl) (Steps.refl _) (a := a) (argsL := []) (rest := []) (lenOf pd_0 rfl) rfl (by show 2 * 0 + _ ≤ _; exact Nat.le_of_eq rfl) (hb hby d6_1) (fun _ _ => ⟨rfl, e0, (Nat.le_of_ble_eq_true rfl), (Nat.le_of_ble_eq_true rfl)⟩)
  dsimp only [Pt.U, Pt.locs, Pt.cells, Pt.slots] at X1 l1 y1 z1 st1 hQ1
  subst l1 y1 z1
  obtain ⟨rfl, N1q, e1⟩ := hQ1
  have N1 := Fr.app N0 N1q
  refine goT (n := 4) (Ls' := #[.val (.ref a), .val (.int x)]) (st' := []) st1 ?_
  refine goS (n := 5) (Ls' := #[.val (.ref a), .val (.int x)]) (st' := [(.ref a)]) (fun _ kz => XS.aloadN X1.here hx rfl (hb hby d6_4) rfl rfl kz) ?_
  refine goS (n := 6) (Ls' := #[.val (.ref a), .val (.int x)]) (st' := [(.int x), (.ref a)]) (fun _ kz => XS.iloadN X1.here hx rfl (hb hby d6_5) rfl kz) ?_
  obtain ⟨T2, h2, X2, e2, W2, st2⟩ := putF X1 hx hZ hown (host := "") (Or.inl (hw _ (List.mem_of_getElem? (i := 48) rfl))) Via.refl e1 F_value_a E_a (Or.inr ⟨(hw _ (List.mem_of_getElem? (i := 49) rfl)), rfl, hnm⟩) (hw _ (List.mem_of_getElem? (i := 36) rfl)) (ty := .int) (v := (.int x)) (by decide) rfl rfl (g := (mkF m 6 #[.val (.ref a), .val (.int x)] [(.int x), (.ref a)])) rfl rfl (hb hby d6_6)
  have Fn2 : Fld Z h2 a "java/lang/Integer" "value" "I" (.int x) := F_value_a.same W2
  have E_a : Exa Z h2 a "java/lang/Integer" := E_a.wr W2
  have F_value_a := Fn2
  have N2 := Fr.snoc X2 N1 g_a
  have O2 := O0.wr W2 g_a
  have KK2 : Keep h0 h2 [a] := (Keep.refl h0 [a]).wr W2 (Or.inl (List.mem_of_getElem? (i := 0) rfl))
  refine goS (n := 9) (Ls' := #[.val (.ref a), .val (.int x)]) (st' := []) st2 ?_
  exact goRetV X2 hx hlk Bd.returns (hb hby d6_9) (by decide) (by decide) (by rw [e2]; exact ⟨rfl, N2, KK2, F_value_a⟩)
theorem d4_0 : decode jdk_33_method_22_code 0 = .ok (.iload_n 0, 1) := by decide +kernel
theorem d4_1 : decode jdk_33_method_22_code 1 = .ok (.bipush (-128), 2) := by decide +kernel
theorem d4_3 : decode jdk_33_method_22_code 3 = .ok (.if_icmp .lt 20, 3) := by decide +kernel
theorem d4_23 : decode jdk_33_method_22_code 23 = .ok (.new 1, 3) := by decide +kernel
theorem d4_26 : decode jdk_33_method_22_code 26 = .ok (.dup, 1) := by decide +kernel
theorem d4_27 : decode jdk_33_method_22_code 27 = .ok (.iload_n 0, 1) := by decide +kernel
theorem d4_28 : decode jdk_33_method_22_code 28 = .ok (.invokespecial 199, 3) := by decide +kernel
theorem pd_1 : parseMethodDescriptor "(I)V" = some ⟨[.int], none⟩ := by decide +kernel
theorem d4_31 : decode jdk_33_method_22_code 31 = .ok (.areturn, 1) := by decide +kernel
theorem d4_6 : decode jdk_33_method_22_code 6 = .ok (.iload_n 0, 1) := by decide +kernel
theorem d4_7 : decode jdk_33_method_22_code 7 = .ok (.getstatic 191, 3) := by decide +kernel
theorem d4_10 : decode jdk_33_method_22_code 10 = .ok (.if_icmp .gt 13, 3) := by decide +kernel
theorem d4_13 : decode jdk_33_method_22_code 13 = .ok (.getstatic 195, 3) := by decide +kernel
theorem d4_16 : decode jdk_33_method_22_code 16 = .ok (.iload_n 0, 1) := by decide +kernel
theorem d4_17 : decode jdk_33_method_22_code 17 = .ok (.sipush 128, 3) := by decide +kernel
theorem d4_20 : decode jdk_33_method_22_code 20 = .ok (.iadd, 1) := by decide +kernel
theorem d4_21 : decode jdk_33_method_22_code 21 = .ok (.aaload, 1) := by decide +kernel
theorem d4_22 : decode jdk_33_method_22_code 22 = .ok (.areturn, 1) := by decide +kernel
theorem ef_valueOf (m : MethodId) (x : Int32) : entryFrame m #[(.int x)] 1 = mkF m 0 #[.val (.int x)] [] := by first | (simp [entryFrame, mkF, argsToLocals, Value.category]; done) | rfl
abbrev R_valueOf : Room := { frames := 3, cells := 1, slots := 1, locals := 38 }
def Q_valueOf (Z : State) (x : Int32) (ca : Addr) (cl : Cell) (h0 : Heap) (n0 : Nat) (v : Option Value) (h : Heap) (L : List Loc) : Prop := ∃ a : Addr, v = some (.ref a) ∧ Fr n0 L ∧ Keep h0 h [] ∧ Exa Z h a "java/lang/Integer"
set_option maxRecDepth 65536 in
set_option maxHeartbeats 40000000 in
theorem rm_valueOf (l : Launch) (Z : State) (a0 : Array Value) (hw : ∀ d ∈ tables_1, d.before a0 Z = true) (ws : List Jvm.Cond) (x : Int32) (ca : Addr) (cl : Cell) (h0 : Heap) (n0 : Nat) (O0 : Old Z n0 h0) (S_high : Sta Z Z.heap "java/lang/Integer$IntegerCache" "high" "I" (.int (127 : Int32))) (S_cache : Sta Z Z.heap "java/lang/Integer$IntegerCache" "cache" "[Ljava/lang/Integer;" (.ref ca)) (BX : Bxs Z ca cl "java/lang/Integer" "I" (256 : Int32) (fun j => .int (j - 128))) :
    MetFree l (⟨"java/lang/Integer", "valueOf", "(I)Ljava/lang/Integer;"⟩ : MethodName) (head1 (Jvm.Cond.code (⟨"java/lang/Integer", "valueOf", "(I)Ljava/lang/Integer;"⟩ : MethodName) jdk_33_method_22_code 1 (some (.object "java/lang/Integer")) :: ws) R_valueOf) (fun as_ U => as_ = #[(.int x)] ∧ Z.Warmed39 U.vm ∧ U.heap = h0) (fun _ _ _ _ _ => True) (fun _ U o U' => ∃ v L, o = .returned v ∧ Q_valueOf Z x ca cl h0 n0 v U'.heap L ∧ FrameEnd U o U' L R_valueOf.cells R_valueOf.slots) := by
  refine MetFree.of_bodySF (plainFor_of_name pn_3) hisR ?_
  intro p e s m args below meth c s₁ Bd hml0 hP hK
  obtain ⟨rfl, hZ, hh⟩ := hP
  have hx := Bd.exec
  have hby := Bd.bytes
  have hml : c.maxLocals = 1 := hml0
  have hown : s.vm.findClass "java/lang/Integer" = some m.cls := findClass_of_methodNamed Bd.named
  have hnm := (name_of_methodNamed Bd.named Bd.method).1
  have hlk : meth.locks = false := BodyLoose.notSynchronized Bd
  have X0 : Stand p l e R_valueOf s m #[(.int x)] below meth c s₁ [] 0 0 := Stand.of_body Bd
  have e0 : s₁.heap = h0 := by rw [← hh, Bd.state]; rfl
  have N0 := Fr.nil n0
  refine enter (P := PQ s R_valueOf.cells R_valueOf.slots (Q_valueOf Z x ca cl h0 n0)) (ef_valueOf m x) ?_
  refine goS (n := 1) (Ls' := #[.val (.int x)]) (st' := [(.int x)]) (fun _ kz => XS.iloadN X0.here hx rfl (hb hby d4_0) rfl kz) ?_
  refine goS (n := 3) (Ls' := #[.val (.int x)]) (st' := [(.int (-128 : Int32)), (.int x)]) (fun _ kz => XS.bipush X0.here hx rfl (hb hby d4_1) kz) ?_
  by_cases hc1 : x < (-128 : Int32)
  · refine goS (n := 23) (Ls' := #[.val (.int x)]) (st' := []) (fun _ kz => XS.icmpYes X0.here hx rfl (pc0 := 3) (pc' := 23) rfl (hb hby d4_3) rfl (tlt hc1).1 (by decide) (by decide) kz) ?_
    obtain ⟨T2, h2, X2, e2, E2, A2, D2, -, st2⟩ := newO X0 hx hZ hown (hw _ (List.mem_of_getElem? (i := 35) rfl)) (hw _ (List.mem_of_getElem? (i := 36) rfl)) (hw _ (List.mem_of_getElem? (i := 20) rfl)) e0 (g := (mkF m 23 #[.val (.int x)] [])) rfl (hb hby d4_23) (by decide) (by decide)
    obtain ⟨b2, g2⟩ : ∃ z, z = h0.size := ⟨_, rfl⟩
    rw [← g2] at A2 D2 st2
    have g_b2 : n0 ≤ b2 := Nat.le_trans (O0.1 ▸ O0.2.1) (Nat.le_of_eq g2.symm)
    have z_b2 : h0.size ≤ b2 := Nat.le_trans (Keep.refl h0 []).1 (Nat.le_of_eq g2.symm)
    have F_value_b2 : Fld Z h2 b2 "java/lang/Integer" "value" "I" (.int (0 : Int32)) := D2 (Or.inr (hw _ (List.mem_of_getElem? (i := 49) rfl))) (ty := .int) (by decide)
    have E_b2 : Exa Z h2 b2 "java/lang/Integer" := A2
    have O2 := O0.ext E2
    have KK2 : Keep h0 h2 [] := (Keep.refl h0 []).ext E2
    refine goS (n := 26) (Ls' := #[.val (.int x)]) (st' := [(.ref b2)]) st2 ?_
    refine goS (n := 27) (Ls' := #[.val (.int x)]) (st' := [(.ref b2), (.ref b2)]) (fun _ kz => XS.dup X2.here hx rfl (hb hby d4_26) rfl rfl kz) ?_
    refine goS (n := 28) (Ls' := #[.val (.int x)]) (st' := [(.int x), (.ref b2), (.ref b2)]) (fun _ kz => XS.iloadN X2.here hx rfl (hb hby d4_27) rfl kz) ?_
    obtain ⟨_, _, ⟨T3, L3, k3, n3⟩, -, X3, ⟨Lc3, hQ3, l3, y3, z3⟩, st3⟩ := X2.specialBack hx (y := (⟨"java/lang/Integer", "<init>", "(I)V"⟩ : MethodName)) rfl hown (mvT hZ (hw _ (List.mem_of_getElem? (i := 37) rfl))) (mvT hZ (hw _ (List.mem_of_getElem? (i := 38) rfl))) (mvT hZ (hw _ (List.mem_of_getElem? (i := 40) rfl))) (by decide) (backOf (W := 1) (rm_intinit l Z a0 hw [] b2 x h2 n0 O2 E_b2 F_value_b2 g_b2) hZ (hw _ (List.mem_of_getElem? (i := 40) rfl)) (hw _ (List.mem_of_getElem? (i := 20) rfl)) (by decide) (by decide)) (g := (mkF m 28 #[.val (.int x)] [(.int x), (.ref b2), (.ref b2)])) rfl (by rw [hml]; rfl) (Steps.refl _) (a := b2) (argsL := [(.int x)]) (rest := [(.ref b2)]) (lenOf pd_1 rfl) rfl (by show 2 * 0 + _ ≤ _; exact Nat.le_of_eq rfl) (hb hby d4_28) (fun _ _ => ⟨rfl, e2, (Nat.le_of_ble_eq_true rfl), (Nat.le_of_ble_eq_true rfl)⟩)
    dsimp only [Pt.U, Pt.locs, Pt.cells, Pt.slots] at X3 l3 y3 z3 st3 hQ3
    subst l3 y3 z3
    obtain ⟨rfl, N3q, K3, Fv3⟩ := hQ3
    have N3 := Fr.app N0 N3q
    have e3 : T3.heap = T3.heap := rfl
    have O3 := O2.keep K3 (allS g_b2 all0)
    have KK3 : Keep h0 T3.heap [] := KK2.trans K3 (allS (Or.inr z_b2) all0)
    have E_b2 : Exa Z T3.heap b2 "java/lang/Integer" := E_b2.keep K3
    refine goT (n := 31) (Ls' := #[.val (.int x)]) (st' := [(.ref b2)]) st3 ?_
    exact goRetA X3 hx hlk Bd.returns rfl rfl (hb hby d4_31) (by decide) (by decide) (by rw [e3]; exact ⟨b2, rfl, N3, KK3, E_b2⟩)
  · refine goS (n := 6) (Ls' := #[.val (.int x)]) (st' := []) (fun _ kz => XS.icmpNo X0.here hx rfl (hb hby d4_3) rfl (flt hc1).1 kz) ?_
    refine goS (n := 7) (Ls' := #[.val (.int x)]) (st' := [(.int x)]) (fun _ kz => XS.iloadN X0.here hx rfl (hb hby d4_6) rfl kz) ?_
    obtain ⟨T4, X4, e4, st4⟩ := getS2 X0 hx hZ hown (host := "") (Or.inl (hw _ (List.mem_of_getElem? (i := 22) rfl))) Via.refl e0 (S_high.ext O0.2) (g := (mkF m 7 #[.val (.int x)] [(.int x)])) rfl (hb hby d4_7)
    refine goS (n := 10) (Ls' := #[.val (.int x)]) (st' := [(.int (127 : Int32)), (.int x)]) st4 ?_
    by_cases hc5 : (127 : Int32) < x
    · refine goS (n := 23) (Ls' := #[.val (.int x)]) (st' := []) (fun _ kz => XS.icmpYes X4.here hx rfl (pc0 := 10) (pc' := 23) rfl (hb hby d4_10) rfl (tlt hc5).2.2.1 (by decide) (by decide) kz) ?_
      obtain ⟨T6, h6, X6, e6, E6, A6, D6, -, st6⟩ := newO X4 hx hZ hown (hw _ (List.mem_of_getElem? (i := 35) rfl)) (hw _ (List.mem_of_getElem? (i := 36) rfl)) (hw _ (List.mem_of_getElem? (i := 20) rfl)) e4 (g := (mkF m 23 #[.val (.int x)] [])) rfl (hb hby d4_23) (by decide) (by decide)
      obtain ⟨b6, g6⟩ : ∃ z, z = h0.size := ⟨_, rfl⟩
      rw [← g6] at A6 D6 st6
      have g_b6 : n0 ≤ b6 := Nat.le_trans (O0.1 ▸ O0.2.1) (Nat.le_of_eq g6.symm)
      have z_b6 : h0.size ≤ b6 := Nat.le_trans (Keep.refl h0 []).1 (Nat.le_of_eq g6.symm)
      have F_value_b6 : Fld Z h6 b6 "java/lang/Integer" "value" "I" (.int (0 : Int32)) := D6 (Or.inr (hw _ (List.mem_of_getElem? (i := 49) rfl))) (ty := .int) (by decide)
      have E_b6 : Exa Z h6 b6 "java/lang/Integer" := A6
      have O6 := O0.ext E6
      have KK6 : Keep h0 h6 [] := (Keep.refl h0 []).ext E6
      refine goS (n := 26) (Ls' := #[.val (.int x)]) (st' := [(.ref b6)]) st6 ?_
      refine goS (n := 27) (Ls' := #[.val (.int x)]) (st' := [(.ref b6), (.ref b6)]) (fun _ kz => XS.dup X6.here hx rfl (hb hby d4_26) rfl rfl kz) ?_
      refine goS (n := 28) (Ls' := #[.val (.int x)]) (st' := [(.int x), (.ref b6), (.ref b6)]) (fun _ kz => XS.iloadN X6.here hx rfl (hb hby d4_27) rfl kz) ?_
      obtain ⟨_, _, ⟨T7, L7, k7, n7⟩, -, X7, ⟨Lc7, hQ7, l7, y7, z7⟩, st7⟩ := X6.specialBack hx (y := (⟨"java/lang/Integer", "<init>", "(I)V"⟩ : MethodName)) rfl hown (mvT hZ (hw _ (List.mem_of_getElem? (i := 37) rfl))) (mvT hZ (hw _ (List.mem_of_getElem? (i := 38) rfl))) (mvT hZ (hw _ (List.mem_of_getElem? (i := 40) rfl))) (by decide) (backOf (W := 1) (rm_intinit l Z a0 hw [] b6 x h6 n0 O6 E_b6 F_value_b6 g_b6) hZ (hw _ (List.mem_of_getElem? (i := 40) rfl)) (hw _ (List.mem_of_getElem? (i := 20) rfl)) (by decide) (by decide)) (g := (mkF m 28 #[.val (.int x)] [(.int x), (.ref b6), (.ref b6)])) rfl (by rw [hml]; rfl) (Steps.refl _) (a := b6) (argsL := [(.int x)]) (rest := [(.ref b6)]) (lenOf pd_1 rfl) rfl (by show 2 * 0 + _ ≤ _; exact Nat.le_of_eq rfl) (hb hby d4_28) (fun _ _ => ⟨rfl, e6, (Nat.le_of_ble_eq_true rfl), (Nat.le_of_ble_eq_true rfl)⟩)
      dsimp only [Pt.U, Pt.locs, Pt.cells, Pt.slots] at X7 l7 y7 z7 st7 hQ7
      subst l7 y7 z7
      obtain ⟨rfl, N7q, K7, Fv7⟩ := hQ7
      have N7 := Fr.app N0 N7q
      have e7 : T7.heap = T7.heap := rfl
      have O7 := O6.keep K7 (allS g_b6 all0)
      have KK7 : Keep h0 T7.heap [] := KK6.trans K7 (allS (Or.inr z_b6) all0)
      have E_b6 : Exa Z T7.heap b6 "java/lang/Integer" := E_b6.keep K7
      refine goT (n := 31) (Ls' := #[.val (.int x)]) (st' := [(.ref b6)]) st7 ?_
      exact goRetA X7 hx hlk Bd.returns rfl rfl (hb hby d4_31) (by decide) (by decide) (by rw [e7]; exact ⟨b6, rfl, N7, KK7, E_b6⟩)
    · refine goS (n := 13) (Ls' := #[.val (.int x)]) (st' := []) (fun _ kz => XS.icmpNo X4.here hx rfl (hb hby d4_10) rfl (flt hc5).2.2.1 kz) ?_
      obtain ⟨T8, X8, e8, st8⟩ := getS2 X4 hx hZ hown (host := "") (Or.inl (hw _ (List.mem_of_getElem? (i := 24) rfl))) Via.refl e4 (S_cache.ext O0.2) (g := (mkF m 13 #[.val (.int x)] [])) rfl (hb hby d4_13)
      refine goS (n := 16) (Ls' := #[.val (.int x)]) (st' := [(.ref ca)]) st8 ?_
      refine goS (n := 17) (Ls' := #[.val (.int x)]) (st' := [(.int x), (.ref ca)]) (fun _ kz => XS.iloadN X8.here hx rfl (hb hby d4_16) rfl kz) ?_
      refine goS (n := 20) (Ls' := #[.val (.int x)]) (st' := [(.int (128 : Int32)), (.int x), (.ref ca)]) (fun _ kz => XS.sipush X8.here hx rfl (hb hby d4_17) kz) ?_
      refine goS (n := 21) (Ls' := #[.val (.int x)]) (st' := [(.int (x + (128 : Int32))), (.ref ca)]) (fun _ kz => XS.iadd X8.here hx rfl (hb hby d4_20) rfl kz) ?_
      have hj := cacheIdx (x := x) hc1 hc5 BX.2.1
      obtain ⟨b, hb1, hb2, hb3⟩ := BX.2.2.2 (x + (128 : Int32)) hj
      refine goS (n := 22) (Ls' := #[.val (.int x)]) (st' := [(.ref b)]) (fun tz kz => X8.aaload hx (j := (x + (128 : Int32))) (v := .ref b) (by rw [e8]; exact (BX.1.ext O0.2).1) (State.isArrayOf_alike hZ.alike BX.1.2.1) rfl BX.1.2.2 hj hb1 (g := (mkF m 21 #[.val (.int x)] [(.int (x + (128 : Int32))), (.ref ca)])) rfl rfl (hb hby d4_21) tz kz) ?_
      exact goRetA X8 hx hlk Bd.returns rfl rfl (hb hby d4_22) (by decide) (by decide) (by rw [e8]; exact ⟨b, rfl, N0, Keep.refl h0 [], hb2.ext O0.2⟩)
theorem d5_0 : decode prog_31_method_2_code 0 = .ok (.aload_n 1, 1) := by decide +kernel
theorem d5_1 : decode prog_31_method_2_code 1 = .ok (.instanceof 8, 3) := by decide +kernel
theorem d5_4 : decode prog_31_method_2_code 4 = .ok (.ifCond .eq 34, 3) := by decide +kernel
theorem d5_7 : decode prog_31_method_2_code 7 = .ok (.aload_n 1, 1) := by decide +kernel
theorem d5_8 : decode prog_31_method_2_code 8 = .ok (.checkcast 8, 3) := by decide +kernel
theorem d5_11 : decode prog_31_method_2_code 11 = .ok (.astore_n 2, 1) := by decide +kernel
theorem d5_12 : decode prog_31_method_2_code 12 = .ok (.aload_n 2, 1) := by decide +kernel
theorem d5_13 : decode prog_31_method_2_code 13 = .ok (.getfield 7, 3) := by decide +kernel
theorem d5_16 : decode prog_31_method_2_code 16 = .ok (.aload_n 0, 1) := by decide +kernel
theorem d5_17 : decode prog_31_method_2_code 17 = .ok (.getfield 7, 3) := by decide +kernel
theorem d5_20 : decode prog_31_method_2_code 20 = .ok (.if_icmp .ne 18, 3) := by decide +kernel
theorem d5_23 : decode prog_31_method_2_code 23 = .ok (.aload_n 2, 1) := by decide +kernel
theorem d5_24 : decode prog_31_method_2_code 24 = .ok (.getfield 13, 3) := by decide +kernel
theorem d5_27 : decode prog_31_method_2_code 27 = .ok (.aload_n 0, 1) := by decide +kernel
theorem d5_28 : decode prog_31_method_2_code 28 = .ok (.getfield 13, 3) := by decide +kernel
theorem d5_31 : decode prog_31_method_2_code 31 = .ok (.if_icmp .ne 7, 3) := by decide +kernel
theorem d5_34 : decode prog_31_method_2_code 34 = .ok (.iconst 1, 1) := by decide +kernel
theorem d5_35 : decode prog_31_method_2_code 35 = .ok (.goto 4, 3) := by decide +kernel
theorem d5_39 : decode prog_31_method_2_code 39 = .ok (.ireturn, 1) := by decide +kernel
theorem d5_38 : decode prog_31_method_2_code 38 = .ok (.iconst 0, 1) := by decide +kernel
theorem ef_eqM (m : MethodId) (a : Addr) (b : Addr) : entryFrame m #[(.ref a), (.ref b)] 3 = mkF m 0 #[.val (.ref a), .val (.ref b), .unset] [] := by first | (simp [entryFrame, mkF, argsToLocals, Value.category]; done) | rfl
abbrev R_eqM : Room := { frames := 0, cells := 0, slots := 0, locals := 0 }
def Q_eqM (Z : State) (a : Addr) (b : Addr) (x : Int32) (y : Int32) (z : Int32) (t : Int32) (h0 : Heap) (n0 : Nat) (v : Option Value) (h : Heap) (L : List Loc) : Prop := v = some (.int (bi (z = x ∧ t = y))) ∧ Fr n0 L ∧ h = h0
set_option maxRecDepth 65536 in
set_option maxHeartbeats 40000000 in
theorem rm_eqM (l : Launch) (Z : State) (a0 : Array Value) (hw : ∀ d ∈ tables_1, d.before a0 Z = true) (ws : List Jvm.Cond) (a : Addr) (b : Addr) (x : Int32) (y : Int32) (z : Int32) (t : Int32) (h0 : Heap) (n0 : Nat) (O0 : Old Z n0 h0) (F1a : Fld Z h0 a "com/example/drain_warden/drainwarden/model/SaverRules$Memory" "stickyOn" "Z" (.int x)) (F2a : Fld Z h0 a "com/example/drain_warden/drainwarden/model/SaverRules$Memory" "snoozed" "Z" (.int y)) (F1b : Fld Z h0 b "com/example/drain_warden/drainwarden/model/SaverRules$Memory" "stickyOn" "Z" (.int z)) (F2b : Fld Z h0 b "com/example/drain_warden/drainwarden/model/SaverRules$Memory" "snoozed" "Z" (.int t)) (E_b : Exa Z h0 b "com/example/drain_warden/drainwarden/model/SaverRules$Memory") :
    MetFree l (⟨"com/example/drain_warden/drainwarden/model/SaverRules$Memory", "equals", "(Ljava/lang/Object;)Z"⟩ : MethodName) (head1 (Jvm.Cond.code (⟨"com/example/drain_warden/drainwarden/model/SaverRules$Memory", "equals", "(Ljava/lang/Object;)Z"⟩ : MethodName) prog_31_method_2_code 3 (some .boolean) :: ws) R_eqM) (fun as_ U => as_ = #[(.ref a), (.ref b)] ∧ Z.Warmed39 U.vm ∧ U.heap = h0) (fun _ _ _ _ _ => True) (fun _ U o U' => ∃ v L, o = .returned v ∧ Q_eqM Z a b x y z t h0 n0 v U'.heap L ∧ FrameEnd U o U' L R_eqM.cells R_eqM.slots) := by
  refine MetFree.of_bodySF (plainFor_of_name pn_1) hisR ?_
  intro p e s m args below meth c s₁ Bd hml0 hP hK
  obtain ⟨rfl, hZ, hh⟩ := hP
  have hx := Bd.exec
  have hby := Bd.bytes
  have hml : c.maxLocals = 3 := hml0
  have hown : s.vm.findClass "com/example/drain_warden/drainwarden/model/SaverRules$Memory" = some m.cls := findClass_of_methodNamed Bd.named
  have hnm := (name_of_methodNamed Bd.named Bd.method).1
  have hlk : meth.locks = false := BodyLoose.notSynchronized Bd
  have X0 : Stand p l e R_eqM s m #[(.ref a), (.ref b)] below meth c s₁ [] 0 0 := Stand.of_body Bd
  have e0 : s₁.heap = h0 := by rw [← hh, Bd.state]; rfl
  have N0 := Fr.nil n0
  refine enter (P := PQ s R_eqM.cells R_eqM.slots (Q_eqM Z a b x y z t h0 n0)) (ef_eqM m a b) ?_
  refine goS (n := 1) (Ls' := #[.val (.ref a), .val (.ref b), .unset]) (st' := [(.ref b)]) (fun _ kz => XS.aloadN X0.here hx rfl (hb hby d5_0) rfl rfl kz) ?_
  obtain ⟨T1, X1, e1, st1⟩ := instY X0 hx hZ hown (hw _ (List.mem_of_getElem? (i := 30) rfl)) e0 (Ins.self E_b) (g := (mkF m 1 #[.val (.ref a), .val (.ref b), .unset] [(.ref b)])) rfl rfl (hb hby d5_1)
  refine goS (n := 4) (Ls' := #[.val (.ref a), .val (.ref b), .unset]) (st' := [(.int (1 : Int32))]) st1 ?_
  refine goS (n := 7) (Ls' := #[.val (.ref a), .val (.ref b), .unset]) (st' := []) (fun _ kz => XS.ifNo X1.here hx rfl (hb hby d5_4) rfl (by decide) kz) ?_
  refine goS (n := 8) (Ls' := #[.val (.ref a), .val (.ref b), .unset]) (st' := [(.ref b)]) (fun _ kz => XS.aloadN X1.here hx rfl (hb hby d5_7) rfl rfl kz) ?_
  obtain ⟨T2, X2, e2, st2⟩ := castY X1 hx hZ hown (hw _ (List.mem_of_getElem? (i := 30) rfl)) e1 (Ins.self E_b) (g := (mkF m 8 #[.val (.ref a), .val (.ref b), .unset] [(.ref b)])) rfl rfl (hb hby d5_8)
  refine goS (n := 11) (Ls' := #[.val (.ref a), .val (.ref b), .unset]) (st' := [(.ref b)]) st2 ?_
  refine goS (n := 12) (Ls' := #[.val (.ref a), .val (.ref b), .val (.ref b)]) (st' := []) (fun _ kz => XS.astoreN X2.here hx rfl (hb hby d5_11) rfl rfl (l' := #[.val (.ref a), .val (.ref b), .val (.ref b)]) rfl kz) ?_
  refine goS (n := 13) (Ls' := #[.val (.ref a), .val (.ref b), .val (.ref b)]) (st' := [(.ref b)]) (fun _ kz => XS.aloadN X2.here hx rfl (hb hby d5_12) rfl rfl kz) ?_
  obtain ⟨T3, X3, e3, st3⟩ := getF X2 hx hZ hown (host := "") (Or.inl (hw _ (List.mem_of_getElem? (i := 14) rfl))) Via.refl e2 F1b (g := (mkF m 13 #[.val (.ref a), .val (.ref b), .val (.ref b)] [(.ref b)])) rfl rfl (hb hby d5_13)
  refine goS (n := 16) (Ls' := #[.val (.ref a), .val (.ref b), .val (.ref b)]) (st' := [(.int z)]) st3 ?_
  refine goS (n := 17) (Ls' := #[.val (.ref a), .val (.ref b), .val (.ref b)]) (st' := [(.ref a), (.int z)]) (fun _ kz => XS.aloadN X3.here hx rfl (hb hby d5_16) rfl rfl kz) ?_
  obtain ⟨T4, X4, e4, st4⟩ := getF X3 hx hZ hown (host := "") (Or.inl (hw _ (List.mem_of_getElem? (i := 14) rfl))) Via.refl e3 F1a (g := (mkF m 17 #[.val (.ref a), .val (.ref b), .val (.ref b)] [(.ref a), (.int z)])) rfl rfl (hb hby d5_17)
  refine goS (n := 20) (Ls' := #[.val (.ref a), .val (.ref b), .val (.ref b)]) (st' := [(.int x), (.int z)]) st4 ?_
  by_cases hc5 : z = x
  · refine goS (n := 23) (Ls' := #[.val (.ref a), .val (.ref b), .val (.ref b)]) (st' := []) (fun _ kz => XS.icmpNo X4.here hx rfl (hb hby d5_20) rfl (teq hc5).2 kz) ?_
    refine goS (n := 24) (Ls' := #[.val (.ref a), .val (.ref b), .val (.ref b)]) (st' := [(.ref b)]) (fun _ kz => XS.aloadN X4.here hx rfl (hb hby d5_23) rfl rfl kz) ?_
    obtain ⟨T6, X6, e6, st6⟩ := getF X4 hx hZ hown (host := "") (Or.inl (hw _ (List.mem_of_getElem? (i := 16) rfl))) Via.refl e4 F2b (g := (mkF m 24 #[.val (.ref a), .val (.ref b), .val (.ref b)] [(.ref b)])) rfl rfl (hb hby d5_24)
    refine goS (n := 27) (Ls' := #[.val (.ref a), .val (.ref b), .val (.ref b)]) (st' := [(.int t)]) st6 ?_
    refine goS (n := 28) (Ls' := #[.val (.ref a), .val (.ref b), .val (.ref b)]) (st' := [(.ref a), (.int t)]) (fun _ kz => XS.aloadN X6.here hx rfl (hb hby d5_27) rfl rfl kz) ?_
    obtain ⟨T7, X7, e7, st7⟩ := getF X6 hx hZ hown (host := "") (Or.inl (hw _ (List.mem_of_getElem? (i := 16) rfl))) Via.refl e6 F2a (g := (mkF m 28 #[.val (.ref a), .val (.ref b), .val (.ref b)] [(.ref a), (.int t)])) rfl rfl (hb hby d5_28)
    refine goS (n := 31) (Ls' := #[.val (.ref a), .val (.ref b), .val (.ref b)]) (st' := [(.int y), (.int t)]) st7 ?_
    by_cases hc8 : t = y
    · refine goS (n := 34) (Ls' := #[.val (.ref a), .val (.ref b), .val (.ref b)]) (st' := []) (fun _ kz => XS.icmpNo X7.here hx rfl (hb hby d5_31) rfl (teq hc8).2 kz) ?_
      refine goS (n := 35) (Ls' := #[.val (.ref a), .val (.ref b), .val (.ref b)]) (st' := [(.int (1 : Int32))]) (fun _ kz => XS.iconst X7.here hx rfl (hb hby d5_34) kz) ?_
      refine goS (n := 39) (Ls' := #[.val (.ref a), .val (.ref b), .val (.ref b)]) (st' := [(.int (1 : Int32))]) (fun _ kz => XS.goto X7.here hx rfl (pc0 := 35) (pc' := 39) rfl (hb hby d5_35) (by decide) (by decide) kz) ?_
      exact goRetZ X7 hx hlk Bd.returns (Or.inr rfl) (hb hby d5_39) (by decide) (by decide) (by rw [e7]; exact ⟨by simp [bi, hc5, hc8], N0, rfl⟩)
    · refine goS (n := 38) (Ls' := #[.val (.ref a), .val (.ref b), .val (.ref b)]) (st' := []) (fun _ kz => XS.icmpYes X7.here hx rfl (pc0 := 31) (pc' := 38) rfl (hb hby d5_31) rfl (feq hc8).2 (by decide) (by decide) kz) ?_
      refine goS (n := 39) (Ls' := #[.val (.ref a), .val (.ref b), .val (.ref b)]) (st' := [(.int (0 : Int32))]) (fun _ kz => XS.iconst X7.here hx rfl (hb hby d5_38) kz) ?_
      exact goRetZ X7 hx hlk Bd.returns (Or.inl rfl) (hb hby d5_39) (by decide) (by decide) (by rw [e7]; exact ⟨by simp [bi, hc5, hc8], N0, rfl⟩)
  · refine goS (n := 38) (Ls' := #[.val (.ref a), .val (.ref b), .val (.ref b)]) (st' := []) (fun _ kz => XS.icmpYes X4.here hx rfl (pc0 := 20) (pc' := 38) rfl (hb hby d5_20) rfl (feq hc5).2 (by decide) (by decide) kz) ?_
    refine goS (n := 39) (Ls' := #[.val (.ref a), .val (.ref b), .val (.ref b)]) (st' := [(.int (0 : Int32))]) (fun _ kz => XS.iconst X4.here hx rfl (hb hby d5_38) kz) ?_
    exact goRetZ X4 hx hlk Bd.returns (Or.inl rfl) (hb hby d5_39) (by decide) (by decide) (by rw [e4]; exact ⟨by simp [bi, hc5], N0, rfl⟩)
theorem ef_eqN (m : MethodId) (a : Addr) : entryFrame m #[(.ref a), .null] 3 = mkF m 0 #[.val (.ref a), .val .null, .unset] [] := by first | (simp [entryFrame, mkF, argsToLocals, Value.category]; done) | rfl
abbrev R_eqN : Room := { frames := 0, cells := 0, slots := 0, locals := 0 }
def Q_eqN (Z : State) (a : Addr) (h0 : Heap) (n0 : Nat) (v : Option Value) (h : Heap) (L : List Loc) : Prop := v = some (.int 0) ∧ Fr n0 L ∧ h = h0
set_option maxRecDepth 65536 in
set_option maxHeartbeats 40000000 in
theorem rm_eqN (l : Launch) (Z : State) (a0 : Array Value) (hw : ∀ d ∈ tables_1, d.before a0 Z = true) (ws : List Jvm.Cond) (a : Addr) (h0 : Heap) (n0 : Nat) (O0 : Old Z n0 h0) :
    MetFree l (⟨"com/example/drain_warden/drainwarden/model/SaverRules$Memory", "equals", "(Ljava/lang/Object;)Z"⟩ : MethodName) (head1 (Jvm.Cond.code (⟨"com/example/drain_warden/drainwarden/model/SaverRules$Memory", "equals", "(Ljava/lang/Object;)Z"⟩ : MethodName) prog_31_method_2_code 3 (some .boolean) :: ws) R_eqN) (fun as_ U => as_ = #[(.ref a), .null] ∧ Z.Warmed39 U.vm ∧ U.heap = h0) (fun _ _ _ _ _ => True) (fun _ U o U' => ∃ v L, o = .returned v ∧ Q_eqN Z a h0 n0 v U'.heap L ∧ FrameEnd U o U' L R_eqN.cells R_eqN.slots) := by
  refine MetFree.of_bodySF (plainFor_of_name pn_1) hisR ?_
  intro p e s m args below meth c s₁ Bd hml0 hP hK
  obtain ⟨rfl, hZ, hh⟩ := hP
  have hx := Bd.exec
  have hby := Bd.bytes
  have hml : c.maxLocals = 3 := hml0
  have hown : s.vm.findClass "com/example/drain_warden/drainwarden/model/SaverRules$Memory" = some m.cls := findClass_of_methodNamed Bd.named
  have hnm := (name_of_methodNamed Bd.named Bd.method).1
  have hlk : meth.locks = false := BodyLoose.notSynchronized Bd
  have X0 : Stand p l e R_eqN s m #[(.ref a), .null] below meth c s₁ [] 0 0 := Stand.of_body Bd
  have e0 : s₁.heap = h0 := by rw [← hh, Bd.state]; rfl
  have N0 := Fr.nil n0
  refine enter (P := PQ s R_eqN.cells R_eqN.slots (Q_eqN Z a h0 n0)) (ef_eqN m a) ?_
  refine goS (n := 1) (Ls' := #[.val (.ref a), .val .null, .unset]) (st' := [.null]) (fun _ kz => XS.aloadN X0.here hx rfl (hb hby d5_0) rfl rfl kz) ?_
  refine goS (n := 4) (Ls' := #[.val (.ref a), .val .null, .unset]) (st' := [(.int (0 : Int32))]) (fun tz kz => X0.instanceofNull hx (g := (mkF m 1 #[.val (.ref a), .val .null, .unset] [.null])) rfl rfl (hb hby d5_1) tz kz) ?_
  refine goS (n := 38) (Ls' := #[.val (.ref a), .val .null, .unset]) (st' := []) (fun _ kz => XS.ifYes X0.here hx rfl (pc0 := 4) (pc' := 38) rfl (hb hby d5_4) rfl (by decide) (by decide) (by decide) kz) ?_
  refine goS (n := 39) (Ls' := #[.val (.ref a), .val .null, .unset]) (st' := [(.int (0 : Int32))]) (fun _ kz => XS.iconst X0.here hx rfl (hb hby d5_38) kz) ?_
  exact goRetZ X0 hx hlk Bd.returns (Or.inl rfl) (hb hby d5_39) (by decide) (by decide) (by rw [e0]; exact ⟨rfl, N0, rfl⟩)
theorem ef_eqF (m : MethodId) (a : Addr) (b : Addr) : entryFrame m #[(.ref a), (.ref b)] 3 = mkF m 0 #[.val (.ref a), .val (.ref b), .unset] [] := by first | (simp [entryFrame, mkF, argsToLocals, Value.category]; done) | rfl
abbrev R_eqF : Room := { frames := 0, cells := 0, slots := 0, locals := 0 }
def Q_eqF (Z : State) (a : Addr) (b : Addr) (h0 : Heap) (n0 : Nat) (v : Option Value) (h : Heap) (L : List Loc) : Prop := v = some (.int 0) ∧ Fr n0 L ∧ h = h0
set_option maxRecDepth 65536 in
set_option maxHeartbeats 40000000 in
theorem rm_eqF (l : Launch) (Z : State) (a0 : Array Value) (hw : ∀ d ∈ tables_1, d.before a0 Z = true) (ws : List Jvm.Cond) (a : Addr) (b : Addr) (h0 : Heap) (n0 : Nat) (O0 : Old Z n0 h0) (E_b : Exa Z h0 b "java/lang/Integer") :
    MetFree l (⟨"com/example/drain_warden/drainwarden/model/SaverRules$Memory", "equals", "(Ljava/lang/Object;)Z"⟩ : MethodName) (head1 (Jvm.Cond.code (⟨"com/example/drain_warden/drainwarden/model/SaverRules$Memory", "equals", "(Ljava/lang/Object;)Z"⟩ : MethodName) prog_31_method_2_code 3 (some .boolean) :: ws) R_eqF) (fun as_ U => as_ = #[(.ref a), (.ref b)] ∧ Z.Warmed39 U.vm ∧ U.heap = h0) (fun _ _ _ _ _ => True) (fun _ U o U' => ∃ v L, o = .returned v ∧ Q_eqF Z a b h0 n0 v U'.heap L ∧ FrameEnd U o U' L R_eqF.cells R_eqF.slots) := by
  refine MetFree.of_bodySF (plainFor_of_name pn_1) hisR ?_
  intro p e s m args below meth c s₁ Bd hml0 hP hK
  obtain ⟨rfl, hZ, hh⟩ := hP
  have hx := Bd.exec
  have hby := Bd.bytes
  have hml : c.maxLocals = 3 := hml0
  have hown : s.vm.findClass "com/example/drain_warden/drainwarden/model/SaverRules$Memory" = some m.cls := findClass_of_methodNamed Bd.named
  have hnm := (name_of_methodNamed Bd.named Bd.method).1
  have hlk : meth.locks = false := BodyLoose.notSynchronized Bd
  have X0 : Stand p l e R_eqF s m #[(.ref a), (.ref b)] below meth c s₁ [] 0 0 := Stand.of_body Bd
  have e0 : s₁.heap = h0 := by rw [← hh, Bd.state]; rfl
  have N0 := Fr.nil n0
  refine enter (P := PQ s R_eqF.cells R_eqF.slots (Q_eqF Z a b h0 n0)) (ef_eqF m a b) ?_
  refine goS (n := 1) (Ls' := #[.val (.ref a), .val (.ref b), .unset]) (st' := [(.ref b)]) (fun _ kz => XS.aloadN X0.here hx rfl (hb hby d5_0) rfl rfl kz) ?_
  obtain ⟨T1, X1, e1, st1⟩ := instNo X0 hx hZ hown (hw _ (List.mem_of_getElem? (i := 30) rfl)) e0 E_b (nsNo (hw _ (List.mem_of_getElem? (i := 32) rfl)) (hw _ (List.mem_of_getElem? (i := 1) rfl)) (NS.step (hw _ (List.mem_of_getElem? (i := 32) rfl)) (NS.step (hw _ (List.mem_of_getElem? (i := 33) rfl)) (nsRoot (hw _ (List.mem_of_getElem? (i := 34) rfl)) (hw _ (List.mem_of_getElem? (i := 1) rfl)) (by decide)) (by decide)) (by decide)) (by decide)) (g := (mkF m 1 #[.val (.ref a), .val (.ref b), .unset] [(.ref b)])) rfl rfl (hb hby d5_1)
  refine goS (n := 4) (Ls' := #[.val (.ref a), .val (.ref b), .unset]) (st' := [(.int (0 : Int32))]) st1 ?_
  refine goS (n := 38) (Ls' := #[.val (.ref a), .val (.ref b), .unset]) (st' := []) (fun _ kz => XS.ifYes X1.here hx rfl (pc0 := 4) (pc' := 38) rfl (hb hby d5_4) rfl (by decide) (by decide) (by decide) kz) ?_
  refine goS (n := 39) (Ls' := #[.val (.ref a), .val (.ref b), .unset]) (st' := [(.int (0 : Int32))]) (fun _ kz => XS.iconst X1.here hx rfl (hb hby d5_38) kz) ?_
  exact goRetZ X1 hx hlk Bd.returns (Or.inl rfl) (hb hby d5_39) (by decide) (by decide) (by rw [e1]; exact ⟨rfl, N0, rfl⟩)
theorem pd_2 : parseMethodDescriptor "(ZZ)V" = some ⟨[.boolean, .boolean], none⟩ := by decide +kernel
theorem pd_3 : parseMethodDescriptor "(I)Ljava/lang/Integer;" = some ⟨[.int], some (.object "java/lang/Integer")⟩ := by decide +kernel
theorem pd_4 : parseMethodDescriptor "(Ljava/lang/Object;)Z" = some ⟨[(.object "java/lang/Object")], some .boolean⟩ := by decide +kernel
theorem pn_4 : plainName "com/example/drain_warden/drainwarden/model/MemoryEqualsPinLaw" = true := by first | (simp [plainName, overriddenIn]; done) | decide +kernel
theorem ef_law (m : MethodId) (p1 : Int32) : entryFrame m #[(.int p1)] maxLocals = mkF m 0 #[.val (.int p1), .unset, .unset, .unset, .unset, .unset, .unset, .unset, .unset, .unset, .unset, .unset, .unset, .unset] [] := by first | (simp [entryFrame, mkF, argsToLocals, Value.category, maxLocals]; done) | rfl
def Q_law (Z : State) (p1 : Int32) (ca : Addr) (cl : Cell) (h0 : Heap) (n0 : Nat) (v : Option Value) (h : Heap) (L : List Loc) : Prop := v = some (.int 1) ∧ Fr n0 L
set_option maxRecDepth 65536 in
set_option maxHeartbeats 40000000 in
theorem rm_law (l : Launch) (Z : State) (a0 : Array Value) (hw : ∀ d ∈ tables_1, d.before a0 Z = true) (ws : List Jvm.Cond) (p1 : Int32) (ca : Addr) (cl : Cell) (h0 : Heap) (n0 : Nat) (O0 : Old Z n0 h0) (S_high : Sta Z Z.heap "java/lang/Integer$IntegerCache" "high" "I" (.int (127 : Int32))) (S_cache : Sta Z Z.heap "java/lang/Integer$IntegerCache" "cache" "[Ljava/lang/Integer;" (.ref ca)) (BX : Bxs Z ca cl "java/lang/Integer" "I" (256 : Int32) (fun j => .int (j - 128))) :
    MetFree l x (head1 (Jvm.Cond.code x code maxLocals ret :: ws) room_1) (fun as_ U => as_ = #[(.int p1)] ∧ Z.Warmed39 U.vm ∧ U.heap = h0) (fun _ _ _ _ _ => True) (fun _ U o U' => ∃ v L, o = .returned v ∧ Q_law Z p1 ca cl h0 n0 v U'.heap L ∧ FrameEnd U o U' L room_1.cells room_1.slots) := by
  refine MetFree.of_bodySF (plainFor_of_name pn_4) hisR ?_
  intro p e s m args below meth c s₁ Bd hml0 hP hK
  obtain ⟨rfl, hZ, hh⟩ := hP
  have hx := Bd.exec
  have hby := Bd.bytes
  have hml : c.maxLocals = 14 := hml0
  have hown : s.vm.findClass "com/example/drain_warden/drainwarden/model/MemoryEqualsPinLaw" = some m.cls := findClass_of_methodNamed Bd.named
  have hnm := (name_of_methodNamed Bd.named Bd.method).1
  have hlk : meth.locks = false := BodyLoose.notSynchronized Bd
  have X0 : Stand p l e room_1 s m #[(.int p1)] below meth c s₁ [] 0 0 := Stand.of_body Bd
  have e0 : s₁.heap = h0 := by rw [← hh, Bd.state]; rfl
  have N0 := Fr.nil n0
  refine enter (P := PQ s room_1.cells room_1.slots (Q_law Z p1 ca cl h0 n0)) (ef_law m p1) ?_
  refine goS (n := 1) (Ls' := #[.val (.int p1), .unset, .unset, .unset, .unset, .unset, .unset, .unset, .unset, .unset, .unset, .unset, .unset, .unset]) (st' := [(.int p1)]) (fun _ kz => XS.iloadN X0.here hx rfl (hb hby at_0) rfl kz) ?_
  refine goS (n := 2) (Ls' := #[.val (.int p1), .unset, .unset, .unset, .unset, .unset, .unset, .unset, .unset, .unset, .unset, .unset, .unset, .unset]) (st' := [(.int (1 : Int32)), (.int p1)]) (fun _ kz => XS.iconst X0.here hx rfl (hb hby at_1) kz) ?_
  refine goS (n := 3) (Ls' := #[.val (.int p1), .unset, .unset, .unset, .unset, .unset, .unset, .unset, .unset, .unset, .unset, .unset, .unset, .unset]) (st' := [(.int (p1 &&& (1 : Int32)))]) (fun _ kz => XS.iand X0.here hx rfl (hb hby at_2) rfl kz) ?_
  have jn1 : ∀ r1 : Int32, r1 = bi (¬ ((p1 &&& (1 : Int32)) = (0 : Int32))) → Go p e below (PQ s room_1.cells room_1.slots (Q_law Z p1 ca cl h0 n0)) s₁ (mkF m 11 #[.val (.int p1), .unset, .unset, .unset, .unset, .unset, .unset, .unset, .unset, .unset, .unset, .unset, .unset, .unset] [(.int r1)]) := by
    intro r1 h_r1
    refine goS (n := 12) (Ls' := #[.val (.int p1), .val (.int r1), .unset, .unset, .unset, .unset, .unset, .unset, .unset, .unset, .unset, .unset, .unset, .unset]) (st' := []) (fun _ kz => XS.istoreN X0.here hx rfl (hb hby at_11) rfl (l' := #[.val (.int p1), .val (.int r1), .unset, .unset, .unset, .unset, .unset, .unset, .unset, .unset, .unset, .unset, .unset, .unset]) rfl kz) ?_
    refine goS (n := 13) (Ls' := #[.val (.int p1), .val (.int r1), .unset, .unset, .unset, .unset, .unset, .unset, .unset, .unset, .unset, .unset, .unset, .unset]) (st' := [(.int p1)]) (fun _ kz => XS.iloadN X0.here hx rfl (hb hby at_12) rfl kz) ?_
    refine goS (n := 14) (Ls' := #[.val (.int p1), .val (.int r1), .unset, .unset, .unset, .unset, .unset, .unset, .unset, .unset, .unset, .unset, .unset, .unset]) (st' := [(.int (2 : Int32)), (.int p1)]) (fun _ kz => XS.iconst X0.here hx rfl (hb hby at_13) kz) ?_
    refine goS (n := 15) (Ls' := #[.val (.int p1), .val (.int r1), .unset, .unset, .unset, .unset, .unset, .unset, .unset, .unset, .unset, .unset, .unset, .unset]) (st' := [(.int (p1 &&& (2 : Int32)))]) (fun _ kz => XS.iand X0.here hx rfl (hb hby at_14) rfl kz) ?_
    have jn2 : ∀ r2 : Int32, r2 = bi (¬ ((p1 &&& (2 : Int32)) = (0 : Int32))) → Go p e below (PQ s room_1.cells room_1.slots (Q_law Z p1 ca cl h0 n0)) s₁ (mkF m 23 #[.val (.int p1), .val (.int r1), .unset, .unset, .unset, .unset, .unset, .unset, .unset, .unset, .unset, .unset, .unset, .unset] [(.int r2)]) := by
      intro r2 h_r2
      refine goS (n := 24) (Ls' := #[.val (.int p1), .val (.int r1), .val (.int r2), .unset, .unset, .unset, .unset, .unset, .unset, .unset, .unset, .unset, .unset, .unset]) (st' := []) (fun _ kz => XS.istoreN X0.here hx rfl (hb hby at_23) rfl (l' := #[.val (.int p1), .val (.int r1), .val (.int r2), .unset, .unset, .unset, .unset, .unset, .unset, .unset, .unset, .unset, .unset, .unset]) rfl kz) ?_
      refine goS (n := 25) (Ls' := #[.val (.int p1), .val (.int r1), .val (.int r2), .unset, .unset, .unset, .unset, .unset, .unset, .unset, .unset, .unset, .unset, .unset]) (st' := [(.int p1)]) (fun _ kz => XS.iloadN X0.here hx rfl (hb hby at_24) rfl kz) ?_
      refine goS (n := 26) (Ls' := #[.val (.int p1), .val (.int r1), .val (.int r2), .unset, .unset, .unset, .unset, .unset, .unset, .unset, .unset, .unset, .unset, .unset]) (st' := [(.int (4 : Int32)), (.int p1)]) (fun _ kz => XS.iconst X0.here hx rfl (hb hby at_25) kz) ?_
      refine goS (n := 27) (Ls' := #[.val (.int p1), .val (.int r1), .val (.int r2), .unset, .unset, .unset, .unset, .unset, .unset, .unset, .unset, .unset, .unset, .unset]) (st' := [(.int (p1 &&& (4 : Int32)))]) (fun _ kz => XS.iand X0.here hx rfl (hb hby at_26) rfl kz) ?_
      have jn3 : ∀ r3 : Int32, r3 = bi (¬ ((p1 &&& (4 : Int32)) = (0 : Int32))) → Go p e below (PQ s room_1.cells room_1.slots (Q_law Z p1 ca cl h0 n0)) s₁ (mkF m 35 #[.val (.int p1), .val (.int r1), .val (.int r2), .unset, .unset, .unset, .unset, .unset, .unset, .unset, .unset, .unset, .unset, .unset] [(.int r3)]) := by
        intro r3 h_r3
        refine goS (n := 36) (Ls' := #[.val (.int p1), .val (.int r1), .val (.int r2), .val (.int r3), .unset, .unset, .unset, .unset, .unset, .unset, .unset, .unset, .unset, .unset]) (st' := []) (fun _ kz => XS.istoreN X0.here hx rfl (hb hby at_35) rfl (l' := #[.val (.int p1), .val (.int r1), .val (.int r2), .val (.int r3), .unset, .unset, .unset, .unset, .unset, .unset, .unset, .unset, .unset, .unset]) rfl kz) ?_
        refine goS (n := 37) (Ls' := #[.val (.int p1), .val (.int r1), .val (.int r2), .val (.int r3), .unset, .unset, .unset, .unset, .unset, .unset, .unset, .unset, .unset, .unset]) (st' := [(.int p1)]) (fun _ kz => XS.iloadN X0.here hx rfl (hb hby at_36) rfl kz) ?_
        refine goS (n := 39) (Ls' := #[.val (.int p1), .val (.int r1), .val (.int r2), .val (.int r3), .unset, .unset, .unset, .unset, .unset, .unset, .unset, .unset, .unset, .unset]) (st' := [(.int (8 : Int32)), (.int p1)]) (fun _ kz => XS.bipush X0.here hx rfl (hb hby at_37) kz) ?_
        refine goS (n := 40) (Ls' := #[.val (.int p1), .val (.int r1), .val (.int r2), .val (.int r3), .unset, .unset, .unset, .unset, .unset, .unset, .unset, .unset, .unset, .unset]) (st' := [(.int (p1 &&& (8 : Int32)))]) (fun _ kz => XS.iand X0.here hx rfl (hb hby at_39) rfl kz) ?_
        have jn4 : ∀ r4 : Int32, r4 = bi (¬ ((p1 &&& (8 : Int32)) = (0 : Int32))) → Go p e below (PQ s room_1.cells room_1.slots (Q_law Z p1 ca cl h0 n0)) s₁ (mkF m 48 #[.val (.int p1), .val (.int r1), .val (.int r2), .val (.int r3), .unset, .unset, .unset, .unset, .unset, .unset, .unset, .unset, .unset, .unset] [(.int r4)]) := by
          intro r4 h_r4
          refine goS (n := 50) (Ls' := #[.val (.int p1), .val (.int r1), .val (.int r2), .val (.int r3), .val (.int r4), .unset, .unset, .unset, .unset, .unset, .unset, .unset, .unset, .unset]) (st' := []) (fun _ kz => XS.istore X0.here hx rfl (hb hby at_48) rfl (l' := #[.val (.int p1), .val (.int r1), .val (.int r2), .val (.int r3), .val (.int r4), .unset, .unset, .unset, .unset, .unset, .unset, .unset, .unset, .unset]) rfl kz) ?_
          obtain ⟨T5, h5, X5, e5, E5, A5, D5, -, st5⟩ := newO X0 hx hZ hown (hw _ (List.mem_of_getElem? (i := 0) rfl)) (hw _ (List.mem_of_getElem? (i := 1) rfl)) (hw _ (List.mem_of_getElem? (i := 2) rfl)) e0 (g := (mkF m 50 #[.val (.int p1), .val (.int r1), .val (.int r2), .val (.int r3), .val (.int r4), .unset, .unset, .unset, .unset, .unset, .unset, .unset, .unset, .unset] [])) rfl (hb hby at_50) (by decide) (by decide)
          obtain ⟨b5, g5⟩ : ∃ z, z = h0.size := ⟨_, rfl⟩
          rw [← g5] at A5 D5 st5
          have g_b5 : n0 ≤ b5 := Nat.le_trans (O0.1 ▸ O0.2.1) (Nat.le_of_eq g5.symm)
          have F_stickyOn_b5 : Fld Z h5 b5 "com/example/drain_warden/drainwarden/model/SaverRules$Memory" "stickyOn" "Z" (.int (0 : Int32)) := D5 (Or.inr (hw _ (List.mem_of_getElem? (i := 15) rfl))) (ty := .boolean) (by decide)
          have F_snoozed_b5 : Fld Z h5 b5 "com/example/drain_warden/drainwarden/model/SaverRules$Memory" "snoozed" "Z" (.int (0 : Int32)) := D5 (Or.inr (hw _ (List.mem_of_getElem? (i := 17) rfl))) (ty := .boolean) (by decide)
          have E_b5 : Exa Z h5 b5 "com/example/drain_warden/drainwarden/model/SaverRules$Memory" := A5
          have O5 := O0.ext E5
          refine goS (n := 53) (Ls' := #[.val (.int p1), .val (.int r1), .val (.int r2), .val (.int r3), .val (.int r4), .unset, .unset, .unset, .unset, .unset, .unset, .unset, .unset, .unset]) (st' := [(.ref b5)]) st5 ?_
          refine goS (n := 54) (Ls' := #[.val (.int p1), .val (.int r1), .val (.int r2), .val (.int r3), .val (.int r4), .unset, .unset, .unset, .unset, .unset, .unset, .unset, .unset, .unset]) (st' := [(.ref b5), (.ref b5)]) (fun _ kz => XS.dup X5.here hx rfl (hb hby at_53) rfl rfl kz) ?_
          refine goS (n := 55) (Ls' := #[.val (.int p1), .val (.int r1), .val (.int r2), .val (.int r3), .val (.int r4), .unset, .unset, .unset, .unset, .unset, .unset, .unset, .unset, .unset]) (st' := [(.int r1), (.ref b5), (.ref b5)]) (fun _ kz => XS.iloadN X5.here hx rfl (hb hby at_54) rfl kz) ?_
          refine goS (n := 56) (Ls' := #[.val (.int p1), .val (.int r1), .val (.int r2), .val (.int r3), .val (.int r4), .unset, .unset, .unset, .unset, .unset, .unset, .unset, .unset, .unset]) (st' := [(.int r2), (.int r1), (.ref b5), (.ref b5)]) (fun _ kz => XS.iloadN X5.here hx rfl (hb hby at_55) rfl kz) ?_
          obtain ⟨_, _, ⟨T6, L6, k6, n6⟩, -, X6, ⟨Lc6, hQ6, l6, y6, z6⟩, st6⟩ := X5.specialBack hx (y := (⟨"com/example/drain_warden/drainwarden/model/SaverRules$Memory", "<init>", "(ZZ)V"⟩ : MethodName)) rfl hown (mvT hZ (hw _ (List.mem_of_getElem? (i := 3) rfl))) (mvT hZ (hw _ (List.mem_of_getElem? (i := 4) rfl))) (mvT hZ (hw _ (List.mem_of_getElem? (i := 5) rfl))) (by decide) (backOf (W := 1) (rm_init l Z a0 hw [] b5 r1 r2 h5 n0 O5 (by rw [h_r1]; exact bi01 _) (by rw [h_r2]; exact bi01 _) E_b5 F_stickyOn_b5 F_snoozed_b5 g_b5) hZ (hw _ (List.mem_of_getElem? (i := 5) rfl)) (hw _ (List.mem_of_getElem? (i := 2) rfl)) (by decide) (by decide)) (g := (mkF m 56 #[.val (.int p1), .val (.int r1), .val (.int r2), .val (.int r3), .val (.int r4), .unset, .unset, .unset, .unset, .unset, .unset, .unset, .unset, .unset] [(.int r2), (.int r1), (.ref b5), (.ref b5)])) rfl (by rw [hml]; rfl) (Steps.refl _) (a := b5) (argsL := [(.int r1), (.int r2)]) (rest := [(.ref b5)]) (lenOf pd_2 rfl) rfl (by show 2 * 0 + _ ≤ _; exact Nat.le_of_eq rfl) (hb hby at_56) (fun _ _ => ⟨rfl, e5, (Nat.le_of_ble_eq_true rfl), (Nat.le_of_ble_eq_true rfl)⟩)
          dsimp only [Pt.U, Pt.locs, Pt.cells, Pt.slots] at X6 l6 y6 z6 st6 hQ6
          subst l6 y6 z6
          obtain ⟨rfl, N6q, K6, F_stickyOn_b5, F_snoozed_b5⟩ := hQ6
          have N6 := Fr.app N0 N6q
          have e6 : T6.heap = T6.heap := rfl
          have O6 := O5.keep K6 (allS g_b5 all0)
          have E_b5 : Exa Z T6.heap b5 "com/example/drain_warden/drainwarden/model/SaverRules$Memory" := E_b5.keep K6
          refine goT (n := 59) (Ls' := #[.val (.int p1), .val (.int r1), .val (.int r2), .val (.int r3), .val (.int r4), .unset, .unset, .unset, .unset, .unset, .unset, .unset, .unset, .unset]) (st' := [(.ref b5)]) st6 ?_
          refine goS (n := 61) (Ls' := #[.val (.int p1), .val (.int r1), .val (.int r2), .val (.int r3), .val (.int r4), .val (.ref b5), .unset, .unset, .unset, .unset, .unset, .unset, .unset, .unset]) (st' := []) (fun _ kz => XS.astore X6.here hx rfl (hb hby at_59) rfl rfl (l' := #[.val (.int p1), .val (.int r1), .val (.int r2), .val (.int r3), .val (.int r4), .val (.ref b5), .unset, .unset, .unset, .unset, .unset, .unset, .unset, .unset]) rfl kz) ?_
          obtain ⟨T7, h7, X7, e7, E7, A7, D7, -, st7⟩ := newO X6 hx hZ hown (hw _ (List.mem_of_getElem? (i := 0) rfl)) (hw _ (List.mem_of_getElem? (i := 1) rfl)) (hw _ (List.mem_of_getElem? (i := 2) rfl)) e6 (g := (mkF m 61 #[.val (.int p1), .val (.int r1), .val (.int r2), .val (.int r3), .val (.int r4), .val (.ref b5), .unset, .unset, .unset, .unset, .unset, .unset, .unset, .unset] [])) rfl (hb hby at_61) (by decide) (by decide)
          obtain ⟨b7, g7⟩ : ∃ z, z = T6.heap.size := ⟨_, rfl⟩
          rw [← g7] at A7 D7 st7
          have g_b7 : n0 ≤ b7 := Nat.le_trans (O6.1 ▸ O6.2.1) (Nat.le_of_eq g7.symm)
          have ne_b5_b7 : b5 ≠ b7 := Nat.ne_of_lt (Nat.lt_of_lt_of_le E_b5.lt (Nat.le_of_eq g7.symm))
          have E_b5 : Exa Z h7 b5 "com/example/drain_warden/drainwarden/model/SaverRules$Memory" := E_b5.ext E7
          have F_stickyOn_b5 : Fld Z h7 b5 "com/example/drain_warden/drainwarden/model/SaverRules$Memory" "stickyOn" "Z" (.int r1) := F_stickyOn_b5.ext E7
          have F_snoozed_b5 : Fld Z h7 b5 "com/example/drain_warden/drainwarden/model/SaverRules$Memory" "snoozed" "Z" (.int r2) := F_snoozed_b5.ext E7
          have F_stickyOn_b7 : Fld Z h7 b7 "com/example/drain_warden/drainwarden/model/SaverRules$Memory" "stickyOn" "Z" (.int (0 : Int32)) := D7 (Or.inr (hw _ (List.mem_of_getElem? (i := 15) rfl))) (ty := .boolean) (by decide)
          have F_snoozed_b7 : Fld Z h7 b7 "com/example/drain_warden/drainwarden/model/SaverRules$Memory" "snoozed" "Z" (.int (0 : Int32)) := D7 (Or.inr (hw _ (List.mem_of_getElem? (i := 17) rfl))) (ty := .boolean) (by decide)
          have E_b7 : Exa Z h7 b7 "com/example/drain_warden/drainwarden/model/SaverRules$Memory" := A7
          have O7 := O6.ext E7
          refine goS (n := 64) (Ls' := #[.val (.int p1), .val (.int r1), .val (.int r2), .val (.int r3), .val (.int r4), .val (.ref b5), .unset, .unset, .unset, .unset, .unset, .unset, .unset, .unset]) (st' := [(.ref b7)]) st7 ?_
          refine goS (n := 65) (Ls' := #[.val (.int p1), .val (.int r1), .val (.int r2), .val (.int r3), .val (.int r4), .val (.ref b5), .unset, .unset, .unset, .unset, .unset, .unset, .unset, .unset]) (st' := [(.ref b7), (.ref b7)]) (fun _ kz => XS.dup X7.here hx rfl (hb hby at_64) rfl rfl kz) ?_
          refine goS (n := 66) (Ls' := #[.val (.int p1), .val (.int r1), .val (.int r2), .val (.int r3), .val (.int r4), .val (.ref b5), .unset, .unset, .unset, .unset, .unset, .unset, .unset, .unset]) (st' := [(.int r3), (.ref b7), (.ref b7)]) (fun _ kz => XS.iloadN X7.here hx rfl (hb hby at_65) rfl kz) ?_
          refine goS (n := 68) (Ls' := #[.val (.int p1), .val (.int r1), .val (.int r2), .val (.int r3), .val (.int r4), .val (.ref b5), .unset, .unset, .unset, .unset, .unset, .unset, .unset, .unset]) (st' := [(.int r4), (.int r3), (.ref b7), (.ref b7)]) (fun _ kz => XS.iload X7.here hx rfl (hb hby at_66) rfl kz) ?_
          obtain ⟨_, _, ⟨T8, L8, k8, n8⟩, -, X8, ⟨Lc8, hQ8, l8, y8, z8⟩, st8⟩ := X7.specialBack hx (y := (⟨"com/example/drain_warden/drainwarden/model/SaverRules$Memory", "<init>", "(ZZ)V"⟩ : MethodName)) rfl hown (mvT hZ (hw _ (List.mem_of_getElem? (i := 3) rfl))) (mvT hZ (hw _ (List.mem_of_getElem? (i := 4) rfl))) (mvT hZ (hw _ (List.mem_of_getElem? (i := 5) rfl))) (by decide) (backOf (W := 1) (rm_init l Z a0 hw [] b7 r3 r4 h7 n0 O7 (by rw [h_r3]; exact bi01 _) (by rw [h_r4]; exact bi01 _) E_b7 F_stickyOn_b7 F_snoozed_b7 g_b7) hZ (hw _ (List.mem_of_getElem? (i := 5) rfl)) (hw _ (List.mem_of_getElem? (i := 2) rfl)) (by decide) (by decide)) (g := (mkF m 68 #[.val (.int p1), .val (.int r1), .val (.int r2), .val (.int r3), .val (.int r4), .val (.ref b5), .unset, .unset, .unset, .unset, .unset, .unset, .unset, .unset] [(.int r4), (.int r3), (.ref b7), (.ref b7)])) rfl (by rw [hml]; rfl) (Steps.refl _) (a := b7) (argsL := [(.int r3), (.int r4)]) (rest := [(.ref b7)]) (lenOf pd_2 rfl) rfl (by show 2 * 0 + _ ≤ _; exact Nat.le_of_eq rfl) (hb hby at_68) (fun _ _ => ⟨rfl, e7, (Nat.le_of_ble_eq_true rfl), (Nat.le_of_ble_eq_true rfl)⟩)
          dsimp only [Pt.U, Pt.locs, Pt.cells, Pt.slots] at X8 l8 y8 z8 st8 hQ8
          subst l8 y8 z8
          obtain ⟨rfl, N8q, K8, F_stickyOn_b7, F_snoozed_b7⟩ := hQ8
          have N8 := Fr.app N6 N8q
          have e8 : T8.heap = T8.heap := rfl
          have O8 := O7.keep K8 (allS g_b7 all0)
          have E_b5 : Exa Z T8.heap b5 "com/example/drain_warden/drainwarden/model/SaverRules$Memory" := E_b5.keep K8
          have F_stickyOn_b5 : Fld Z T8.heap b5 "com/example/drain_warden/drainwarden/model/SaverRules$Memory" "stickyOn" "Z" (.int r1) := F_stickyOn_b5.keep K8 (ninS ne_b5_b7 nin0)
          have F_snoozed_b5 : Fld Z T8.heap b5 "com/example/drain_warden/drainwarden/model/SaverRules$Memory" "snoozed" "Z" (.int r2) := F_snoozed_b5.keep K8 (ninS ne_b5_b7 nin0)
          have E_b7 : Exa Z T8.heap b7 "com/example/drain_warden/drainwarden/model/SaverRules$Memory" := E_b7.keep K8
          refine goT (n := 71) (Ls' := #[.val (.int p1), .val (.int r1), .val (.int r2), .val (.int r3), .val (.int r4), .val (.ref b5), .unset, .unset, .unset, .unset, .unset, .unset, .unset, .unset]) (st' := [(.ref b7)]) st8 ?_
          refine goS (n := 73) (Ls' := #[.val (.int p1), .val (.int r1), .val (.int r2), .val (.int r3), .val (.int r4), .val (.ref b5), .val (.ref b7), .unset, .unset, .unset, .unset, .unset, .unset, .unset]) (st' := []) (fun _ kz => XS.astore X8.here hx rfl (hb hby at_71) rfl rfl (l' := #[.val (.int p1), .val (.int r1), .val (.int r2), .val (.int r3), .val (.int r4), .val (.ref b5), .val (.ref b7), .unset, .unset, .unset, .unset, .unset, .unset, .unset]) rfl kz) ?_
          refine goS (n := 74) (Ls' := #[.val (.int p1), .val (.int r1), .val (.int r2), .val (.int r3), .val (.int r4), .val (.ref b5), .val (.ref b7), .unset, .unset, .unset, .unset, .unset, .unset, .unset]) (st' := [(.int p1)]) (fun _ kz => XS.iloadN X8.here hx rfl (hb hby at_73) rfl kz) ?_
          obtain ⟨_, _, ⟨T9, L9, k9, n9⟩, -, X9, ⟨Lc9, hQ9, l9, y9, z9⟩, st9⟩ := Jvm.LawKit.callS X8 hx (y := (⟨"java/lang/Integer", "valueOf", "(I)Ljava/lang/Integer;"⟩ : MethodName)) hown (mvT hZ (hw _ (List.mem_of_getElem? (i := 18) rfl))) (mvT hZ (hw _ (List.mem_of_getElem? (i := 19) rfl))) (mvT hZ (hw _ (List.mem_of_getElem? (i := 20) rfl))) (mvT hZ (hw _ (List.mem_of_getElem? (i := 21) rfl))) (by decide) (backOf (W := 0) (rm_valueOf l Z a0 hw [] p1 ca cl T8.heap n0 O8 S_high S_cache BX) hZ (hw _ (List.mem_of_getElem? (i := 21) rfl)) (hw _ (List.mem_of_getElem? (i := 20) rfl)) (by decide) (by decide)) (g := (mkF m 74 #[.val (.int p1), .val (.int r1), .val (.int r2), .val (.int r3), .val (.int r4), .val (.ref b5), .val (.ref b7), .unset, .unset, .unset, .unset, .unset, .unset, .unset] [(.int p1)])) rfl (by rw [hml]; rfl) (argsL := [(.int p1)]) (rest := []) (lenOf pd_3 rfl) rfl (by show 2 * 0 + _ ≤ _; exact Nat.le_of_eq rfl) (hb hby at_74) (fun _ _ => ⟨rfl, e8, (Nat.le_of_ble_eq_true rfl), (Nat.le_of_ble_eq_true rfl)⟩)
          dsimp only [Pt.U, Pt.locs, Pt.cells, Pt.slots] at X9 l9 y9 z9 st9 hQ9
          subst l9 y9 z9
          obtain ⟨a9, rfl, N9q, K9, E_a9⟩ := hQ9
          have N9 := Fr.app N8 N9q
          have e9 : T9.heap = T9.heap := rfl
          have O9 := O8.keep K9 all0
          have E_b5 : Exa Z T9.heap b5 "com/example/drain_warden/drainwarden/model/SaverRules$Memory" := E_b5.keep K9
          have F_stickyOn_b5 : Fld Z T9.heap b5 "com/example/drain_warden/drainwarden/model/SaverRules$Memory" "stickyOn" "Z" (.int r1) := F_stickyOn_b5.keep K9 nin0
          have F_snoozed_b5 : Fld Z T9.heap b5 "com/example/drain_warden/drainwarden/model/SaverRules$Memory" "snoozed" "Z" (.int r2) := F_snoozed_b5.keep K9 nin0
          have E_b7 : Exa Z T9.heap b7 "com/example/drain_warden/drainwarden/model/SaverRules$Memory" := E_b7.keep K9
          have F_stickyOn_b7 : Fld Z T9.heap b7 "com/example/drain_warden/drainwarden/model/SaverRules$Memory" "stickyOn" "Z" (.int r3) := F_stickyOn_b7.keep K9 nin0
          have F_snoozed_b7 : Fld Z T9.heap b7 "com/example/drain_warden/drainwarden/model/SaverRules$Memory" "snoozed" "Z" (.int r4) := F_snoozed_b7.keep K9 nin0
          refine goS (n := 77) (Ls' := #[.val (.int p1), .val (.int r1), .val (.int r2), .val (.int r3), .val (.int r4), .val (.ref b5), .val (.ref b7), .unset, .unset, .unset, .unset, .unset, .unset, .unset]) (st' := [(.ref a9)]) st9 ?_
          refine goS (n := 79) (Ls' := #[.val (.int p1), .val (.int r1), .val (.int r2), .val (.int r3), .val (.int r4), .val (.ref b5), .val (.ref b7), .val (.ref a9), .unset, .unset, .unset, .unset, .unset, .unset]) (st' := []) (fun _ kz => XS.astore X9.here hx rfl (hb hby at_77) rfl rfl (l' := #[.val (.int p1), .val (.int r1), .val (.int r2), .val (.int r3), .val (.int r4), .val (.ref b5), .val (.ref b7), .val (.ref a9), .unset, .unset, .unset, .unset, .unset, .unset]) rfl kz) ?_
          refine goS (n := 80) (Ls' := #[.val (.int p1), .val (.int r1), .val (.int r2), .val (.int r3), .val (.int r4), .val (.ref b5), .val (.ref b7), .val (.ref a9), .unset, .unset, .unset, .unset, .unset, .unset]) (st' := [(.int r1)]) (fun _ kz => XS.iloadN X9.here hx rfl (hb hby at_79) rfl kz) ?_
          refine goS (n := 81) (Ls' := #[.val (.int p1), .val (.int r1), .val (.int r2), .val (.int r3), .val (.int r4), .val (.ref b5), .val (.ref b7), .val (.ref a9), .unset, .unset, .unset, .unset, .unset, .unset]) (st' := [(.int r3), (.int r1)]) (fun _ kz => XS.iloadN X9.here hx rfl (hb hby at_80) rfl kz) ?_
          have jn10 : ∀ re : Int32, re = bi (r1 = r3 ∧ r2 = r4) → Go p e below (PQ s room_1.cells room_1.slots (Q_law Z p1 ca cl h0 n0)) T9 (mkF m 95 #[.val (.int p1), .val (.int r1), .val (.int r2), .val (.int r3), .val (.int r4), .val (.ref b5), .val (.ref b7), .val (.ref a9), .unset, .unset, .unset, .unset, .unset, .unset] [(.int re)]) := by
            intro re h_re
            refine goS (n := 97) (Ls' := #[.val (.int p1), .val (.int r1), .val (.int r2), .val (.int r3), .val (.int r4), .val (.ref b5), .val (.ref b7), .val (.ref a9), .val (.int re), .unset, .unset, .unset, .unset, .unset]) (st' := []) (fun _ kz => XS.istore X9.here hx rfl (hb hby at_95) rfl (l' := #[.val (.int p1), .val (.int r1), .val (.int r2), .val (.int r3), .val (.int r4), .val (.ref b5), .val (.ref b7), .val (.ref a9), .val (.int re), .unset, .unset, .unset, .unset, .unset]) rfl kz) ?_
            refine goS (n := 99) (Ls' := #[.val (.int p1), .val (.int r1), .val (.int r2), .val (.int r3), .val (.int r4), .val (.ref b5), .val (.ref b7), .val (.ref a9), .val (.int re), .unset, .unset, .unset, .unset, .unset]) (st' := [(.ref b5)]) (fun _ kz => XS.aload X9.here hx rfl (hb hby at_97) rfl rfl kz) ?_
            refine goS (n := 101) (Ls' := #[.val (.int p1), .val (.int r1), .val (.int r2), .val (.int r3), .val (.int r4), .val (.ref b5), .val (.ref b7), .val (.ref a9), .val (.int re), .unset, .unset, .unset, .unset, .unset]) (st' := [(.ref b7), (.ref b5)]) (fun _ kz => XS.aload X9.here hx rfl (hb hby at_99) rfl rfl kz) ?_
            obtain ⟨cq11, kq11, q11a, q11b, q11c⟩ := isOf hZ e9 E_b5
            obtain ⟨_, _, ⟨T11, L11, k11, n11⟩, -, X11, ⟨Lc11, hQ11, l11, y11, z11⟩, st11⟩ := X9.virtualBack hx (y := (⟨"com/example/drain_warden/drainwarden/model/SaverRules$Memory", "equals", "(Ljava/lang/Object;)Z"⟩ : MethodName)) (z := (⟨"com/example/drain_warden/drainwarden/model/SaverRules$Memory", "equals", "(Ljava/lang/Object;)Z"⟩ : MethodName)) hown (mvT hZ (hw _ (List.mem_of_getElem? (i := 25) rfl))) (mvT hZ (hw _ (List.mem_of_getElem? (i := 26) rfl))) (notFace_of_selects (args := #[]) (mvT hZ (hw _ (List.mem_of_getElem? (i := 28) rfl)))) (mvT hZ (hw _ (List.mem_of_getElem? (i := 28) rfl))) (mvT hZ (hw _ (List.mem_of_getElem? (i := 27) rfl))) (by decide) (backOf (W := 0) (rm_eqM l Z a0 hw [] b5 b7 r1 r2 r3 r4 T9.heap n0 O9 F_stickyOn_b5 F_snoozed_b5 F_stickyOn_b7 F_snoozed_b7 E_b7) hZ (hw _ (List.mem_of_getElem? (i := 29) rfl)) (hw _ (List.mem_of_getElem? (i := 2) rfl)) (by decide) (by decide)) q11a q11c (g := (mkF m 101 #[.val (.int p1), .val (.int r1), .val (.int r2), .val (.int r3), .val (.int r4), .val (.ref b5), .val (.ref b7), .val (.ref a9), .val (.int re), .unset, .unset, .unset, .unset, .unset] [(.ref b7), (.ref b5)])) rfl (by rw [hml]; rfl) (Steps.refl _) (argsL := [(.ref b7)]) (rest := []) (lenOf pd_4 rfl) rfl (by show 2 * 0 + _ ≤ _; exact Nat.le_of_eq rfl) (hb hby at_101) (fun _ _ => ⟨rfl, e9, (Nat.le_of_ble_eq_true rfl), (Nat.le_of_ble_eq_true rfl)⟩)
            dsimp only [Pt.U, Pt.locs, Pt.cells, Pt.slots] at X11 l11 y11 z11 st11 hQ11
            subst l11 y11 z11
            obtain ⟨v11, N11q, e11⟩ := hQ11
            obtain ⟨ab, qab⟩ : ∃ r, r = bi (r3 = r1 ∧ r4 = r2) := ⟨_, rfl⟩
            rw [← qab] at v11
            subst v11
            have hab : ab = re := by rw [qab, h_re]; exact bi_iff ⟨fun q => ⟨q.1.symm, q.2.symm⟩, fun q => ⟨q.1.symm, q.2.symm⟩⟩
            have N11 := Fr.app N9 N11q
            refine goT (n := 104) (Ls' := #[.val (.int p1), .val (.int r1), .val (.int r2), .val (.int r3), .val (.int r4), .val (.ref b5), .val (.ref b7), .val (.ref a9), .val (.int re), .unset, .unset, .unset, .unset, .unset]) (st' := [(.int ab)]) st11 ?_
            refine goS (n := 106) (Ls' := #[.val (.int p1), .val (.int r1), .val (.int r2), .val (.int r3), .val (.int r4), .val (.ref b5), .val (.ref b7), .val (.ref a9), .val (.int re), .val (.int ab), .unset, .unset, .unset, .unset]) (st' := []) (fun _ kz => XS.istore X11.here hx rfl (hb hby at_104) rfl (l' := #[.val (.int p1), .val (.int r1), .val (.int r2), .val (.int r3), .val (.int r4), .val (.ref b5), .val (.ref b7), .val (.ref a9), .val (.int re), .val (.int ab), .unset, .unset, .unset, .unset]) rfl kz) ?_
            refine goS (n := 108) (Ls' := #[.val (.int p1), .val (.int r1), .val (.int r2), .val (.int r3), .val (.int r4), .val (.ref b5), .val (.ref b7), .val (.ref a9), .val (.int re), .val (.int ab), .unset, .unset, .unset, .unset]) (st' := [(.ref b7)]) (fun _ kz => XS.aload X11.here hx rfl (hb hby at_106) rfl rfl kz) ?_
            refine goS (n := 110) (Ls' := #[.val (.int p1), .val (.int r1), .val (.int r2), .val (.int r3), .val (.int r4), .val (.ref b5), .val (.ref b7), .val (.ref a9), .val (.int re), .val (.int ab), .unset, .unset, .unset, .unset]) (st' := [(.ref b5), (.ref b7)]) (fun _ kz => XS.aload X11.here hx rfl (hb hby at_108) rfl rfl kz) ?_
            obtain ⟨cq12, kq12, q12a, q12b, q12c⟩ := isOf hZ e11 E_b7
            obtain ⟨_, _, ⟨T12, L12, k12, n12⟩, -, X12, ⟨Lc12, hQ12, l12, y12, z12⟩, st12⟩ := X11.virtualBack hx (y := (⟨"com/example/drain_warden/drainwarden/model/SaverRules$Memory", "equals", "(Ljava/lang/Object;)Z"⟩ : MethodName)) (z := (⟨"com/example/drain_warden/drainwarden/model/SaverRules$Memory", "equals", "(Ljava/lang/Object;)Z"⟩ : MethodName)) hown (mvT hZ (hw _ (List.mem_of_getElem? (i := 25) rfl))) (mvT hZ (hw _ (List.mem_of_getElem? (i := 26) rfl))) (notFace_of_selects (args := #[]) (mvT hZ (hw _ (List.mem_of_getElem? (i := 28) rfl)))) (mvT hZ (hw _ (List.mem_of_getElem? (i := 28) rfl))) (mvT hZ (hw _ (List.mem_of_getElem? (i := 27) rfl))) (by decide) (backOf (W := 0) (rm_eqM l Z a0 hw [] b7 b5 r3 r4 r1 r2 T9.heap n0 O9 F_stickyOn_b7 F_snoozed_b7 F_stickyOn_b5 F_snoozed_b5 E_b5) hZ (hw _ (List.mem_of_getElem? (i := 29) rfl)) (hw _ (List.mem_of_getElem? (i := 2) rfl)) (by decide) (by decide)) q12a q12c (g := (mkF m 110 #[.val (.int p1), .val (.int r1), .val (.int r2), .val (.int r3), .val (.int r4), .val (.ref b5), .val (.ref b7), .val (.ref a9), .val (.int re), .val (.int ab), .unset, .unset, .unset, .unset] [(.ref b5), (.ref b7)])) rfl (by rw [hml]; rfl) (Steps.refl _) (argsL := [(.ref b5)]) (rest := []) (lenOf pd_4 rfl) rfl (by show 2 * 0 + _ ≤ _; exact Nat.le_of_eq rfl) (hb hby at_110) (fun _ _ => ⟨rfl, e11, (Nat.le_of_ble_eq_true rfl), (Nat.le_of_ble_eq_true rfl)⟩)
            dsimp only [Pt.U, Pt.locs, Pt.cells, Pt.slots] at X12 l12 y12 z12 st12 hQ12
            subst l12 y12 z12
            obtain ⟨v12, N12q, e12⟩ := hQ12
            obtain ⟨ba, qba⟩ : ∃ r, r = bi (r1 = r3 ∧ r2 = r4) := ⟨_, rfl⟩
            rw [← qba] at v12
            subst v12
            have hba : ba = re := by rw [qba, h_re]
            have N12 := Fr.app N11 N12q
            refine goT (n := 113) (Ls' := #[.val (.int p1), .val (.int r1), .val (.int r2), .val (.int r3), .val (.int r4), .val (.ref b5), .val (.ref b7), .val (.ref a9), .val (.int re), .val (.int ab), .unset, .unset, .unset, .unset]) (st' := [(.int ba)]) st12 ?_
            refine goS (n := 115) (Ls' := #[.val (.int p1), .val (.int r1), .val (.int r2), .val (.int r3), .val (.int r4), .val (.ref b5), .val (.ref b7), .val (.ref a9), .val (.int re), .val (.int ab), .val (.int ba), .unset, .unset, .unset]) (st' := []) (fun _ kz => XS.istore X12.here hx rfl (hb hby at_113) rfl (l' := #[.val (.int p1), .val (.int r1), .val (.int r2), .val (.int r3), .val (.int r4), .val (.ref b5), .val (.ref b7), .val (.ref a9), .val (.int re), .val (.int ab), .val (.int ba), .unset, .unset, .unset]) rfl kz) ?_
            refine goS (n := 117) (Ls' := #[.val (.int p1), .val (.int r1), .val (.int r2), .val (.int r3), .val (.int r4), .val (.ref b5), .val (.ref b7), .val (.ref a9), .val (.int re), .val (.int ab), .val (.int ba), .unset, .unset, .unset]) (st' := [(.ref b5)]) (fun _ kz => XS.aload X12.here hx rfl (hb hby at_115) rfl rfl kz) ?_
            refine goS (n := 119) (Ls' := #[.val (.int p1), .val (.int r1), .val (.int r2), .val (.int r3), .val (.int r4), .val (.ref b5), .val (.ref b7), .val (.ref a9), .val (.int re), .val (.int ab), .val (.int ba), .unset, .unset, .unset]) (st' := [(.ref b5), (.ref b5)]) (fun _ kz => XS.aload X12.here hx rfl (hb hby at_117) rfl rfl kz) ?_
            obtain ⟨cq13, kq13, q13a, q13b, q13c⟩ := isOf hZ e12 E_b5
            obtain ⟨_, _, ⟨T13, L13, k13, n13⟩, -, X13, ⟨Lc13, hQ13, l13, y13, z13⟩, st13⟩ := X12.virtualBack hx (y := (⟨"com/example/drain_warden/drainwarden/model/SaverRules$Memory", "equals", "(Ljava/lang/Object;)Z"⟩ : MethodName)) (z := (⟨"com/example/drain_warden/drainwarden/model/SaverRules$Memory", "equals", "(Ljava/lang/Object;)Z"⟩ : MethodName)) hown (mvT hZ (hw _ (List.mem_of_getElem? (i := 25) rfl))) (mvT hZ (hw _ (List.mem_of_getElem? (i := 26) rfl))) (notFace_of_selects (args := #[]) (mvT hZ (hw _ (List.mem_of_getElem? (i := 28) rfl)))) (mvT hZ (hw _ (List.mem_of_getElem? (i := 28) rfl))) (mvT hZ (hw _ (List.mem_of_getElem? (i := 27) rfl))) (by decide) (backOf (W := 0) (rm_eqM l Z a0 hw [] b5 b5 r1 r2 r1 r2 T9.heap n0 O9 F_stickyOn_b5 F_snoozed_b5 F_stickyOn_b5 F_snoozed_b5 E_b5) hZ (hw _ (List.mem_of_getElem? (i := 29) rfl)) (hw _ (List.mem_of_getElem? (i := 2) rfl)) (by decide) (by decide)) q13a q13c (g := (mkF m 119 #[.val (.int p1), .val (.int r1), .val (.int r2), .val (.int r3), .val (.int r4), .val (.ref b5), .val (.ref b7), .val (.ref a9), .val (.int re), .val (.int ab), .val (.int ba), .unset, .unset, .unset] [(.ref b5), (.ref b5)])) rfl (by rw [hml]; rfl) (Steps.refl _) (argsL := [(.ref b5)]) (rest := []) (lenOf pd_4 rfl) rfl (by show 2 * 0 + _ ≤ _; exact Nat.le_of_eq rfl) (hb hby at_119) (fun _ _ => ⟨rfl, e12, (Nat.le_of_ble_eq_true rfl), (Nat.le_of_ble_eq_true rfl)⟩)
            dsimp only [Pt.U, Pt.locs, Pt.cells, Pt.slots] at X13 l13 y13 z13 st13 hQ13
            subst l13 y13 z13
            obtain ⟨v13, N13q, e13⟩ := hQ13
            rw [bi_t ⟨rfl, rfl⟩] at v13
            subst v13
            have N13 := Fr.app N12 N13q
            refine goT (n := 122) (Ls' := #[.val (.int p1), .val (.int r1), .val (.int r2), .val (.int r3), .val (.int r4), .val (.ref b5), .val (.ref b7), .val (.ref a9), .val (.int re), .val (.int ab), .val (.int ba), .unset, .unset, .unset]) (st' := [(.int (1 : Int32))]) st13 ?_
            refine goS (n := 124) (Ls' := #[.val (.int p1), .val (.int r1), .val (.int r2), .val (.int r3), .val (.int r4), .val (.ref b5), .val (.ref b7), .val (.ref a9), .val (.int re), .val (.int ab), .val (.int ba), .val (.int (1 : Int32)), .unset, .unset]) (st' := []) (fun _ kz => XS.istore X13.here hx rfl (hb hby at_122) rfl (l' := #[.val (.int p1), .val (.int r1), .val (.int r2), .val (.int r3), .val (.int r4), .val (.ref b5), .val (.ref b7), .val (.ref a9), .val (.int re), .val (.int ab), .val (.int ba), .val (.int (1 : Int32)), .unset, .unset]) rfl kz) ?_
            refine goS (n := 126) (Ls' := #[.val (.int p1), .val (.int r1), .val (.int r2), .val (.int r3), .val (.int r4), .val (.ref b5), .val (.ref b7), .val (.ref a9), .val (.int re), .val (.int ab), .val (.int ba), .val (.int (1 : Int32)), .unset, .unset]) (st' := [(.ref b5)]) (fun _ kz => XS.aload X13.here hx rfl (hb hby at_124) rfl rfl kz) ?_
            refine goS (n := 127) (Ls' := #[.val (.int p1), .val (.int r1), .val (.int r2), .val (.int r3), .val (.int r4), .val (.ref b5), .val (.ref b7), .val (.ref a9), .val (.int re), .val (.int ab), .val (.int ba), .val (.int (1 : Int32)), .unset, .unset]) (st' := [.null, (.ref b5)]) (fun _ kz => XS.aconstNull X13.here hx rfl (hb hby at_126) kz) ?_
            obtain ⟨cq14, kq14, q14a, q14b, q14c⟩ := isOf hZ e13 E_b5
            obtain ⟨_, _, ⟨T14, L14, k14, n14⟩, -, X14, ⟨Lc14, hQ14, l14, y14, z14⟩, st14⟩ := X13.virtualBack hx (y := (⟨"com/example/drain_warden/drainwarden/model/SaverRules$Memory", "equals", "(Ljava/lang/Object;)Z"⟩ : MethodName)) (z := (⟨"com/example/drain_warden/drainwarden/model/SaverRules$Memory", "equals", "(Ljava/lang/Object;)Z"⟩ : MethodName)) hown (mvT hZ (hw _ (List.mem_of_getElem? (i := 25) rfl))) (mvT hZ (hw _ (List.mem_of_getElem? (i := 26) rfl))) (notFace_of_selects (args := #[]) (mvT hZ (hw _ (List.mem_of_getElem? (i := 28) rfl)))) (mvT hZ (hw _ (List.mem_of_getElem? (i := 28) rfl))) (mvT hZ (hw _ (List.mem_of_getElem? (i := 27) rfl))) (by decide) (backOf (W := 0) (rm_eqN l Z a0 hw [] b5 T9.heap n0 O9) hZ (hw _ (List.mem_of_getElem? (i := 29) rfl)) (hw _ (List.mem_of_getElem? (i := 2) rfl)) (by decide) (by decide)) q14a q14c (g := (mkF m 127 #[.val (.int p1), .val (.int r1), .val (.int r2), .val (.int r3), .val (.int r4), .val (.ref b5), .val (.ref b7), .val (.ref a9), .val (.int re), .val (.int ab), .val (.int ba), .val (.int (1 : Int32)), .unset, .unset] [.null, (.ref b5)])) rfl (by rw [hml]; rfl) (Steps.refl _) (argsL := [.null]) (rest := []) (lenOf pd_4 rfl) rfl (by show 2 * 0 + _ ≤ _; exact Nat.le_of_eq rfl) (hb hby at_127) (fun _ _ => ⟨rfl, e13, (Nat.le_of_ble_eq_true rfl), (Nat.le_of_ble_eq_true rfl)⟩)
            dsimp only [Pt.U, Pt.locs, Pt.cells, Pt.slots] at X14 l14 y14 z14 st14 hQ14
            subst l14 y14 z14
            obtain ⟨rfl, N14q, e14⟩ := hQ14
            have N14 := Fr.app N13 N14q
            refine goT (n := 130) (Ls' := #[.val (.int p1), .val (.int r1), .val (.int r2), .val (.int r3), .val (.int r4), .val (.ref b5), .val (.ref b7), .val (.ref a9), .val (.int re), .val (.int ab), .val (.int ba), .val (.int (1 : Int32)), .unset, .unset]) (st' := [(.int (0 : Int32))]) st14 ?_
            refine goS (n := 132) (Ls' := #[.val (.int p1), .val (.int r1), .val (.int r2), .val (.int r3), .val (.int r4), .val (.ref b5), .val (.ref b7), .val (.ref a9), .val (.int re), .val (.int ab), .val (.int ba), .val (.int (1 : Int32)), .val (.int (0 : Int32)), .unset]) (st' := []) (fun _ kz => XS.istore X14.here hx rfl (hb hby at_130) rfl (l' := #[.val (.int p1), .val (.int r1), .val (.int r2), .val (.int r3), .val (.int r4), .val (.ref b5), .val (.ref b7), .val (.ref a9), .val (.int re), .val (.int ab), .val (.int ba), .val (.int (1 : Int32)), .val (.int (0 : Int32)), .unset]) rfl kz) ?_
            refine goS (n := 134) (Ls' := #[.val (.int p1), .val (.int r1), .val (.int r2), .val (.int r3), .val (.int r4), .val (.ref b5), .val (.ref b7), .val (.ref a9), .val (.int re), .val (.int ab), .val (.int ba), .val (.int (1 : Int32)), .val (.int (0 : Int32)), .unset]) (st' := [(.ref b5)]) (fun _ kz => XS.aload X14.here hx rfl (hb hby at_132) rfl rfl kz) ?_
            refine goS (n := 136) (Ls' := #[.val (.int p1), .val (.int r1), .val (.int r2), .val (.int r3), .val (.int r4), .val (.ref b5), .val (.ref b7), .val (.ref a9), .val (.int re), .val (.int ab), .val (.int ba), .val (.int (1 : Int32)), .val (.int (0 : Int32)), .unset]) (st' := [(.ref a9), (.ref b5)]) (fun _ kz => XS.aload X14.here hx rfl (hb hby at_134) rfl rfl kz) ?_
            obtain ⟨cq15, kq15, q15a, q15b, q15c⟩ := isOf hZ e14 E_b5
            obtain ⟨_, _, ⟨T15, L15, k15, n15⟩, -, X15, ⟨Lc15, hQ15, l15, y15, z15⟩, st15⟩ := X14.virtualBack hx (y := (⟨"com/example/drain_warden/drainwarden/model/SaverRules$Memory", "equals", "(Ljava/lang/Object;)Z"⟩ : MethodName)) (z := (⟨"com/example/drain_warden/drainwarden/model/SaverRules$Memory", "equals", "(Ljava/lang/Object;)Z"⟩ : MethodName)) hown (mvT hZ (hw _ (List.mem_of_getElem? (i := 25) rfl))) (mvT hZ (hw _ (List.mem_of_getElem? (i := 26) rfl))) (notFace_of_selects (args := #[]) (mvT hZ (hw _ (List.mem_of_getElem? (i := 28) rfl)))) (mvT hZ (hw _ (List.mem_of_getElem? (i := 28) rfl))) (mvT hZ (hw _ (List.mem_of_getElem? (i := 27) rfl))) (by decide) (backOf (W := 0) (rm_eqF l Z a0 hw [] b5 a9 T9.heap n0 O9 E_a9) hZ (hw _ (List.mem_of_getElem? (i := 29) rfl)) (hw _ (List.mem_of_getElem? (i := 2) rfl)) (by decide) (by decide)) q15a q15c (g := (mkF m 136 #[.val (.int p1), .val (.int r1), .val (.int r2), .val (.int r3), .val (.int r4), .val (.ref b5), .val (.ref b7), .val (.ref a9), .val (.int re), .val (.int ab), .val (.int ba), .val (.int (1 : Int32)), .val (.int (0 : Int32)), .unset] [(.ref a9), (.ref b5)])) rfl (by rw [hml]; rfl) (Steps.refl _) (argsL := [(.ref a9)]) (rest := []) (lenOf pd_4 rfl) rfl (by show 2 * 0 + _ ≤ _; exact Nat.le_of_eq rfl) (hb hby at_136) (fun _ _ => ⟨rfl, e14, (Nat.le_of_ble_eq_true rfl), (Nat.le_of_ble_eq_true rfl)⟩)
            dsimp only [Pt.U, Pt.locs, Pt.cells, Pt.slots] at X15 l15 y15 z15 st15 hQ15
            subst l15 y15 z15
            obtain ⟨rfl, N15q, e15⟩ := hQ15
            have N15 := Fr.app N14 N15q
            refine goT (n := 139) (Ls' := #[.val (.int p1), .val (.int r1), .val (.int r2), .val (.int r3), .val (.int r4), .val (.ref b5), .val (.ref b7), .val (.ref a9), .val (.int re), .val (.int ab), .val (.int ba), .val (.int (1 : Int32)), .val (.int (0 : Int32)), .unset]) (st' := [(.int (0 : Int32))]) st15 ?_
            refine goS (n := 141) (Ls' := #[.val (.int p1), .val (.int r1), .val (.int r2), .val (.int r3), .val (.int r4), .val (.ref b5), .val (.ref b7), .val (.ref a9), .val (.int re), .val (.int ab), .val (.int ba), .val (.int (1 : Int32)), .val (.int (0 : Int32)), .val (.int (0 : Int32))]) (st' := []) (fun _ kz => XS.istore X15.here hx rfl (hb hby at_139) rfl (l' := #[.val (.int p1), .val (.int r1), .val (.int r2), .val (.int r3), .val (.int r4), .val (.ref b5), .val (.ref b7), .val (.ref a9), .val (.int re), .val (.int ab), .val (.int ba), .val (.int (1 : Int32)), .val (.int (0 : Int32)), .val (.int (0 : Int32))]) rfl kz) ?_
            refine goS (n := 143) (Ls' := #[.val (.int p1), .val (.int r1), .val (.int r2), .val (.int r3), .val (.int r4), .val (.ref b5), .val (.ref b7), .val (.ref a9), .val (.int re), .val (.int ab), .val (.int ba), .val (.int (1 : Int32)), .val (.int (0 : Int32)), .val (.int (0 : Int32))]) (st' := [(.int ab)]) (fun _ kz => XS.iload X15.here hx rfl (hb hby at_141) rfl kz) ?_
            refine goS (n := 145) (Ls' := #[.val (.int p1), .val (.int r1), .val (.int r2), .val (.int r3), .val (.int r4), .val (.ref b5), .val (.ref b7), .val (.ref a9), .val (.int re), .val (.int ab), .val (.int ba), .val (.int (1 : Int32)), .val (.int (0 : Int32)), .val (.int (0 : Int32))]) (st' := [(.int re), (.int ab)]) (fun _ kz => XS.iload X15.here hx rfl (hb hby at_143) rfl kz) ?_
            refine goS (n := 148) (Ls' := #[.val (.int p1), .val (.int r1), .val (.int r2), .val (.int r3), .val (.int r4), .val (.ref b5), .val (.ref b7), .val (.ref a9), .val (.int re), .val (.int ab), .val (.int ba), .val (.int (1 : Int32)), .val (.int (0 : Int32)), .val (.int (0 : Int32))]) (st' := []) (fun _ kz => XS.icmpNo X15.here hx rfl (hb hby at_145) rfl (teq hab).2 kz) ?_
            refine goS (n := 150) (Ls' := #[.val (.int p1), .val (.int r1), .val (.int r2), .val (.int r3), .val (.int r4), .val (.ref b5), .val (.ref b7), .val (.ref a9), .val (.int re), .val (.int ab), .val (.int ba), .val (.int (1 : Int32)), .val (.int (0 : Int32)), .val (.int (0 : Int32))]) (st' := [(.int ba)]) (fun _ kz => XS.iload X15.here hx rfl (hb hby at_148) rfl kz) ?_
            refine goS (n := 152) (Ls' := #[.val (.int p1), .val (.int r1), .val (.int r2), .val (.int r3), .val (.int r4), .val (.ref b5), .val (.ref b7), .val (.ref a9), .val (.int re), .val (.int ab), .val (.int ba), .val (.int (1 : Int32)), .val (.int (0 : Int32)), .val (.int (0 : Int32))]) (st' := [(.int re), (.int ba)]) (fun _ kz => XS.iload X15.here hx rfl (hb hby at_150) rfl kz) ?_
            refine goS (n := 155) (Ls' := #[.val (.int p1), .val (.int r1), .val (.int r2), .val (.int r3), .val (.int r4), .val (.ref b5), .val (.ref b7), .val (.ref a9), .val (.int re), .val (.int ab), .val (.int ba), .val (.int (1 : Int32)), .val (.int (0 : Int32)), .val (.int (0 : Int32))]) (st' := []) (fun _ kz => XS.icmpNo X15.here hx rfl (hb hby at_152) rfl (teq hba).2 kz) ?_
            refine goS (n := 157) (Ls' := #[.val (.int p1), .val (.int r1), .val (.int r2), .val (.int r3), .val (.int r4), .val (.ref b5), .val (.ref b7), .val (.ref a9), .val (.int re), .val (.int ab), .val (.int ba), .val (.int (1 : Int32)), .val (.int (0 : Int32)), .val (.int (0 : Int32))]) (st' := [(.int (1 : Int32))]) (fun _ kz => XS.iload X15.here hx rfl (hb hby at_155) rfl kz) ?_
            refine goS (n := 160) (Ls' := #[.val (.int p1), .val (.int r1), .val (.int r2), .val (.int r3), .val (.int r4), .val (.ref b5), .val (.ref b7), .val (.ref a9), .val (.int re), .val (.int ab), .val (.int ba), .val (.int (1 : Int32)), .val (.int (0 : Int32)), .val (.int (0 : Int32))]) (st' := []) (fun _ kz => XS.ifNo X15.here hx rfl (hb hby at_157) rfl (by decide) kz) ?_
            refine goS (n := 162) (Ls' := #[.val (.int p1), .val (.int r1), .val (.int r2), .val (.int r3), .val (.int r4), .val (.ref b5), .val (.ref b7), .val (.ref a9), .val (.int re), .val (.int ab), .val (.int ba), .val (.int (1 : Int32)), .val (.int (0 : Int32)), .val (.int (0 : Int32))]) (st' := [(.int (0 : Int32))]) (fun _ kz => XS.iload X15.here hx rfl (hb hby at_160) rfl kz) ?_
            refine goS (n := 165) (Ls' := #[.val (.int p1), .val (.int r1), .val (.int r2), .val (.int r3), .val (.int r4), .val (.ref b5), .val (.ref b7), .val (.ref a9), .val (.int re), .val (.int ab), .val (.int ba), .val (.int (1 : Int32)), .val (.int (0 : Int32)), .val (.int (0 : Int32))]) (st' := []) (fun _ kz => XS.ifNo X15.here hx rfl (hb hby at_162) rfl (by decide) kz) ?_
            refine goS (n := 167) (Ls' := #[.val (.int p1), .val (.int r1), .val (.int r2), .val (.int r3), .val (.int r4), .val (.ref b5), .val (.ref b7), .val (.ref a9), .val (.int re), .val (.int ab), .val (.int ba), .val (.int (1 : Int32)), .val (.int (0 : Int32)), .val (.int (0 : Int32))]) (st' := [(.int (0 : Int32))]) (fun _ kz => XS.iload X15.here hx rfl (hb hby at_165) rfl kz) ?_
            refine goS (n := 170) (Ls' := #[.val (.int p1), .val (.int r1), .val (.int r2), .val (.int r3), .val (.int r4), .val (.ref b5), .val (.ref b7), .val (.ref a9), .val (.int re), .val (.int ab), .val (.int ba), .val (.int (1 : Int32)), .val (.int (0 : Int32)), .val (.int (0 : Int32))]) (st' := []) (fun _ kz => XS.ifNo X15.here hx rfl (hb hby at_167) rfl (by decide) kz) ?_
            refine goS (n := 171) (Ls' := #[.val (.int p1), .val (.int r1), .val (.int r2), .val (.int r3), .val (.int r4), .val (.ref b5), .val (.ref b7), .val (.ref a9), .val (.int re), .val (.int ab), .val (.int ba), .val (.int (1 : Int32)), .val (.int (0 : Int32)), .val (.int (0 : Int32))]) (st' := [(.int (1 : Int32))]) (fun _ kz => XS.iconst X15.here hx rfl (hb hby at_170) kz) ?_
            refine goS (n := 175) (Ls' := #[.val (.int p1), .val (.int r1), .val (.int r2), .val (.int r3), .val (.int r4), .val (.ref b5), .val (.ref b7), .val (.ref a9), .val (.int re), .val (.int ab), .val (.int ba), .val (.int (1 : Int32)), .val (.int (0 : Int32)), .val (.int (0 : Int32))]) (st' := [(.int (1 : Int32))]) (fun _ kz => XS.goto X15.here hx rfl (pc0 := 171) (pc' := 175) rfl (hb hby at_171) (by decide) (by decide) kz) ?_
            exact goRetZ X15 hx hlk Bd.returns (Or.inr rfl) (hb hby at_175) (by decide) (by decide) (by rw [e15]; exact ⟨rfl, N15⟩)
          by_cases hc16 : r1 = r3
          · refine goS (n := 84) (Ls' := #[.val (.int p1), .val (.int r1), .val (.int r2), .val (.int r3), .val (.int r4), .val (.ref b5), .val (.ref b7), .val (.ref a9), .unset, .unset, .unset, .unset, .unset, .unset]) (st' := []) (fun _ kz => XS.icmpNo X9.here hx rfl (hb hby at_81) rfl (teq hc16).2 kz) ?_
            refine goS (n := 85) (Ls' := #[.val (.int p1), .val (.int r1), .val (.int r2), .val (.int r3), .val (.int r4), .val (.ref b5), .val (.ref b7), .val (.ref a9), .unset, .unset, .unset, .unset, .unset, .unset]) (st' := [(.int r2)]) (fun _ kz => XS.iloadN X9.here hx rfl (hb hby at_84) rfl kz) ?_
            refine goS (n := 87) (Ls' := #[.val (.int p1), .val (.int r1), .val (.int r2), .val (.int r3), .val (.int r4), .val (.ref b5), .val (.ref b7), .val (.ref a9), .unset, .unset, .unset, .unset, .unset, .unset]) (st' := [(.int r4), (.int r2)]) (fun _ kz => XS.iload X9.here hx rfl (hb hby at_85) rfl kz) ?_
            by_cases hc17 : r2 = r4
            · refine goS (n := 90) (Ls' := #[.val (.int p1), .val (.int r1), .val (.int r2), .val (.int r3), .val (.int r4), .val (.ref b5), .val (.ref b7), .val (.ref a9), .unset, .unset, .unset, .unset, .unset, .unset]) (st' := []) (fun _ kz => XS.icmpNo X9.here hx rfl (hb hby at_87) rfl (teq hc17).2 kz) ?_
              refine goS (n := 91) (Ls' := #[.val (.int p1), .val (.int r1), .val (.int r2), .val (.int r3), .val (.int r4), .val (.ref b5), .val (.ref b7), .val (.ref a9), .unset, .unset, .unset, .unset, .unset, .unset]) (st' := [(.int (1 : Int32))]) (fun _ kz => XS.iconst X9.here hx rfl (hb hby at_90) kz) ?_
              refine goS (n := 95) (Ls' := #[.val (.int p1), .val (.int r1), .val (.int r2), .val (.int r3), .val (.int r4), .val (.ref b5), .val (.ref b7), .val (.ref a9), .unset, .unset, .unset, .unset, .unset, .unset]) (st' := [(.int (1 : Int32))]) (fun _ kz => XS.goto X9.here hx rfl (pc0 := 91) (pc' := 95) rfl (hb hby at_91) (by decide) (by decide) kz) ?_
              exact jn10 _ (by simp [bi, hc16, hc17])
            · refine goS (n := 94) (Ls' := #[.val (.int p1), .val (.int r1), .val (.int r2), .val (.int r3), .val (.int r4), .val (.ref b5), .val (.ref b7), .val (.ref a9), .unset, .unset, .unset, .unset, .unset, .unset]) (st' := []) (fun _ kz => XS.icmpYes X9.here hx rfl (pc0 := 87) (pc' := 94) rfl (hb hby at_87) rfl (feq hc17).2 (by decide) (by decide) kz) ?_
              refine goS (n := 95) (Ls' := #[.val (.int p1), .val (.int r1), .val (.int r2), .val (.int r3), .val (.int r4), .val (.ref b5), .val (.ref b7), .val (.ref a9), .unset, .unset, .unset, .unset, .unset, .unset]) (st' := [(.int (0 : Int32))]) (fun _ kz => XS.iconst X9.here hx rfl (hb hby at_94) kz) ?_
              exact jn10 _ (by simp [bi, hc16, hc17])
          · refine goS (n := 94) (Ls' := #[.val (.int p1), .val (.int r1), .val (.int r2), .val (.int r3), .val (.int r4), .val (.ref b5), .val (.ref b7), .val (.ref a9), .unset, .unset, .unset, .unset, .unset, .unset]) (st' := []) (fun _ kz => XS.icmpYes X9.here hx rfl (pc0 := 81) (pc' := 94) rfl (hb hby at_81) rfl (feq hc16).2 (by decide) (by decide) kz) ?_
            refine goS (n := 95) (Ls' := #[.val (.int p1), .val (.int r1), .val (.int r2), .val (.int r3), .val (.int r4), .val (.ref b5), .val (.ref b7), .val (.ref a9), .unset, .unset, .unset, .unset, .unset, .unset]) (st' := [(.int (0 : Int32))]) (fun _ kz => XS.iconst X9.here hx rfl (hb hby at_94) kz) ?_
            exact jn10 _ (by simp [bi, hc16])
        by_cases hc18 : (p1 &&& (8 : Int32)) = (0 : Int32)
        · refine goS (n := 47) (Ls' := #[.val (.int p1), .val (.int r1), .val (.int r2), .val (.int r3), .unset, .unset, .unset, .unset, .unset, .unset, .unset, .unset, .unset, .unset]) (st' := []) (fun _ kz => XS.ifYes X0.here hx rfl (pc0 := 40) (pc' := 47) rfl (hb hby at_40) rfl ((if0 _ _).trans (teq hc18).1) (by decide) (by decide) kz) ?_
          refine goS (n := 48) (Ls' := #[.val (.int p1), .val (.int r1), .val (.int r2), .val (.int r3), .unset, .unset, .unset, .unset, .unset, .unset, .unset, .unset, .unset, .unset]) (st' := [(.int (0 : Int32))]) (fun _ kz => XS.iconst X0.here hx rfl (hb hby at_47) kz) ?_
          exact jn4 _ (bi_f (fun q => q hc18)).symm
        · refine goS (n := 43) (Ls' := #[.val (.int p1), .val (.int r1), .val (.int r2), .val (.int r3), .unset, .unset, .unset, .unset, .unset, .unset, .unset, .unset, .unset, .unset]) (st' := []) (fun _ kz => XS.ifNo X0.here hx rfl (hb hby at_40) rfl ((if0 _ _).trans (feq hc18).1) kz) ?_
          refine goS (n := 44) (Ls' := #[.val (.int p1), .val (.int r1), .val (.int r2), .val (.int r3), .unset, .unset, .unset, .unset, .unset, .unset, .unset, .unset, .unset, .unset]) (st' := [(.int (1 : Int32))]) (fun _ kz => XS.iconst X0.here hx rfl (hb hby at_43) kz) ?_
          refine goS (n := 48) (Ls' := #[.val (.int p1), .val (.int r1), .val (.int r2), .val (.int r3), .unset, .unset, .unset, .unset, .unset, .unset, .unset, .unset, .unset, .unset]) (st' := [(.int (1 : Int32))]) (fun _ kz => XS.goto X0.here hx rfl (pc0 := 44) (pc' := 48) rfl (hb hby at_44) (by decide) (by decide) kz) ?_
          exact jn4 _ (bi_t hc18).symm
      by_cases hc19 : (p1 &&& (4 : Int32)) = (0 : Int32)
      · refine goS (n := 34) (Ls' := #[.val (.int p1), .val (.int r1), .val (.int r2), .unset, .unset, .unset, .unset, .unset, .unset, .unset, .unset, .unset, .unset, .unset]) (st' := []) (fun _ kz => XS.ifYes X0.here hx rfl (pc0 := 27) (pc' := 34) rfl (hb hby at_27) rfl ((if0 _ _).trans (teq hc19).1) (by decide) (by decide) kz) ?_
        refine goS (n := 35) (Ls' := #[.val (.int p1), .val (.int r1), .val (.int r2), .unset, .unset, .unset, .unset, .unset, .unset, .unset, .unset, .unset, .unset, .unset]) (st' := [(.int (0 : Int32))]) (fun _ kz => XS.iconst X0.here hx rfl (hb hby at_34) kz) ?_
        exact jn3 _ (bi_f (fun q => q hc19)).symm
      · refine goS (n := 30) (Ls' := #[.val (.int p1), .val (.int r1), .val (.int r2), .unset, .unset, .unset, .unset, .unset, .unset, .unset, .unset, .unset, .unset, .unset]) (st' := []) (fun _ kz => XS.ifNo X0.here hx rfl (hb hby at_27) rfl ((if0 _ _).trans (feq hc19).1) kz) ?_
        refine goS (n := 31) (Ls' := #[.val (.int p1), .val (.int r1), .val (.int r2), .unset, .unset, .unset, .unset, .unset, .unset, .unset, .unset, .unset, .unset, .unset]) (st' := [(.int (1 : Int32))]) (fun _ kz => XS.iconst X0.here hx rfl (hb hby at_30) kz) ?_
        refine goS (n := 35) (Ls' := #[.val (.int p1), .val (.int r1), .val (.int r2), .unset, .unset, .unset, .unset, .unset, .unset, .unset, .unset, .unset, .unset, .unset]) (st' := [(.int (1 : Int32))]) (fun _ kz => XS.goto X0.here hx rfl (pc0 := 31) (pc' := 35) rfl (hb hby at_31) (by decide) (by decide) kz) ?_
        exact jn3 _ (bi_t hc19).symm
    by_cases hc20 : (p1 &&& (2 : Int32)) = (0 : Int32)
    · refine goS (n := 22) (Ls' := #[.val (.int p1), .val (.int r1), .unset, .unset, .unset, .unset, .unset, .unset, .unset, .unset, .unset, .unset, .unset, .unset]) (st' := []) (fun _ kz => XS.ifYes X0.here hx rfl (pc0 := 15) (pc' := 22) rfl (hb hby at_15) rfl ((if0 _ _).trans (teq hc20).1) (by decide) (by decide) kz) ?_
      refine goS (n := 23) (Ls' := #[.val (.int p1), .val (.int r1), .unset, .unset, .unset, .unset, .unset, .unset, .unset, .unset, .unset, .unset, .unset, .unset]) (st' := [(.int (0 : Int32))]) (fun _ kz => XS.iconst X0.here hx rfl (hb hby at_22) kz) ?_
      exact jn2 _ (bi_f (fun q => q hc20)).symm
    · refine goS (n := 18) (Ls' := #[.val (.int p1), .val (.int r1), .unset, .unset, .unset, .unset, .unset, .unset, .unset, .unset, .unset, .unset, .unset, .unset]) (st' := []) (fun _ kz => XS.ifNo X0.here hx rfl (hb hby at_15) rfl ((if0 _ _).trans (feq hc20).1) kz) ?_
      refine goS (n := 19) (Ls' := #[.val (.int p1), .val (.int r1), .unset, .unset, .unset, .unset, .unset, .unset, .unset, .unset, .unset, .unset, .unset, .unset]) (st' := [(.int (1 : Int32))]) (fun _ kz => XS.iconst X0.here hx rfl (hb hby at_18) kz) ?_
      refine goS (n := 23) (Ls' := #[.val (.int p1), .val (.int r1), .unset, .unset, .unset, .unset, .unset, .unset, .unset, .unset, .unset, .unset, .unset, .unset]) (st' := [(.int (1 : Int32))]) (fun _ kz => XS.goto X0.here hx rfl (pc0 := 19) (pc' := 23) rfl (hb hby at_19) (by decide) (by decide) kz) ?_
      exact jn2 _ (bi_t hc20).symm
  by_cases hc21 : (p1 &&& (1 : Int32)) = (0 : Int32)
  · refine goS (n := 10) (Ls' := #[.val (.int p1), .unset, .unset, .unset, .unset, .unset, .unset, .unset, .unset, .unset, .unset, .unset, .unset, .unset]) (st' := []) (fun _ kz => XS.ifYes X0.here hx rfl (pc0 := 3) (pc' := 10) rfl (hb hby at_3) rfl ((if0 _ _).trans (teq hc21).1) (by decide) (by decide) kz) ?_
    refine goS (n := 11) (Ls' := #[.val (.int p1), .unset, .unset, .unset, .unset, .unset, .unset, .unset, .unset, .unset, .unset, .unset, .unset, .unset]) (st' := [(.int (0 : Int32))]) (fun _ kz => XS.iconst X0.here hx rfl (hb hby at_10) kz) ?_
    exact jn1 _ (bi_f (fun q => q hc21)).symm
  · refine goS (n := 6) (Ls' := #[.val (.int p1), .unset, .unset, .unset, .unset, .unset, .unset, .unset, .unset, .unset, .unset, .unset, .unset, .unset]) (st' := []) (fun _ kz => XS.ifNo X0.here hx rfl (hb hby at_3) rfl ((if0 _ _).trans (feq hc21).1) kz) ?_
    refine goS (n := 7) (Ls' := #[.val (.int p1), .unset, .unset, .unset, .unset, .unset, .unset, .unset, .unset, .unset, .unset, .unset, .unset, .unset]) (st' := [(.int (1 : Int32))]) (fun _ kz => XS.iconst X0.here hx rfl (hb hby at_6) kz) ?_
    refine goS (n := 11) (Ls' := #[.val (.int p1), .unset, .unset, .unset, .unset, .unset, .unset, .unset, .unset, .unset, .unset, .unset, .unset, .unset]) (st' := [(.int (1 : Int32))]) (fun _ kz => XS.goto X0.here hx rfl (pc0 := 7) (pc' := 11) rfl (hb hby at_7) (by decide) (by decide) kz) ?_
    exact jn1 _ (bi_t hc21).symm
set_option maxRecDepth 65536 in
set_option maxHeartbeats 40000000 in
theorem comes_1 {Post : Tables → Env → Array Value → State → Outcome → State → Prop} (hpost : ∀ tb e args s v u, (limb_1_1.after args s (.returned v) u = true ∧ limb_1_2.after args s (.returned v) u = true ∧ True) → FrameEnd s (.returned v) u (Jvm.fieldLocs frame_1_writes args s ++ Jvm.arrayLocs frame_1_arrays args s ++ Jvm.staticLocs frame_1_statics s) 16 128 → Post tb e args s (.returned v) u) :
    ArmFor flags0 classFile x code maxLocals ret World_1 tables_1 room_1 Calls_1 rest_1 Pre_1 Post := by
  intro l hfl _ _ p e ha hc hk s m args below hf hA hF happ hP
  obtain ⟨hcalls, hrest, hpre⟩ := hP
  obtain ⟨-, -, -, hnamed, -, -, -, hat⟩ := (Spec.applies_iff hf).mp happ
  obtain ⟨hg, hn⟩ := and_e (Cond.before_iff.mp (show (Jvm.Cond.and given_1 narrow_1).before args s = true from hpre))
  obtain ⟨g1, g2⟩ := and_e hg
  obtain ⟨w0, rfl⟩ : ∃ w0 : Value, args = #[w0] := by
    have hs : args.size = 1 := by simpa [Cond.value, given_1] using g1
    obtain ⟨L⟩ := args
    match L, hs with
    | [w0], _ => exact ⟨w0, rfl⟩
  have hw := fun d (hd : d ∈ tables_1) => atoms_spec (ws := Jvm.Cond.code x code maxLocals ret :: tables_1) hat d (List.mem_cons_of_mem _ hd)
  have hfit : Fit s := fun {y c} hc i hi => by
    obtain ⟨ha, rfl⟩ := Array.getElem?_eq_some_iff.mp hc
    have q := List.all_eq_true.mp ((Array.all_eq_true_iff_forall_mem.mp hF) _ (Array.getElem_mem ha)) i (List.mem_range.mpr hi)
    simpa [Array.getElem?_eq_getElem hi] using q
  obtain ⟨hsets, hown0⟩ := atoms_of _ (rest_1_c_eq ▸ (show rest_1_c.before _ s = true from hrest))
  have hr0 := Cond.before_iff.mp hown0
  obtain ⟨i0, ei0⟩ := is_v g2
  obtain rfl : w0 = (.int i0) := Option.some.inj ei0
  have S_high : Sta s s.heap "java/lang/Integer$IntegerCache" "high" "I" (.int (127 : Int32)) := Sta.start (eqv_i (Term.int_eval _) (Cond.before_iff.mp (hsets _ (List.mem_of_getElem? (i := 3) rfl)))) (Or.inr ⟨(hw _ (List.mem_of_getElem? (i := 23) rfl)), (hsets _ (List.mem_of_getElem? (i := 0) rfl))⟩)
  obtain ⟨ca, eca⟩ := exa_v (Cond.before_iff.mp (hsets _ (List.mem_of_getElem? (i := 5) rfl)))
  have S_cache : Sta s s.heap "java/lang/Integer$IntegerCache" "cache" "[Ljava/lang/Integer;" (.ref ca) := Sta.start eca (Or.inr ⟨(hw _ (List.mem_of_getElem? (i := 23) rfl)), (hsets _ (List.mem_of_getElem? (i := 2) rfl))⟩)
  obtain ⟨cl, Acl⟩ := Arr.start eca (Cond.before_iff.mp (hsets _ (List.mem_of_getElem? (i := 4) rfl)))
  have elen := eqv_i (Term.int_eval _) (Cond.before_iff.mp (hsets _ (List.mem_of_getElem? (i := 6) rfl)))
  have hsz : cl.slots.size < 2 ^ 31 ∧ cl.slots.size.toInt32 = (256 : Int32) := lenStart eca Acl elen
  have BX : Bxs s ca cl "java/lang/Integer" "I" (256 : Int32) (fun j => .int (j - 128)) := Bxs.start (fun _ => eca) Acl hsz.1 hsz.2 (by decide) (Cond.before_iff.mp (hsets _ (List.mem_of_getElem? (i := 7) rfl))) (fun X j hj h => eqv_i (subIdx hj 128) h)
  obtain ⟨n, o, h1, h2, h3, _, L, rfl, ⟨rfl, N⟩, hq⟩ := rm_law l s _ hw tables_1 i0 ca cl s.heap s.heap.size (Old.start s) S_high S_cache BX p e ha hc hk s m _ below hf ((Spec.applies_iff_loose hf).mp happ).1 ⟨rfl, State.Warmed39.refl s, rfl⟩ trivial
  refine ⟨n, _, h1, h2, h3, hpost _ _ _ _ _ _ ⟨Cond.after_iff.mpr rfl, Cond.after_iff.mpr (eq_i res_at (Term.int_eval (1)) rfl), trivial⟩ ⟨hq.1, hq.2.1, (hq.2.2.sift fun y hy => Or.inr (N y hy)).mono (by decide) (by decide)⟩⟩
theorem main_1_1 : Claimed_1_1 := comes_1 fun _ _ _ _ _ _ h hF => ⟨h.1, hF⟩
theorem main_1_2 : Claimed_1_2 := comes_1 fun _ _ _ _ _ _ h hF => ⟨h.2.1, hF⟩
end Jvm.Pilot.@@N@@
namespace Jvm.Pilot.@@N@@
open Jvm Jvm.ClassFile Sem Op Lib Jvm.Free Jvm.Stand Jvm.Pilot.@@N@@.Jvm.D
/-! MADE BY PROGRAM (witnessworld.py) out of the Statement's table words and the real class files: 17 classes; the members and pool entries that the words name. The judged class is class 1, her method 1. -/
namespace start1
open Jvm.ClassFile
def u (s : String) : CpInfo := .utf8 (stringToUtf16 s)
/-- a pool by its gaps: so many unusable entries, then the entry; so many at the end -/
def gap : Nat → List CpInfo → List CpInfo
  | 0, r => r
  | n + 1, r => .unusable :: gap n r
def poolList (es : List (Nat × CpInfo)) (last : Nat) : List CpInfo := es.foldr (fun e r => gap e.1 (e.2 :: r)) (gap last [])
def pool (es : List (Nat × CpInfo)) (last : Nat) : Array CpInfo := ⟨poolList es last⟩
def fileOf (pool : Array CpInfo) (this : Nat) (attrs : Array Attribute := #[]) (ms : Array MethodInfo := #[]) (fl : Nat := 33) (sup : Nat := 0) (ifs : Array Nat := #[]) (fds : Array FieldInfo := #[]) : ClassFile where
  minorVersion := 0
  majorVersion := 65
  constantPool := pool
  accessFlags := fl
  thisClass := this
  superClass := sup
  interfaces := ifs
  fields := fds
  methods := ms
  attributes := attrs
def plain (name : String) (sup : Option ClassId) : Class where
  name := name
  kind := .ordinary
  loader := none
  accessFlags := 33
  super := sup
  interfaces := #[]
  cf := none
  fields := #[]
  methods := #[]
  instanceTypes := #[]
  staticTypes := #[]
  resolved := #[]
  callSites := []
  init := .initialized
  statics := none
  mirror := none

def pool0 : Array CpInfo := pool [(5, u "<init>"), (0, u "()V"), (1, .class_ 10), (1, u "java/lang/Object")] 113

def k0c0 : Code := { maxStack := 0, maxLocals := 1, code := object_method_1_code, exceptionTable := #[], attributes := #[] }
def k0m0 : Method := { name := "<init>", desc := "()V", sig := { parameters := [], returnType := none }, accessFlags := 1, code := some k0c0 }
/-- java/lang/Object -/
def k0 : Class := { plain "java/lang/Object" none with
  accessFlags := 33
  interfaces := #[]
  cf := some (fileOf pool0 8 #[] #[{ accessFlags := 1, nameIndex := 5, descriptorIndex := 6, attributes := #[] }] 33 0 #[] #[])
  fields := #[]
  methods := #[k0m0]
  instanceTypes := #[]
  staticTypes := #[]
  resolved := Array.replicate 124 none
  statics := none }

def pool1 : Array CpInfo := pool [(2, .class_ 4), (1, u "java/lang/Object"), (0, u "<init>"), (0, u "()V"), (0, .class_ 8), (0, u "com/example/drain_warden/drainwarden/model/SaverRules$Memory"), (0, .methodref 7 10), (0, .nameAndType 5 11), (0, u "(ZZ)V"), (0, .methodref 13 14), (0, .class_ 15), (0, .nameAndType 16 17), (0, u "java/lang/Integer"), (0, u "valueOf"), (0, u "(I)Ljava/lang/Integer;"), (0, .methodref 7 19), (0, .nameAndType 20 21), (0, u "equals"), (0, u "(Ljava/lang/Object;)Z"), (0, .class_ 23), (0, u "com/example/drain_warden/drainwarden/model/MemoryEqualsPinLaw"), (2, u "law"), (0, u "(I)Z")] 7

def k1m0 : Method := { name := "<init>", desc := "()V", sig := { parameters := [], returnType := none }, accessFlags := 2, code := none }
def k1c1 : Code := { maxStack := 4, maxLocals := 14, code := code, exceptionTable := #[], attributes := #[] }
def k1m1 : Method := { name := "law", desc := "(I)Z", sig := { parameters := [.int], returnType := some .boolean }, accessFlags := 9, code := some k1c1 }
/-- com/example/drain_warden/drainwarden/model/MemoryEqualsPinLaw -/
def k1 : Class := { plain "com/example/drain_warden/drainwarden/model/MemoryEqualsPinLaw" (some 0) with
  accessFlags := 49
  interfaces := #[]
  cf := some (fileOf pool1 22 #[] #[{ accessFlags := 2, nameIndex := 5, descriptorIndex := 6, attributes := #[] }, { accessFlags := 9, nameIndex := 26, descriptorIndex := 27, attributes := #[] }] 49 2 #[] #[])
  fields := #[]
  methods := #[k1m0, k1m1]
  instanceTypes := #[]
  staticTypes := #[]
  resolved := Array.replicate 35 none
  statics := none }

def pool2 : Array CpInfo := pool [(1, .methodref 2 3), (0, .class_ 4), (0, .nameAndType 5 6), (0, u "java/lang/Object"), (0, u "<init>"), (0, u "()V"), (0, .class_ 8), (0, u "java/lang/Record")] 13

def k2c0 : Code := { maxStack := 1, maxLocals := 1, code := jdk_30_method_1_code, exceptionTable := #[], attributes := #[] }
def k2m0 : Method := { name := "<init>", desc := "()V", sig := { parameters := [], returnType := none }, accessFlags := 4, code := some k2c0 }
/-- java/lang/Record -/
def k2 : Class := { plain "java/lang/Record" (some 0) with
  accessFlags := 1057
  interfaces := #[]
  cf := some (fileOf pool2 7 #[] #[{ accessFlags := 4, nameIndex := 5, descriptorIndex := 6, attributes := #[] }] 1057 2 #[] #[])
  fields := #[]
  methods := #[k2m0]
  instanceTypes := #[]
  staticTypes := #[]
  resolved := Array.replicate 22 none
  statics := none }

def pool3 : Array CpInfo := pool [(1, .methodref 2 3), (0, .class_ 4), (0, .nameAndType 5 6), (0, u "java/lang/Record"), (0, u "<init>"), (0, u "()V"), (0, .fieldref 8 9), (0, .class_ 10), (0, .nameAndType 11 12), (0, u "com/example/drain_warden/drainwarden/model/SaverRules$Memory"), (0, u "stickyOn"), (0, u "Z"), (0, .fieldref 8 14), (0, .nameAndType 15 12), (0, u "snoozed"), (12, u "(ZZ)V"), (2, u "NONE"), (0, u "Lcom/example/drain_warden/drainwarden/model/SaverRules$Memory;"), (3, u "equals"), (0, u "(Ljava/lang/Object;)Z"), (8, .class_ 47), (0, u "com/example/drain_warden/drainwarden/model/SaverRules")] 20

def k3c0 : Code := { maxStack := 2, maxLocals := 3, code := prog_31_method_1_code, exceptionTable := #[], attributes := #[] }
def k3m0 : Method := { name := "<init>", desc := "(ZZ)V", sig := { parameters := [.boolean, .boolean], returnType := none }, accessFlags := 1, code := some k3c0 }
def k3c1 : Code := { maxStack := 2, maxLocals := 3, code := prog_31_method_2_code, exceptionTable := #[], attributes := #[] }
def k3m1 : Method := { name := "equals", desc := "(Ljava/lang/Object;)Z", sig := { parameters := [(.object "java/lang/Object")], returnType := some .boolean }, accessFlags := 1, code := some k3c1 }
/-- com/example/drain_warden/drainwarden/model/SaverRules$Memory -/
def k3 : Class := { plain "com/example/drain_warden/drainwarden/model/SaverRules$Memory" (some 2) with
  accessFlags := 49
  interfaces := #[]
  cf := some (fileOf pool3 8 #[.nestHost 46] #[{ accessFlags := 1, nameIndex := 5, descriptorIndex := 28, attributes := #[] }, { accessFlags := 1, nameIndex := 36, descriptorIndex := 37, attributes := #[] }] 49 2 #[] #[{ accessFlags := 18, nameIndex := 11, descriptorIndex := 12, attributes := #[] }, { accessFlags := 18, nameIndex := 15, descriptorIndex := 12, attributes := #[] }, { accessFlags := 25, nameIndex := 31, descriptorIndex := 32, attributes := #[] }])
  fields := #[{ name := "stickyOn", type := .boolean, accessFlags := 18, slot := 0, constantValue := 0 }, { name := "snoozed", type := .boolean, accessFlags := 18, slot := 1, constantValue := 0 }, { name := "NONE", type := (.object "com/example/drain_warden/drainwarden/model/SaverRules$Memory"), accessFlags := 25, slot := 0, constantValue := 0 }]
  methods := #[k3m0, k3m1]
  instanceTypes := #[.boolean, .boolean]
  staticTypes := #[(.object "com/example/drain_warden/drainwarden/model/SaverRules$Memory")]
  resolved := Array.replicate 68 none
  statics := none }

def pool4 : Array CpInfo := pool [(1, .class_ 2), (0, u "java/io/Serializable"), (0, .class_ 4), (0, u "java/lang/Object")] 2

/-- java/io/Serializable -/
def k4 : Class := { plain "java/io/Serializable" (some 0) with
  accessFlags := 1537
  interfaces := #[]
  cf := some (fileOf pool4 1 #[] #[] 1537 3 #[] #[])
  fields := #[]
  methods := #[]
  instanceTypes := #[]
  staticTypes := #[]
  resolved := Array.replicate 7 none
  statics := none }

def pool5 : Array CpInfo := pool [(1, .methodref 2 3), (0, .class_ 4), (0, .nameAndType 5 6), (0, u "java/lang/Object"), (0, u "<init>"), (0, u "()V"), (1, .class_ 10), (1, u "java/lang/Number"), (2, .class_ 14), (0, u "java/io/Serializable"), (0, u "serialVersionUID"), (0, u "J")] 20

def k5c0 : Code := { maxStack := 1, maxLocals := 1, code := jdk_18_method_1_code, exceptionTable := #[], attributes := #[] }
def k5m0 : Method := { name := "<init>", desc := "()V", sig := { parameters := [], returnType := none }, accessFlags := 1, code := some k5c0 }
/-- java/lang/Number -/
def k5 : Class := { plain "java/lang/Number" (some 0) with
  accessFlags := 1057
  interfaces := #[4]
  cf := some (fileOf pool5 8 #[] #[{ accessFlags := 1, nameIndex := 5, descriptorIndex := 6, attributes := #[] }] 1057 2 #[13] #[{ accessFlags := 26, nameIndex := 15, descriptorIndex := 16, attributes := #[] }])
  fields := #[{ name := "serialVersionUID", type := .long, accessFlags := 26, slot := 0, constantValue := 0 }]
  methods := #[k5m0]
  instanceTypes := #[]
  staticTypes := #[.long]
  resolved := Array.replicate 37 none
  statics := none }

def pool6 : Array CpInfo := pool [(1, .class_ 2), (0, u "java/lang/Comparable"), (0, .class_ 4), (0, u "java/lang/Object")] 7

/-- java/lang/Comparable -/
def k6 : Class := { plain "java/lang/Comparable" (some 0) with
  accessFlags := 1537
  interfaces := #[]
  cf := some (fileOf pool6 1 #[] #[] 1537 3 #[] #[])
  fields := #[]
  methods := #[]
  instanceTypes := #[]
  staticTypes := #[]
  resolved := Array.replicate 12 none
  statics := none }

def pool7 : Array CpInfo := pool [(1, .class_ 2), (0, u "java/lang/constant/Constable"), (0, .class_ 4), (0, u "java/lang/Object")] 6

/-- java/lang/constant/Constable -/
def k7 : Class := { plain "java/lang/constant/Constable" (some 0) with
  accessFlags := 1537
  interfaces := #[]
  cf := some (fileOf pool7 1 #[] #[] 1537 3 #[] #[])
  fields := #[]
  methods := #[]
  instanceTypes := #[]
  staticTypes := #[]
  resolved := Array.replicate 11 none
  statics := none }

def pool8 : Array CpInfo := pool [(1, .class_ 2), (0, u "java/lang/constant/ConstantDesc"), (0, .class_ 4), (0, u "java/lang/Object")] 32

/-- java/lang/constant/ConstantDesc -/
def k8 : Class := { plain "java/lang/constant/ConstantDesc" (some 0) with
  accessFlags := 1537
  interfaces := #[]
  cf := some (fileOf pool8 1 #[] #[] 1537 3 #[] #[])
  fields := #[]
  methods := #[]
  instanceTypes := #[]
  staticTypes := #[]
  resolved := Array.replicate 37 none
  statics := none }

def pool9 : Array CpInfo := pool [(1, .class_ 2), (0, u "java/lang/Integer"), (16, u "digits"), (0, u "[C"), (46, u "<init>"), (17, u "DigitOnes"), (0, u "[B"), (2, u "DigitTens"), (10, .nameAndType 67 101), (0, u "()V"), (85, u "valueOf"), (0, u "(I)Ljava/lang/Integer;"), (0, .class_ 190), (0, u "java/lang/Integer$IntegerCache"), (0, .fieldref 189 192), (0, .nameAndType 193 194), (0, u "high"), (0, u "I"), (0, .fieldref 189 196), (0, .nameAndType 197 198), (0, u "cache"), (0, u "[Ljava/lang/Integer;"), (0, .methodref 1 200), (0, .nameAndType 67 201), (0, u "(I)V"), (0, .methodref 203 100), (0, .class_ 204), (0, u "java/lang/Number"), (0, .fieldref 1 206), (0, .nameAndType 207 194), (0, u "value"), (94, u "TYPE"), (0, u "Ljava/lang/Class;"), (0, .class_ 305), (0, u "java/lang/Comparable"), (0, .class_ 307), (0, u "java/lang/constant/Constable"), (0, .class_ 309), (0, u "java/lang/constant/ConstantDesc"), (0, u "MIN_VALUE"), (1, u "MAX_VALUE"), (3, u "SIZE"), (1, u "BYTES"), (1, u "serialVersionUID"), (0, u "J")] 131

def k9c0 : Code := { maxStack := 3, maxLocals := 1, code := jdk_33_method_22_code, exceptionTable := #[], attributes := #[] }
def k9m0 : Method := { name := "valueOf", desc := "(I)Ljava/lang/Integer;", sig := { parameters := [.int], returnType := some (.object "java/lang/Integer") }, accessFlags := 9, code := some k9c0 }
def k9c1 : Code := { maxStack := 2, maxLocals := 2, code := jdk_33_method_23_code, exceptionTable := #[], attributes := #[] }
def k9m1 : Method := { name := "<init>", desc := "(I)V", sig := { parameters := [.int], returnType := none }, accessFlags := 1, code := some k9c1 }
/-- java/lang/Integer -/
def k9 : Class := { plain "java/lang/Integer" (some 5) with
  accessFlags := 49
  interfaces := #[6, 7, 8]
  cf := some (fileOf pool9 1 #[.nestMembers #[189]] #[{ accessFlags := 9, nameIndex := 187, descriptorIndex := 188, attributes := #[] }, { accessFlags := 1, nameIndex := 67, descriptorIndex := 201, attributes := #[] }] 49 203 #[304, 306, 308] #[{ accessFlags := 25, nameIndex := 310, descriptorIndex := 194, attributes := #[] }, { accessFlags := 25, nameIndex := 312, descriptorIndex := 194, attributes := #[] }, { accessFlags := 25, nameIndex := 302, descriptorIndex := 303, attributes := #[] }, { accessFlags := 24, nameIndex := 19, descriptorIndex := 20, attributes := #[] }, { accessFlags := 24, nameIndex := 89, descriptorIndex := 86, attributes := #[] }, { accessFlags := 24, nameIndex := 85, descriptorIndex := 86, attributes := #[] }, { accessFlags := 18, nameIndex := 207, descriptorIndex := 194, attributes := #[] }, { accessFlags := 25, nameIndex := 316, descriptorIndex := 194, attributes := #[] }, { accessFlags := 25, nameIndex := 318, descriptorIndex := 194, attributes := #[] }, { accessFlags := 26, nameIndex := 320, descriptorIndex := 321, attributes := #[] }])
  fields := #[{ name := "MIN_VALUE", type := .int, accessFlags := 25, slot := 0, constantValue := 0 }, { name := "MAX_VALUE", type := .int, accessFlags := 25, slot := 1, constantValue := 0 }, { name := "TYPE", type := (.object "java/lang/Class"), accessFlags := 25, slot := 2, constantValue := 0 }, { name := "digits", type := (.array .char), accessFlags := 24, slot := 3, constantValue := 0 }, { name := "DigitTens", type := (.array .byte), accessFlags := 24, slot := 4, constantValue := 0 }, { name := "DigitOnes", type := (.array .byte), accessFlags := 24, slot := 5, constantValue := 0 }, { name := "value", type := .int, accessFlags := 18, slot := 0, constantValue := 0 }, { name := "SIZE", type := .int, accessFlags := 25, slot := 6, constantValue := 0 }, { name := "BYTES", type := .int, accessFlags := 25, slot := 7, constantValue := 0 }, { name := "serialVersionUID", type := .long, accessFlags := 26, slot := 8, constantValue := 0 }]
  methods := #[k9m0, k9m1]
  instanceTypes := #[.int]
  staticTypes := #[.int, .int, (.object "java/lang/Class"), (.array .char), (.array .byte), (.array .byte), .int, .int, .long]
  resolved := Array.replicate 453 none
  statics := none }

def pool10 : Array CpInfo := pool [(2, .class_ 4), (1, u "java/lang/Object"), (0, u "<init>"), (0, u "()V"), (0, .class_ 8), (0, u "java/lang/Integer"), (7, .class_ 18), (1, u "java/lang/Integer$IntegerCache"), (0, u "$assertionsDisabled"), (0, u "Z"), (26, u "high"), (0, u "I"), (8, u "archivedCache"), (0, u "[Ljava/lang/Integer;"), (12, u "cache"), (0, u "low")] 27

def k10m0 : Method := { name := "<init>", desc := "()V", sig := { parameters := [], returnType := none }, accessFlags := 2, code := none }
/-- java/lang/Integer$IntegerCache -/
def k10 : Class := { plain "java/lang/Integer$IntegerCache" (some 0) with
  accessFlags := 48
  interfaces := #[]
  cf := some (fileOf pool10 16 #[.nestHost 7] #[{ accessFlags := 2, nameIndex := 5, descriptorIndex := 6, attributes := #[] }] 48 2 #[] #[{ accessFlags := 24, nameIndex := 72, descriptorIndex := 48, attributes := #[] }, { accessFlags := 24, nameIndex := 47, descriptorIndex := 48, attributes := #[] }, { accessFlags := 24, nameIndex := 71, descriptorIndex := 58, attributes := #[] }, { accessFlags := 8, nameIndex := 57, descriptorIndex := 58, attributes := #[] }, { accessFlags := 4120, nameIndex := 19, descriptorIndex := 20, attributes := #[] }])
  fields := #[{ name := "low", type := .int, accessFlags := 24, slot := 0, constantValue := 0 }, { name := "high", type := .int, accessFlags := 24, slot := 1, constantValue := 0 }, { name := "cache", type := (.array (.object "java/lang/Integer")), accessFlags := 24, slot := 2, constantValue := 0 }, { name := "archivedCache", type := (.array (.object "java/lang/Integer")), accessFlags := 8, slot := 3, constantValue := 0 }, { name := "$assertionsDisabled", type := .boolean, accessFlags := 4120, slot := 4, constantValue := 0 }]
  methods := #[k10m0]
  instanceTypes := #[]
  staticTypes := #[.int, .int, (.array (.object "java/lang/Integer")), (.array (.object "java/lang/Integer")), .boolean]
  resolved := Array.replicate 100 none
  statics := some 0 }

def pool11 : Array CpInfo := pool [(1, u "java/lang/Cloneable"), (0, .class_ 1), (0, u "java/lang/Object"), (0, .class_ 3)] 3

/-- java/lang/Cloneable -/
def k11 : Class := { plain "java/lang/Cloneable" (some 0) with
  accessFlags := 1537
  interfaces := #[]
  cf := some (fileOf pool11 2 #[] #[] 1537 4 #[] #[])
  fields := #[]
  methods := #[]
  instanceTypes := #[]
  staticTypes := #[]
  resolved := Array.replicate 8 none
  statics := none }

/-- the primitive byte -/
def k12 : Class := { plain "byte" none with kind := .primitive 'B', accessFlags := 0x411 }
/-- [B -/
def k13 : Class := { plain "[B" (some 0) with kind := .array 12 .byte, interfaces := #[11, 4], accessFlags := 1041 }

/-- the primitive int -/
def k14 : Class := { plain "int" none with kind := .primitive 'I', accessFlags := 0x411 }
/-- [I -/
def k15 : Class := { plain "[I" (some 0) with kind := .array 14 .int, interfaces := #[11, 4], accessFlags := 1041 }

/-- [Ljava/lang/Integer; -/
def k16 : Class := { plain "[Ljava/lang/Integer;" (some 0) with kind := .array 9 (.object "java/lang/Integer"), interfaces := #[11, 4], accessFlags := 1041 }

def heap : Heap := #[{ cls := 10, slots := #[.int 0, .int 127, .ref 1, .null, .int 0], vm := .statics 10 },
  { cls := 16, slots := #[.ref 2, .ref 3, .ref 4, .ref 5, .ref 6, .ref 7, .ref 8, .ref 9, .ref 10, .ref 11, .ref 12, .ref 13, .ref 14, .ref 15, .ref 16, .ref 17, .ref 18, .ref 19, .ref 20, .ref 21, .ref 22, .ref 23, .ref 24, .ref 25, .ref 26, .ref 27, .ref 28, .ref 29, .ref 30, .ref 31, .ref 32, .ref 33, .ref 34, .ref 35, .ref 36, .ref 37, .ref 38, .ref 39, .ref 40, .ref 41, .ref 42, .ref 43, .ref 44, .ref 45, .ref 46, .ref 47, .ref 48, .ref 49, .ref 50, .ref 51, .ref 52, .ref 53, .ref 54, .ref 55, .ref 56, .ref 57, .ref 58, .ref 59, .ref 60, .ref 61, .ref 62, .ref 63, .ref 64, .ref 65, .ref 66, .ref 67, .ref 68, .ref 69, .ref 70, .ref 71, .ref 72, .ref 73, .ref 74, .ref 75, .ref 76, .ref 77, .ref 78, .ref 79, .ref 80, .ref 81, .ref 82, .ref 83, .ref 84, .ref 85, .ref 86, .ref 87, .ref 88, .ref 89, .ref 90, .ref 91, .ref 92, .ref 93, .ref 94, .ref 95, .ref 96, .ref 97, .ref 98, .ref 99, .ref 100, .ref 101, .ref 102, .ref 103, .ref 104, .ref 105, .ref 106, .ref 107, .ref 108, .ref 109, .ref 110, .ref 111, .ref 112, .ref 113, .ref 114, .ref 115, .ref 116, .ref 117, .ref 118, .ref 119, .ref 120, .ref 121, .ref 122, .ref 123, .ref 124, .ref 125, .ref 126, .ref 127, .ref 128, .ref 129, .ref 130, .ref 131, .ref 132, .ref 133, .ref 134, .ref 135, .ref 136, .ref 137, .ref 138, .ref 139, .ref 140, .ref 141, .ref 142, .ref 143, .ref 144, .ref 145, .ref 146, .ref 147, .ref 148, .ref 149, .ref 150, .ref 151, .ref 152, .ref 153, .ref 154, .ref 155, .ref 156, .ref 157, .ref 158, .ref 159, .ref 160, .ref 161, .ref 162, .ref 163, .ref 164, .ref 165, .ref 166, .ref 167, .ref 168, .ref 169, .ref 170, .ref 171, .ref 172, .ref 173, .ref 174, .ref 175, .ref 176, .ref 177, .ref 178, .ref 179, .ref 180, .ref 181, .ref 182, .ref 183, .ref 184, .ref 185, .ref 186, .ref 187, .ref 188, .ref 189, .ref 190, .ref 191, .ref 192, .ref 193, .ref 194, .ref 195, .ref 196, .ref 197, .ref 198, .ref 199, .ref 200, .ref 201, .ref 202, .ref 203, .ref 204, .ref 205, .ref 206, .ref 207, .ref 208, .ref 209, .ref 210, .ref 211, .ref 212, .ref 213, .ref 214, .ref 215, .ref 216, .ref 217, .ref 218, .ref 219, .ref 220, .ref 221, .ref 222, .ref 223, .ref 224, .ref 225, .ref 226, .ref 227, .ref 228, .ref 229, .ref 230, .ref 231, .ref 232, .ref 233, .ref 234, .ref 235, .ref 236, .ref 237, .ref 238, .ref 239, .ref 240, .ref 241, .ref 242, .ref 243, .ref 244, .ref 245, .ref 246, .ref 247, .ref 248, .ref 249, .ref 250, .ref 251, .ref 252, .ref 253, .ref 254, .ref 255, .ref 256, .ref 257], vm := .none },
  { cls := 9, slots := #[.int (-128)], vm := .none },
  { cls := 9, slots := #[.int (-127)], vm := .none },
  { cls := 9, slots := #[.int (-126)], vm := .none },
  { cls := 9, slots := #[.int (-125)], vm := .none },
  { cls := 9, slots := #[.int (-124)], vm := .none },
  { cls := 9, slots := #[.int (-123)], vm := .none },
  { cls := 9, slots := #[.int (-122)], vm := .none },
  { cls := 9, slots := #[.int (-121)], vm := .none },
  { cls := 9, slots := #[.int (-120)], vm := .none },
  { cls := 9, slots := #[.int (-119)], vm := .none },
  { cls := 9, slots := #[.int (-118)], vm := .none },
  { cls := 9, slots := #[.int (-117)], vm := .none },
  { cls := 9, slots := #[.int (-116)], vm := .none },
  { cls := 9, slots := #[.int (-115)], vm := .none },
  { cls := 9, slots := #[.int (-114)], vm := .none },
  { cls := 9, slots := #[.int (-113)], vm := .none },
  { cls := 9, slots := #[.int (-112)], vm := .none },
  { cls := 9, slots := #[.int (-111)], vm := .none },
  { cls := 9, slots := #[.int (-110)], vm := .none },
  { cls := 9, slots := #[.int (-109)], vm := .none },
  { cls := 9, slots := #[.int (-108)], vm := .none },
  { cls := 9, slots := #[.int (-107)], vm := .none },
  { cls := 9, slots := #[.int (-106)], vm := .none },
  { cls := 9, slots := #[.int (-105)], vm := .none },
  { cls := 9, slots := #[.int (-104)], vm := .none },
  { cls := 9, slots := #[.int (-103)], vm := .none },
  { cls := 9, slots := #[.int (-102)], vm := .none },
  { cls := 9, slots := #[.int (-101)], vm := .none },
  { cls := 9, slots := #[.int (-100)], vm := .none },
  { cls := 9, slots := #[.int (-99)], vm := .none },
  { cls := 9, slots := #[.int (-98)], vm := .none },
  { cls := 9, slots := #[.int (-97)], vm := .none },
  { cls := 9, slots := #[.int (-96)], vm := .none },
  { cls := 9, slots := #[.int (-95)], vm := .none },
  { cls := 9, slots := #[.int (-94)], vm := .none },
  { cls := 9, slots := #[.int (-93)], vm := .none },
  { cls := 9, slots := #[.int (-92)], vm := .none },
  { cls := 9, slots := #[.int (-91)], vm := .none },
  { cls := 9, slots := #[.int (-90)], vm := .none },
  { cls := 9, slots := #[.int (-89)], vm := .none },
  { cls := 9, slots := #[.int (-88)], vm := .none },
  { cls := 9, slots := #[.int (-87)], vm := .none },
  { cls := 9, slots := #[.int (-86)], vm := .none },
  { cls := 9, slots := #[.int (-85)], vm := .none },
  { cls := 9, slots := #[.int (-84)], vm := .none },
  { cls := 9, slots := #[.int (-83)], vm := .none },
  { cls := 9, slots := #[.int (-82)], vm := .none },
  { cls := 9, slots := #[.int (-81)], vm := .none },
  { cls := 9, slots := #[.int (-80)], vm := .none },
  { cls := 9, slots := #[.int (-79)], vm := .none },
  { cls := 9, slots := #[.int (-78)], vm := .none },
  { cls := 9, slots := #[.int (-77)], vm := .none },
  { cls := 9, slots := #[.int (-76)], vm := .none },
  { cls := 9, slots := #[.int (-75)], vm := .none },
  { cls := 9, slots := #[.int (-74)], vm := .none },
  { cls := 9, slots := #[.int (-73)], vm := .none },
  { cls := 9, slots := #[.int (-72)], vm := .none },
  { cls := 9, slots := #[.int (-71)], vm := .none },
  { cls := 9, slots := #[.int (-70)], vm := .none },
  { cls := 9, slots := #[.int (-69)], vm := .none },
  { cls := 9, slots := #[.int (-68)], vm := .none },
  { cls := 9, slots := #[.int (-67)], vm := .none },
  { cls := 9, slots := #[.int (-66)], vm := .none },
  { cls := 9, slots := #[.int (-65)], vm := .none },
  { cls := 9, slots := #[.int (-64)], vm := .none },
  { cls := 9, slots := #[.int (-63)], vm := .none },
  { cls := 9, slots := #[.int (-62)], vm := .none },
  { cls := 9, slots := #[.int (-61)], vm := .none },
  { cls := 9, slots := #[.int (-60)], vm := .none },
  { cls := 9, slots := #[.int (-59)], vm := .none },
  { cls := 9, slots := #[.int (-58)], vm := .none },
  { cls := 9, slots := #[.int (-57)], vm := .none },
  { cls := 9, slots := #[.int (-56)], vm := .none },
  { cls := 9, slots := #[.int (-55)], vm := .none },
  { cls := 9, slots := #[.int (-54)], vm := .none },
  { cls := 9, slots := #[.int (-53)], vm := .none },
  { cls := 9, slots := #[.int (-52)], vm := .none },
  { cls := 9, slots := #[.int (-51)], vm := .none },
  { cls := 9, slots := #[.int (-50)], vm := .none },
  { cls := 9, slots := #[.int (-49)], vm := .none },
  { cls := 9, slots := #[.int (-48)], vm := .none },
  { cls := 9, slots := #[.int (-47)], vm := .none },
  { cls := 9, slots := #[.int (-46)], vm := .none },
  { cls := 9, slots := #[.int (-45)], vm := .none },
  { cls := 9, slots := #[.int (-44)], vm := .none },
  { cls := 9, slots := #[.int (-43)], vm := .none },
  { cls := 9, slots := #[.int (-42)], vm := .none },
  { cls := 9, slots := #[.int (-41)], vm := .none },
  { cls := 9, slots := #[.int (-40)], vm := .none },
  { cls := 9, slots := #[.int (-39)], vm := .none },
  { cls := 9, slots := #[.int (-38)], vm := .none },
  { cls := 9, slots := #[.int (-37)], vm := .none },
  { cls := 9, slots := #[.int (-36)], vm := .none },
  { cls := 9, slots := #[.int (-35)], vm := .none },
  { cls := 9, slots := #[.int (-34)], vm := .none },
  { cls := 9, slots := #[.int (-33)], vm := .none },
  { cls := 9, slots := #[.int (-32)], vm := .none },
  { cls := 9, slots := #[.int (-31)], vm := .none },
  { cls := 9, slots := #[.int (-30)], vm := .none },
  { cls := 9, slots := #[.int (-29)], vm := .none },
  { cls := 9, slots := #[.int (-28)], vm := .none },
  { cls := 9, slots := #[.int (-27)], vm := .none },
  { cls := 9, slots := #[.int (-26)], vm := .none },
  { cls := 9, slots := #[.int (-25)], vm := .none },
  { cls := 9, slots := #[.int (-24)], vm := .none },
  { cls := 9, slots := #[.int (-23)], vm := .none },
  { cls := 9, slots := #[.int (-22)], vm := .none },
  { cls := 9, slots := #[.int (-21)], vm := .none },
  { cls := 9, slots := #[.int (-20)], vm := .none },
  { cls := 9, slots := #[.int (-19)], vm := .none },
  { cls := 9, slots := #[.int (-18)], vm := .none },
  { cls := 9, slots := #[.int (-17)], vm := .none },
  { cls := 9, slots := #[.int (-16)], vm := .none },
  { cls := 9, slots := #[.int (-15)], vm := .none },
  { cls := 9, slots := #[.int (-14)], vm := .none },
  { cls := 9, slots := #[.int (-13)], vm := .none },
  { cls := 9, slots := #[.int (-12)], vm := .none },
  { cls := 9, slots := #[.int (-11)], vm := .none },
  { cls := 9, slots := #[.int (-10)], vm := .none },
  { cls := 9, slots := #[.int (-9)], vm := .none },
  { cls := 9, slots := #[.int (-8)], vm := .none },
  { cls := 9, slots := #[.int (-7)], vm := .none },
  { cls := 9, slots := #[.int (-6)], vm := .none },
  { cls := 9, slots := #[.int (-5)], vm := .none },
  { cls := 9, slots := #[.int (-4)], vm := .none },
  { cls := 9, slots := #[.int (-3)], vm := .none },
  { cls := 9, slots := #[.int (-2)], vm := .none },
  { cls := 9, slots := #[.int (-1)], vm := .none },
  { cls := 9, slots := #[.int 0], vm := .none },
  { cls := 9, slots := #[.int 1], vm := .none },
  { cls := 9, slots := #[.int 2], vm := .none },
  { cls := 9, slots := #[.int 3], vm := .none },
  { cls := 9, slots := #[.int 4], vm := .none },
  { cls := 9, slots := #[.int 5], vm := .none },
  { cls := 9, slots := #[.int 6], vm := .none },
  { cls := 9, slots := #[.int 7], vm := .none },
  { cls := 9, slots := #[.int 8], vm := .none },
  { cls := 9, slots := #[.int 9], vm := .none },
  { cls := 9, slots := #[.int 10], vm := .none },
  { cls := 9, slots := #[.int 11], vm := .none },
  { cls := 9, slots := #[.int 12], vm := .none },
  { cls := 9, slots := #[.int 13], vm := .none },
  { cls := 9, slots := #[.int 14], vm := .none },
  { cls := 9, slots := #[.int 15], vm := .none },
  { cls := 9, slots := #[.int 16], vm := .none },
  { cls := 9, slots := #[.int 17], vm := .none },
  { cls := 9, slots := #[.int 18], vm := .none },
  { cls := 9, slots := #[.int 19], vm := .none },
  { cls := 9, slots := #[.int 20], vm := .none },
  { cls := 9, slots := #[.int 21], vm := .none },
  { cls := 9, slots := #[.int 22], vm := .none },
  { cls := 9, slots := #[.int 23], vm := .none },
  { cls := 9, slots := #[.int 24], vm := .none },
  { cls := 9, slots := #[.int 25], vm := .none },
  { cls := 9, slots := #[.int 26], vm := .none },
  { cls := 9, slots := #[.int 27], vm := .none },
  { cls := 9, slots := #[.int 28], vm := .none },
  { cls := 9, slots := #[.int 29], vm := .none },
  { cls := 9, slots := #[.int 30], vm := .none },
  { cls := 9, slots := #[.int 31], vm := .none },
  { cls := 9, slots := #[.int 32], vm := .none },
  { cls := 9, slots := #[.int 33], vm := .none },
  { cls := 9, slots := #[.int 34], vm := .none },
  { cls := 9, slots := #[.int 35], vm := .none },
  { cls := 9, slots := #[.int 36], vm := .none },
  { cls := 9, slots := #[.int 37], vm := .none },
  { cls := 9, slots := #[.int 38], vm := .none },
  { cls := 9, slots := #[.int 39], vm := .none },
  { cls := 9, slots := #[.int 40], vm := .none },
  { cls := 9, slots := #[.int 41], vm := .none },
  { cls := 9, slots := #[.int 42], vm := .none },
  { cls := 9, slots := #[.int 43], vm := .none },
  { cls := 9, slots := #[.int 44], vm := .none },
  { cls := 9, slots := #[.int 45], vm := .none },
  { cls := 9, slots := #[.int 46], vm := .none },
  { cls := 9, slots := #[.int 47], vm := .none },
  { cls := 9, slots := #[.int 48], vm := .none },
  { cls := 9, slots := #[.int 49], vm := .none },
  { cls := 9, slots := #[.int 50], vm := .none },
  { cls := 9, slots := #[.int 51], vm := .none },
  { cls := 9, slots := #[.int 52], vm := .none },
  { cls := 9, slots := #[.int 53], vm := .none },
  { cls := 9, slots := #[.int 54], vm := .none },
  { cls := 9, slots := #[.int 55], vm := .none },
  { cls := 9, slots := #[.int 56], vm := .none },
  { cls := 9, slots := #[.int 57], vm := .none },
  { cls := 9, slots := #[.int 58], vm := .none },
  { cls := 9, slots := #[.int 59], vm := .none },
  { cls := 9, slots := #[.int 60], vm := .none },
  { cls := 9, slots := #[.int 61], vm := .none },
  { cls := 9, slots := #[.int 62], vm := .none },
  { cls := 9, slots := #[.int 63], vm := .none },
  { cls := 9, slots := #[.int 64], vm := .none },
  { cls := 9, slots := #[.int 65], vm := .none },
  { cls := 9, slots := #[.int 66], vm := .none },
  { cls := 9, slots := #[.int 67], vm := .none },
  { cls := 9, slots := #[.int 68], vm := .none },
  { cls := 9, slots := #[.int 69], vm := .none },
  { cls := 9, slots := #[.int 70], vm := .none },
  { cls := 9, slots := #[.int 71], vm := .none },
  { cls := 9, slots := #[.int 72], vm := .none },
  { cls := 9, slots := #[.int 73], vm := .none },
  { cls := 9, slots := #[.int 74], vm := .none },
  { cls := 9, slots := #[.int 75], vm := .none },
  { cls := 9, slots := #[.int 76], vm := .none },
  { cls := 9, slots := #[.int 77], vm := .none },
  { cls := 9, slots := #[.int 78], vm := .none },
  { cls := 9, slots := #[.int 79], vm := .none },
  { cls := 9, slots := #[.int 80], vm := .none },
  { cls := 9, slots := #[.int 81], vm := .none },
  { cls := 9, slots := #[.int 82], vm := .none },
  { cls := 9, slots := #[.int 83], vm := .none },
  { cls := 9, slots := #[.int 84], vm := .none },
  { cls := 9, slots := #[.int 85], vm := .none },
  { cls := 9, slots := #[.int 86], vm := .none },
  { cls := 9, slots := #[.int 87], vm := .none },
  { cls := 9, slots := #[.int 88], vm := .none },
  { cls := 9, slots := #[.int 89], vm := .none },
  { cls := 9, slots := #[.int 90], vm := .none },
  { cls := 9, slots := #[.int 91], vm := .none },
  { cls := 9, slots := #[.int 92], vm := .none },
  { cls := 9, slots := #[.int 93], vm := .none },
  { cls := 9, slots := #[.int 94], vm := .none },
  { cls := 9, slots := #[.int 95], vm := .none },
  { cls := 9, slots := #[.int 96], vm := .none },
  { cls := 9, slots := #[.int 97], vm := .none },
  { cls := 9, slots := #[.int 98], vm := .none },
  { cls := 9, slots := #[.int 99], vm := .none },
  { cls := 9, slots := #[.int 100], vm := .none },
  { cls := 9, slots := #[.int 101], vm := .none },
  { cls := 9, slots := #[.int 102], vm := .none },
  { cls := 9, slots := #[.int 103], vm := .none },
  { cls := 9, slots := #[.int 104], vm := .none },
  { cls := 9, slots := #[.int 105], vm := .none },
  { cls := 9, slots := #[.int 106], vm := .none },
  { cls := 9, slots := #[.int 107], vm := .none },
  { cls := 9, slots := #[.int 108], vm := .none },
  { cls := 9, slots := #[.int 109], vm := .none },
  { cls := 9, slots := #[.int 110], vm := .none },
  { cls := 9, slots := #[.int 111], vm := .none },
  { cls := 9, slots := #[.int 112], vm := .none },
  { cls := 9, slots := #[.int 113], vm := .none },
  { cls := 9, slots := #[.int 114], vm := .none },
  { cls := 9, slots := #[.int 115], vm := .none },
  { cls := 9, slots := #[.int 116], vm := .none },
  { cls := 9, slots := #[.int 117], vm := .none },
  { cls := 9, slots := #[.int 118], vm := .none },
  { cls := 9, slots := #[.int 119], vm := .none },
  { cls := 9, slots := #[.int 120], vm := .none },
  { cls := 9, slots := #[.int 121], vm := .none },
  { cls := 9, slots := #[.int 122], vm := .none },
  { cls := 9, slots := #[.int 123], vm := .none },
  { cls := 9, slots := #[.int 124], vm := .none },
  { cls := 9, slots := #[.int 125], vm := .none },
  { cls := 9, slots := #[.int 126], vm := .none },
  { cls := 9, slots := #[.int 127], vm := .none }]
def classes : Array Class := #[k0, k1, k2, k3, k4, k5, k6, k7, k8, k9, k10, k11, k12, k13, k14, k15, k16]
def interned : List (Array UInt16 × Addr) := []
def slotsUsed : Nat := 517
def theMethod : MethodId := ⟨1, 1⟩
def args0 : Array Value := #[.int 5]
def aboutOver (below : List Frame) : State where
  vm := { classes := classes, interned := interned.toArray }
  heap := heap
  slotsUsed := slotsUsed
  threads := #[{ frames := .invoking theMethod args0 :: below }]
def below0 : List Frame := [.native { method := ⟨0, 0⟩, args := #[] }]
def about1 : State := aboutOver below0
def p0 : Program := .bare "" "" ""
def e0 : Env := launch0.env 0 0 0
theorem w_frames : about1.frames = Frame.invoking theMethod args0 :: below0 := rfl
set_option maxRecDepth 65536 in
theorem w_args : argsFit about1.vm theMethod args0 = true := by decide +kernel
set_option maxRecDepth 65536 in
theorem w_heap : heapFits about1 = true := by decide +kernel
set_option maxRecDepth 65536 in
theorem w_runnable : about1.curStatus? = some .runnable := by decide +kernel
set_option maxRecDepth 65536 in
theorem w_alone : about1.alone = true := by decide +kernel
set_option maxRecDepth 65536 in
theorem w_named : about1.methodNamed? x = some theMethod := by decide +kernel
set_option maxRecDepth 65536 in
theorem w_hears : about1.hears theMethod below0 = true := by decide +kernel
set_option maxRecDepth 65536 in
theorem w_ripe : about1.ripe theMethod args0 below0 = true := by decide +kernel
theorem w_running : about1.status = .running := rfl
set_option maxRecDepth 65536 in
theorem w_room : about1.hasRoom e0.platform room_1 = true :=
  launch0.hasRoom_least _ room_1 (by decide +kernel) (by decide +kernel) (by decide +kernel) (by decide +kernel) (by decide +kernel) (by decide +kernel)
theorem allAtoms_all (ts : List Jvm.Cond) (a : Array Jvm.Value) (st : Jvm.State) : (allAtoms ts).before a st = ts.all (fun c => c.before a st) := by
  induction ts with
  | nil => rfl
  | cons c t ih =>
    show (Jvm.Cond.and c (allAtoms t)).before a st = _
    rw [Jvm.Cond.before_and, ih, List.all_cons]
def words1 : List Jvm.Cond := Jvm.Cond.code x code maxLocals ret :: tables_1
/-- a 'code' word, met by the world's own term for the bytes: nothing is compared byte by byte -/
theorem code_word {y : MethodName} {bytes : ByteArray} {mx : Nat} {rt : Option FieldType} {a : Array Value} {s : State} {m : MethodId} {meth : Method} {c : Code} (h1 : s.methodNamed? y = some m) (h2 : s.vm.method? m = some meth) (h3 : meth.code = some c) (h4 : c.code = bytes)
    (h5 : (c.maxLocals == mx && c.exceptionTable.isEmpty && decide (c.maxStack ≤ mostOperands) && decide (meth.sig.returnType = rt) && !meth.locks && decide (parseMethodDescriptor y.desc = some meth.sig)) = true) : (Jvm.Cond.code y bytes mx rt).before a s = true := by
  simp only [Bool.and_eq_true, beq_iff_eq, Bool.not_eq_true', decide_eq_true_eq] at h5
  obtain ⟨⟨⟨⟨⟨g1, g2⟩, g3⟩, g4⟩, g5⟩, g6⟩ := h5
  simp [Cond.before, Cond.holds, Cond.value, h1, h2, h3, h4, g1, g2, g3, g4, g5, g6]
def isCode : Jvm.Cond → Bool
  | .code _ _ _ _ => true
  | _ => false
theorem all_split {L : List Jvm.Cond} {P : Jvm.Cond → Bool} (h1 : L.all (fun c => isCode c || P c) = true) (h2 : ∀ c ∈ L.filter isCode, P c = true) : L.all P = true := by
  refine List.all_eq_true.mpr fun c hc => ?_
  have h := List.all_eq_true.mp h1 c hc
  rcases Bool.eq_false_or_eq_true (isCode c) with hi | hi
  · exact h2 c (List.mem_filter.mpr ⟨hc, hi⟩)
  · simpa [hi] using h
set_option maxRecDepth 65536 in
theorem w_c0 : (Jvm.Cond.code x code maxLocals ret).before args0 about1 = true := code_word (m := ⟨1, 1⟩) (meth := k1m1) (c := k1c1) (by decide +kernel) rfl rfl rfl (by decide +kernel)
set_option maxRecDepth 65536 in
theorem w_c1 : (Jvm.Cond.code ({ cls := "com/example/drain_warden/drainwarden/model/SaverRules$Memory", name := "<init>", desc := "(ZZ)V" } : Jvm.MethodName) prog_31_method_1_code (3 : Nat) (Option.none : Option Jvm.ClassFile.FieldType)).before args0 about1 = true := code_word (m := ⟨3, 0⟩) (meth := k3m0) (c := k3c0) (by decide +kernel) rfl rfl rfl (by decide +kernel)
set_option maxRecDepth 65536 in
theorem w_c2 : (Jvm.Cond.code ({ cls := "java/lang/Record", name := "<init>", desc := "()V" } : Jvm.MethodName) jdk_30_method_1_code (1 : Nat) (Option.none : Option Jvm.ClassFile.FieldType)).before args0 about1 = true := code_word (m := ⟨2, 0⟩) (meth := k2m0) (c := k2c0) (by decide +kernel) rfl rfl rfl (by decide +kernel)
set_option maxRecDepth 65536 in
theorem w_c3 : (Jvm.Cond.code ({ cls := "java/lang/Object", name := "<init>", desc := "()V" } : Jvm.MethodName) object_method_1_code (1 : Nat) (Option.none : Option Jvm.ClassFile.FieldType)).before args0 about1 = true := code_word (m := ⟨0, 0⟩) (meth := k0m0) (c := k0c0) (by decide +kernel) rfl rfl rfl (by decide +kernel)
set_option maxRecDepth 65536 in
theorem w_c4 : (Jvm.Cond.code ({ cls := "java/lang/Integer", name := "valueOf", desc := "(I)Ljava/lang/Integer;" } : Jvm.MethodName) jdk_33_method_22_code (1 : Nat) (Option.some (Jvm.ClassFile.FieldType.object "java/lang/Integer"))).before args0 about1 = true := code_word (m := ⟨9, 0⟩) (meth := k9m0) (c := k9c0) (by decide +kernel) rfl rfl rfl (by decide +kernel)
set_option maxRecDepth 65536 in
theorem w_c5 : (Jvm.Cond.code ({ cls := "com/example/drain_warden/drainwarden/model/SaverRules$Memory", name := "equals", desc := "(Ljava/lang/Object;)Z" } : Jvm.MethodName) prog_31_method_2_code (3 : Nat) (Option.some Jvm.ClassFile.FieldType.boolean)).before args0 about1 = true := code_word (m := ⟨3, 1⟩) (meth := k3m1) (c := k3c1) (by decide +kernel) rfl rfl rfl (by decide +kernel)
set_option maxRecDepth 65536 in
theorem w_c6 : (Jvm.Cond.code ({ cls := "java/lang/Integer", name := "<init>", desc := "(I)V" } : Jvm.MethodName) jdk_33_method_23_code (2 : Nat) (Option.none : Option Jvm.ClassFile.FieldType)).before args0 about1 = true := code_word (m := ⟨9, 1⟩) (meth := k9m1) (c := k9c1) (by decide +kernel) rfl rfl rfl (by decide +kernel)
set_option maxRecDepth 65536 in
theorem w_c7 : (Jvm.Cond.code ({ cls := "java/lang/Number", name := "<init>", desc := "()V" } : Jvm.MethodName) jdk_18_method_1_code (1 : Nat) (Option.none : Option Jvm.ClassFile.FieldType)).before args0 about1 = true := code_word (m := ⟨5, 0⟩) (meth := k5m0) (c := k5c0) (by decide +kernel) rfl rfl rfl (by decide +kernel)
def codes1 : List Jvm.Cond := [Jvm.Cond.code x code maxLocals ret, Jvm.Cond.code ({ cls := "com/example/drain_warden/drainwarden/model/SaverRules$Memory", name := "<init>", desc := "(ZZ)V" } : Jvm.MethodName) prog_31_method_1_code (3 : Nat) (Option.none : Option Jvm.ClassFile.FieldType), Jvm.Cond.code ({ cls := "java/lang/Record", name := "<init>", desc := "()V" } : Jvm.MethodName) jdk_30_method_1_code (1 : Nat) (Option.none : Option Jvm.ClassFile.FieldType), Jvm.Cond.code ({ cls := "java/lang/Object", name := "<init>", desc := "()V" } : Jvm.MethodName) object_method_1_code (1 : Nat) (Option.none : Option Jvm.ClassFile.FieldType), Jvm.Cond.code ({ cls := "java/lang/Integer", name := "valueOf", desc := "(I)Ljava/lang/Integer;" } : Jvm.MethodName) jdk_33_method_22_code (1 : Nat) (Option.some (Jvm.ClassFile.FieldType.object "java/lang/Integer")), Jvm.Cond.code ({ cls := "com/example/drain_warden/drainwarden/model/SaverRules$Memory", name := "equals", desc := "(Ljava/lang/Object;)Z" } : Jvm.MethodName) prog_31_method_2_code (3 : Nat) (Option.some Jvm.ClassFile.FieldType.boolean), Jvm.Cond.code ({ cls := "java/lang/Integer", name := "<init>", desc := "(I)V" } : Jvm.MethodName) jdk_33_method_23_code (2 : Nat) (Option.none : Option Jvm.ClassFile.FieldType), Jvm.Cond.code ({ cls := "java/lang/Number", name := "<init>", desc := "()V" } : Jvm.MethodName) jdk_18_method_1_code (1 : Nat) (Option.none : Option Jvm.ClassFile.FieldType)]
set_option maxRecDepth 65536 in
theorem codes_eq : words1.filter isCode = codes1 := rfl
theorem w_codes : ∀ c ∈ words1.filter isCode, c.before args0 about1 = true := by
  rw [codes_eq]
  intro c hc
  simp only [codes1, List.mem_cons, List.not_mem_nil, or_false] at hc
  rcases hc with rfl | rfl | rfl | rfl | rfl | rfl | rfl | rfl
  · exact w_c0
  · exact w_c1
  · exact w_c2
  · exact w_c3
  · exact w_c4
  · exact w_c5
  · exact w_c6
  · exact w_c7
set_option maxRecDepth 65536 in
theorem w_t1 : (words1.take 24).all (fun c => isCode c || c.before args0 about1) = true := by decide +kernel
set_option maxRecDepth 65536 in
theorem w_t2 : ((words1.drop 24).take 24).all (fun c => isCode c || c.before args0 about1) = true := by decide +kernel
set_option maxRecDepth 65536 in
theorem w_t3 : ((words1.drop 24).drop 24).all (fun c => isCode c || c.before args0 about1) = true := by decide +kernel
theorem w_tables : (allAtoms (Jvm.Cond.code x code maxLocals ret :: tables_1)).before args0 about1 = true := by
  rw [allAtoms_all]
  show words1.all (fun c => c.before args0 about1) = true
  refine all_split ?_ w_codes
  rw [← List.take_append_drop 24 words1, List.all_append, w_t1, ← List.take_append_drop 24 (words1.drop 24), List.all_append, w_t2, w_t3]
  rfl
set_option maxRecDepth 65536 in
theorem w_rest : rest_1_c.before args0 about1 = true := by decide +kernel
set_option maxRecDepth 65536 in
theorem w_case : (Jvm.Cond.and given_1 narrow_1).before args0 about1 = true := by decide +kernel
theorem w_applies : (headSpec (Jvm.Cond.code x code maxLocals ret :: tables_1) room_1).applies x e0.platform about1 = true :=
  (Spec.applies_iff w_frames).mpr ⟨w_running, w_runnable, w_alone, w_named, w_hears, w_ripe, w_room, w_tables⟩
theorem atStart : AtStart classFile x code maxLocals ret World_1 tables_1 room_1 Calls_1 rest_1 Pre_1 launch0 p0 e0 about1 theMethod args0 below0 :=
  ⟨lists_1, trivial, launch0.admits_env _ _ _, launch0.least_env, fairChoices_fair.cas, fairChoices_fair.clock, w_frames, w_args, w_heap, w_applies, trivial, w_rest, w_case⟩
end start1
theorem witness_1 : WitnessClaimed_1 := ⟨start1.p0, start1.e0, start1.about1, start1.theMethod, start1.args0, start1.below0, start1.atStart⟩
end Jvm.Pilot.@@N@@
