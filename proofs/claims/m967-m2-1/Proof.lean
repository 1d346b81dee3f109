import JvmDerived
import JvmDerived.Pilot.@@N@@Statement
import JvmDerived.Pilot.@@N@@Code
set_option linter.unusedVariables false
set_option linter.unusedSimpArgs false
namespace Jvm.OwnGo
open Sem ClassFile Op Lib Jvm.Stand Jvm.Free Jvm.LawKit Jvm.RoadKit
section Own
variable {p : Program} {l : Launch} {e : Env} {R : Room} {s : State} {m : MethodId} {args : Array Value} {below : List Frame} {meth : Method} {c : Code} {T T' : State} {locs : List Loc} {cells slots : Nat} {P : Outcome → State → Prop} {g g' : JFrame} {Z : State} {h : Heap}
/-- from where the walk stands (the state T, the frame g) it ends well -/
def Go (p : Program) (e : Env) (below : List Frame) (P : Outcome → State → Prop) (T : State) (g : JFrame) : Prop :=
  ∃ s₂ o, Steps p.tables e below (T.setTop g) s₂ ∧ s₂.status = .running ∧ Ended s₂ below o ∧ P o s₂
/-- what a contract asks of the end -/
abbrev PQ (s : State) (C S : Nat) (Q : Option Value → Heap → List Loc → Prop) : Outcome → State → Prop := fun o U' => ∃ v L, o = .returned v ∧ Q v U'.heap L ∧ FrameEnd s o U' L C S
theorem goS {n : Nat} {Ls' : Array Slot} {st' : List Value} (k : ∀ t, Steps p.tables e below (T'.setTop (mkF m n Ls' st')) t → Steps p.tables e below (T.setTop g) t) (h : Go p e below P T' (mkF m n Ls' st')) : Go p e below P T g := by
  obtain ⟨s2, o, h1, h2⟩ := h; exact ⟨s2, o, k _ h1, h2⟩
theorem goT {n : Nat} {Ls' : Array Slot} {st' : List Value} (k : Steps p.tables e below (T.setTop g) (T'.setTop (mkF m n Ls' st'))) (h : Go p e below P T' (mkF m n Ls' st')) : Go p e below P T g := by
  obtain ⟨s2, o, h1, h2⟩ := h; exact ⟨s2, o, k.trans h1, h2⟩
theorem enter (q : entryFrame m args n = g) (h : Go p e below P T g) : ∃ s₂ o, Steps p.tables e below (T.setTop (entryFrame m args n)) s₂ ∧ s₂.status = .running ∧ Ended s₂ below o ∧ P o s₂ := by
  rw [q]; exact h
theorem goRet {Q : Option Value → Heap → List Loc → Prop} {C S : Nat} (X : Stand p l e R s m args below meth c T locs cells slots) (hx : p.tables.exec = Jvm.exec) (hlk : meth.locks = false) {pc : Nat} {Ls : Array Slot} {w : Value} {t : FieldType} {i : Instr} {rest : List Value} (hret : meth.sig.returnType = some t) (hn : narrow t w = w)
    (hi : (i = .ireturn ∧ (t = .int ∨ t = .boolean ∨ t = .byte ∨ t = .char ∨ t = .short) ∧ ∃ z, w = .int z) ∨ (i = .lreturn ∧ t = .long ∧ ∃ z, w = .long z) ∨ (i = .dreturn ∧ t = .double ∧ ∃ z, w = .double z) ∨ (i = .freturn ∧ t = .float ∧ ∃ z, w = .float z) ∨ (i = .areturn ∧ t.isReference = true ∧ w.isRef = true))
    (hd : decode c.code pc = .ok (i, 1)) (hC : cells ≤ C) (hS : slots ≤ S) (hQ : Q (some w) T.heap locs) : Go p e below (PQ s C S Q) T (mkF m pc Ls (w :: rest)) := by
  obtain ⟨fs, hr, hrun, hended, hW, hsame⟩ := X.leave (v := some w) (fun h => by rw [hret] at h; cases h) hlk
  exact ⟨_, _, retOut X hx hret hn hi hd hr, hrun, hended, _, _, rfl, hQ, ⟨_, rfl⟩, hW, hsame.mono hC hS⟩
theorem goRetI {Q : Option Value → Heap → List Loc → Prop} {C S : Nat} (X : Stand p l e R s m args below meth c T locs cells slots) (hx : p.tables.exec = Jvm.exec) (hlk : meth.locks = false) {pc : Nat} {Ls : Array Slot} {z : Int32} {rest : List Value} (hret : meth.sig.returnType = some .int) (hd : decode c.code pc = .ok (.ireturn, 1)) (hC : cells ≤ C) (hS : slots ≤ S) (hQ : Q (some (.int z)) T.heap locs) : Go p e below (PQ s C S Q) T (mkF m pc Ls (.int z :: rest)) :=
  goRet X hx hlk hret rfl (Or.inl ⟨rfl, Or.inl rfl, _, rfl⟩) hd hC hS hQ
theorem goRetZ {Q : Option Value → Heap → List Loc → Prop} {C S : Nat} (X : Stand p l e R s m args below meth c T locs cells slots) (hx : p.tables.exec = Jvm.exec) (hlk : meth.locks = false) {pc : Nat} {Ls : Array Slot} {z : Int32} {rest : List Value} (hret : meth.sig.returnType = some .boolean) (hz : z = 0 ∨ z = 1) (hd : decode c.code pc = .ok (.ireturn, 1)) (hC : cells ≤ C) (hS : slots ≤ S) (hQ : Q (some (.int z)) T.heap locs) : Go p e below (PQ s C S Q) T (mkF m pc Ls (.int z :: rest)) :=
  goRet X hx hlk hret (by rcases hz with rfl | rfl <;> rfl) (Or.inl ⟨rfl, Or.inr (Or.inl rfl), _, rfl⟩) hd hC hS hQ
theorem goRetJ {Q : Option Value → Heap → List Loc → Prop} {C S : Nat} (X : Stand p l e R s m args below meth c T locs cells slots) (hx : p.tables.exec = Jvm.exec) (hlk : meth.locks = false) {pc : Nat} {Ls : Array Slot} {z : Int64} {rest : List Value} (hret : meth.sig.returnType = some .long) (hd : decode c.code pc = .ok (.lreturn, 1)) (hC : cells ≤ C) (hS : slots ≤ S) (hQ : Q (some (.long z)) T.heap locs) : Go p e below (PQ s C S Q) T (mkF m pc Ls (.long z :: rest)) :=
  goRet X hx hlk hret rfl (Or.inr (Or.inl ⟨rfl, rfl, _, rfl⟩)) hd hC hS hQ
theorem goRetA {Q : Option Value → Heap → List Loc → Prop} {C S : Nat} (X : Stand p l e R s m args below meth c T locs cells slots) (hx : p.tables.exec = Jvm.exec) (hlk : meth.locks = false) {pc : Nat} {Ls : Array Slot} {w : Value} {t : FieldType} {rest : List Value} (hret : meth.sig.returnType = some t) (ht : t.isReference = true) (hw : w.isRef = true) (hd : decode c.code pc = .ok (.areturn, 1)) (hC : cells ≤ C) (hS : slots ≤ S) (hQ : Q (some w) T.heap locs) : Go p e below (PQ s C S Q) T (mkF m pc Ls (w :: rest)) :=
  goRet X hx hlk hret (by cases t <;> first | rfl | cases ht) (Or.inr (Or.inr (Or.inr (Or.inr ⟨rfl, ht, hw⟩)))) hd hC hS hQ
theorem goRetV {Q : Option Value → Heap → List Loc → Prop} {C S : Nat} (X : Stand p l e R s m args below meth c T locs cells slots) (hx : p.tables.exec = Jvm.exec) (hlk : meth.locks = false) {pc : Nat} {Ls : Array Slot} (hret : meth.sig.returnType = none) (hd : decode c.code pc = .ok (.return_, 1)) (hC : cells ≤ C) (hS : slots ≤ S) (hQ : Q none T.heap locs) : Go p e below (PQ s C S Q) T (mkF m pc Ls []) := by
  obtain ⟨fs, hr, hrun, hended, hW, hsame⟩ := X.leave (v := none) (fun _ => rfl) hlk
  exact ⟨_, _, X.returnOut hx hret hd hr, hrun, hended, _, _, rfl, hQ, ⟨_, rfl⟩, hW, hsame.mono hC hS⟩
abbrev PQW (s : State) (C S : Nat) (Q : Option Value → Heap → List Loc → Prop) : Outcome → State → Prop := fun o U' => ∃ v L, o = .returned v ∧ Q v U'.heap L ∧ ReturnedEndW s o U' L C S
theorem goRetW {Q : Option Value → Heap → List Loc → Prop} {C S : Nat} {vm₁ : Vm} (X : Stand p l e R (s.setVm vm₁) m args below meth c T locs cells slots) (hx : p.tables.exec = Jvm.exec) (hlk : meth.locks = false) {n : Nat} (hS : s.Since vm₁ n) (hn0 : n ≤ T.heap.size) {pc : Nat} {Ls : Array Slot} {w : Value} {t : FieldType} {i : Instr} {rest : List Value} (hret : meth.sig.returnType = some t) (hn : narrow t w = w)
    (hi : (i = .ireturn ∧ (t = .int ∨ t = .boolean ∨ t = .byte ∨ t = .char ∨ t = .short) ∧ ∃ z, w = .int z) ∨ (i = .lreturn ∧ t = .long ∧ ∃ z, w = .long z) ∨ (i = .dreturn ∧ t = .double ∧ ∃ z, w = .double z) ∨ (i = .freturn ∧ t = .float ∧ ∃ z, w = .float z) ∨ (i = .areturn ∧ t.isReference = true ∧ w.isRef = true))
    (hd : decode c.code pc = .ok (i, 1)) (hC : cells ≤ C) (hSl : slots ≤ S) (hQ : Q (some w) T.heap locs) : Go p e below (PQW s C S Q) T (mkF m pc Ls (w :: rest)) := by
  obtain ⟨fs, hr, hrun, hended, h1, h2, h3, h4⟩ := X.leaveW hS hn0 (v := some w) (fun h => by rw [hret] at h; cases h) hlk
  exact ⟨_, _, retOut X hx hret hn hi hd hr, hrun, hended, _, _, rfl, hQ, ⟨_, rfl⟩, h2, h3, h4.mono hC hSl⟩
theorem goRetVW {Q : Option Value → Heap → List Loc → Prop} {C S : Nat} {vm₁ : Vm} (X : Stand p l e R (s.setVm vm₁) m args below meth c T locs cells slots) (hx : p.tables.exec = Jvm.exec) (hlk : meth.locks = false) {n : Nat} (hS : s.Since vm₁ n) (hn0 : n ≤ T.heap.size) {pc : Nat} {Ls : Array Slot} (hret : meth.sig.returnType = none) (hd : decode c.code pc = .ok (.return_, 1)) (hC : cells ≤ C) (hSl : slots ≤ S) (hQ : Q none T.heap locs) : Go p e below (PQW s C S Q) T (mkF m pc Ls []) := by
  obtain ⟨fs, hr, hrun, hended, h1, h2, h3, h4⟩ := X.leaveW hS hn0 (v := none) (fun _ => rfl) hlk
  exact ⟨_, _, X.returnOut hx hret hd hr, hrun, hended, _, _, rfl, hQ, ⟨_, rfl⟩, h2, h3, h4.mono hC hSl⟩
abbrev PQH (Z : State) (EL : List (String × Nat)) (s : State) (C S : Nat) (Q : Option Value → Heap → List Loc → Prop) : Outcome → State → Prop := fun o U' => ∃ v L, o = .returned v ∧ Q v U'.heap L ∧ CHr Z EL s.vm s.heap U'.vm U'.heap ∧ ReturnedEndW s o U' L C S
theorem goRetH {Q : Option Value → Heap → List Loc → Prop} {C S : Nat} {vm₁ : Vm} {EL : List (String × Nat)} {a0 : Array Value} (X : Stand p l e R (s.setVm vm₁) m args below meth c T locs cells slots) (hx : p.tables.exec = Jvm.exec) (hlk : meth.locks = false) {n : Nat} (hS : s.Since vm₁ n) (hn0 : n ≤ T.heap.size) (hZ : Z.Warmed39 vm₁) (hEL : EW Z a0 EL) (hC' : CHr Z EL s.vm s.heap vm₁ T.heap) {pc : Nat} {Ls : Array Slot} {w : Value} {t : FieldType} {i : Instr} {rest : List Value} (hret : meth.sig.returnType = some t) (hn : narrow t w = w)
    (hi : (i = .ireturn ∧ (t = .int ∨ t = .boolean ∨ t = .byte ∨ t = .char ∨ t = .short) ∧ ∃ z, w = .int z) ∨ (i = .lreturn ∧ t = .long ∧ ∃ z, w = .long z) ∨ (i = .dreturn ∧ t = .double ∧ ∃ z, w = .double z) ∨ (i = .freturn ∧ t = .float ∧ ∃ z, w = .float z) ∨ (i = .areturn ∧ t.isReference = true ∧ w.isRef = true))
    (hd : decode c.code pc = .ok (i, 1)) (hC : cells ≤ C) (hSl : slots ≤ S) (hQ : Q (some w) T.heap locs) : Go p e below (PQH Z EL s C S Q) T (mkF m pc Ls (w :: rest)) := by
  obtain ⟨fs, hr, hrun, hended, h1, h2, h3, h4⟩ := X.leaveW hS hn0 (v := some w) (fun h => by rw [hret] at h; cases h) hlk
  have qC : CHr Z EL s.vm s.heap T.vm T.heap := hC'.trans (CHv.at X hZ hEL hC'.1)
  exact ⟨_, _, retOut X hx hret hn hi hd hr, hrun, hended, _, _, rfl, hQ, qC, ⟨_, rfl⟩, h2, h3, h4.mono hC hSl⟩
theorem goRetVH {Q : Option Value → Heap → List Loc → Prop} {C S : Nat} {vm₁ : Vm} {EL : List (String × Nat)} {a0 : Array Value} (X : Stand p l e R (s.setVm vm₁) m args below meth c T locs cells slots) (hx : p.tables.exec = Jvm.exec) (hlk : meth.locks = false) {n : Nat} (hS : s.Since vm₁ n) (hn0 : n ≤ T.heap.size) (hZ : Z.Warmed39 vm₁) (hEL : EW Z a0 EL) (hC' : CHr Z EL s.vm s.heap vm₁ T.heap) {pc : Nat} {Ls : Array Slot} (hret : meth.sig.returnType = none) (hd : decode c.code pc = .ok (.return_, 1)) (hC : cells ≤ C) (hSl : slots ≤ S) (hQ : Q none T.heap locs) : Go p e below (PQH Z EL s C S Q) T (mkF m pc Ls []) := by
  obtain ⟨fs, hr, hrun, hended, h1, h2, h3, h4⟩ := X.leaveW hS hn0 (v := none) (fun _ => rfl) hlk
  have qC : CHr Z EL s.vm s.heap T.vm T.heap := hC'.trans (CHv.at X hZ hEL hC'.1)
  exact ⟨_, _, X.returnOut hx hret hd hr, hrun, hended, _, _, rfl, hQ, qC, ⟨_, rfl⟩, h2, h3, h4.mono hC hSl⟩
/-- a String under construction (its value is null) is no booked one -/
theorem safeNull {vm : Vm} {EL : List (String × Nat)} {a : Addr} (hal : Z.vm.Alike vm) (E : Exa Z h a "java/lang/String") (F : Fld Z h a "java/lang/String" "value" "[B" .null) : Safe Z EL vm h a := fun B => by
  obtain ⟨cell, cf, k, i, f, f1, f2, f3, f4, f5, f6, f7⟩ := F
  obtain ⟨cell', k', e1, e2, e3, -, -⟩ := E
  cases f1.symm.trans e1
  obtain ⟨p, -, u, a', -, q, -, F', rfl | rfl⟩ := B
  · have ha := F'.ha
    cases (show h[q.sa]? = some q.sC from ha).symm.trans f1
    obtain ⟨cS, ⟨⟨-, -, -, ⟨cv, kv, iv, s4, -⟩, -, -, -, s8, -⟩, -⟩, -⟩ := F'
    obtain ⟨kv', z4⟩ := ff_back (U := Wst Z vm h) hal s4
    cases f2.symm.trans z4
    rw [f7] at s8
    cases s8
  · have hd := F'.hd
    cases (show h[q.sd]? = some q.SA from hd).symm.trans f1
    obtain ⟨cS, -, -, hB, -⟩ := F'
    have hB' : Z.vm.findClass "[B" = some q.SA.cls := by rw [← hal.findClass]; exact hB
    obtain ⟨k1, q1, q2⟩ := Vm.findClass_spec hB'
    obtain ⟨k2, q3, q4⟩ := Vm.findClass_spec e2
    cases q1.symm.trans q3
    exact absurd (q2.symm.trans q4) (by decide)
theorem mvMN {a0 args : Array Value} {own host : String} {y : MethodName} {index : Nat} (hZ : Z.Warmed39 s.vm) (w : (Cond.methodLinkNest own index y host).before a0 Z = true) : (Cond.methodLinkNest own index y host).before args s = true := (Cond.methodLinkNest_wide hZ w :)
theorem shr0 (z : Int32) : z >>> ((0 : Int32) &&& 31) = z := by
  have h := c_ishr z 0 0 (by decide)
  exact Int32.toInt_inj.mp (by rw [h]; omega)
theorem narZ {z : Int32} (hz : z = 0 ∨ z = 1) : narrow .boolean (.int z) = .int z := by rcases hz with rfl | rfl <;> rfl
theorem fldStart {args : Array Value} {t : Term} {C n d : String} {a : Addr} {k : Int32} (ht : t.eval args Z none [] Z = some (.ref a)) (h : (Cond.eq (Term.field t C n d) (.int k)).value args Z none Z [] = some true) : Fld Z Z.heap a C n d (.int k) := by
  obtain ⟨x, y, e1, e2, k1, k2⟩ := cmp_v (Or.inl h)
  rw [Term.int_eval] at e2
  cases e2
  obtain ⟨z, rfl⟩ := k2
  have e3 := e1
  rw [fld_at ht] at e3
  have q : z = k := by simpa [Cond.value, e1, Term.int_eval] using h
  subst q
  exact Fld.start e3
def bi (P : Prop) [Decidable P] : Int32 := if P then 1 else 0
theorem bi_t {P : Prop} [Decidable P] (h : P) : bi P = 1 := if_pos h
theorem bi_f {P : Prop} [Decidable P] (h : ¬ P) : bi P = 0 := if_neg h
theorem bi01 (P : Prop) [Decidable P] : bi P = 0 ∨ bi P = 1 := by unfold bi; split <;> simp
theorem modk (x k : Int32) (K : Int) (hk : k.toInt = K) : 0 < K → 0 ≤ ((x &&& 2147483647) % k).toInt ∧ ((x &&& 2147483647) % k).toInt < K := by
  intro h0
  have h1 := c_mask x 2147483647 31 (by decide) (by decide)
  have h2 : 0 ≤ (x &&& 2147483647).toInt := by rw [h1]; omega
  have h3 := (c_irem (x &&& 2147483647) k K hk).1 h2
  rw [h3]
  exact ⟨Int.emod_nonneg _ (by omega), Int.emod_lt_of_pos _ h0⟩
/-- an index: a natural below n -/
theorem idx {i : Int32} {n : Nat} (h : 0 ≤ i.toInt ∧ i.toInt < (n : Int)) : ∃ k : Nat, k < n ∧ i.toInt = (k : Int) ∧ i.toNatClampNeg = k ∧ ¬ i < 0 := by
  have h0 : ¬ i < 0 := by rw [Int32.lt_iff_toInt_lt]; show ¬ i.toInt < 0; omega
  have h1 := nat_of h0
  exact ⟨i.toNatClampNeg, by omega, h1, rfl, h0⟩
theorem lsw {target : State} (X : Stand p l e R s m args below meth c T locs cells slots) (hx : p.tables.exec = Jvm.exec) (hg : g.method = m) {dflt : Int} {pairs : Array (Int × Int)} {len pc0 pc' : Nat} (hpc : g.pc = pc0) {o : Int} {i : Int32} {rest : List Value} (hd : decode c.code g.pc = .ok (.lookupswitch dflt pairs, len)) (hs : g.stack = .int i :: rest)
    (hord : ∀ (a b a_1 b_1 : Int), ((a, b), a_1, b_1) ∈ pairs.toList.zip pairs.toList.tail → a < a_1) (hf : (∃ kk, pairs.find? (·.1 == i.toInt) = some (kk, o)) ∨ (pairs.find? (·.1 == i.toInt) = none ∧ o = dflt)) (h0 : 0 ≤ (pc0 : Int) + o) (hp : ((pc0 : Int) + o).toNat = pc')
    (hr : Steps p.tables e below (T.setTop { g with pc := pc', stack := rest }) target) : Steps p.tables e below (T.setTop g) target := by
  subst hg hpc hp
  rcases hf with ⟨kk, hf⟩ | ⟨hf, rfl⟩
  · jvm_step X.here [X.here.top, hx, hd, hs, hf, h0, lookupswitch.wp_whole]
    exact ⟨hord, hr⟩
  · jvm_step X.here [X.here.top, hx, hd, hs, hf, h0, lookupswitch.wp_whole]
    exact ⟨hord, hr⟩
theorem ieq {x k : Int32} {n K : Nat} (hx : x.toInt = (n : Int)) (hk : k.toInt = (K : Int)) : x = k ↔ n = K := by rw [← Int32.toInt_inj, hx, hk]; omega
theorem lenStart {args : Array Value} {t : Term} {a : Addr} {cl : Cell} {ty : FieldType} {z : Int32} (ht : t.eval args Z none [] Z = some (.ref a)) (A : Arr Z Z.heap a cl ty) (h : (Term.length t).eval args Z none [] Z = some (.int z)) : cl.slots.size < 2 ^ 31 ∧ cl.slots.size.toInt32 = z := by
  have ha := A.fin (U := Z) (Vm.Alike.refl _)
  by_cases q : cl.slots.size < 2 ^ 31
  · refine ⟨q, ?_⟩
    rw [len_f ht ha q] at h
    exact Value.int.inj (Option.some.inj h)
  · simp [Term.eval, ht, ha, q] at h
theorem subIdx {args : Array Value} {j : Int32} (hj : ¬ j < 0) (k : Int32) : (Term.sub (.index 0) (.int k)).eval args Z none [j.toNatClampNeg] Z = some (.int (j - k)) := Term.sub_int (idx_at hj) (Term.int_eval _)
theorem bi_iff {P Q : Prop} [Decidable P] [Decidable Q] (h : P ↔ Q) : bi P = bi Q := by unfold bi; simp only [h]
theorem cacheIdx {x : Int32} {n : Nat} (h1 : ¬ x < (-128 : Int32)) (h2 : ¬ (127 : Int32) < x) (hn : n = (256 : Int32).toNatClampNeg) : ¬ (x + (128 : Int32) < 0 ∨ n ≤ (x + (128 : Int32)).toNatClampNeg) := by
  rw [Int32.lt_iff_toInt_lt] at h1 h2
  have a1 : ¬ x.toInt < -128 := h1
  have a2 : ¬ (127 : Int) < x.toInt := h2
  have q0 : (128 : Int32).toInt = 128 := rfl
  have q := c_iadd x 128
  have r := rng32 (x + 128)
  rw [q0] at q
  have e1 : (x + (128 : Int32)).toInt = x.toInt + 128 := by omega
  have e2 : ¬ x + (128 : Int32) < 0 := by rw [Int32.lt_iff_toInt_lt]; show ¬ _ < (0 : Int); omega
  have e3 := nat_of e2
  have e4 : n = 256 := hn
  rintro (h | h)
  · exact e2 h
  · omega
theorem nsRoot {a0 : Array Value} {O K : String} {n : Nat} (w : (Cond.noSuperclass O).before a0 Z = true) (wk : (Cond.instantiable K n).before a0 Z = true) (hn : O ≠ K) : NS Z O K := by
  obtain ⟨c, k, h1, h2, h3, -, -⟩ := Cond.noSuperclass_spec w
  obtain ⟨t, kt, g1, -⟩ := Cond.instantiable_spec wk
  have ne := ids_ne h1 g1 hn
  refine ⟨c, t, h1, g1, fun fuel => ?_⟩
  cases fuel with
  | zero => rfl
  | succ f => simp [Vm.isSubclassAux, ne, h2, h3]
theorem nsNo {a0 : Array Value} {C S K : String} {n : Nat} (w : (Cond.superclass C S).before a0 Z = true) (wk : (Cond.instantiable K n).before a0 Z = true) (q : NS Z C K) (hn : C ≠ K) : ∃ c t, Z.vm.findClass C = some c ∧ Z.vm.findClass K = some t ∧ Z.vm.assignable c t = false := by
  obtain ⟨c, t, h0, g0, n3⟩ := q
  obtain ⟨p, k, kp, h1, h2, h3, h4, h5, -, h7⟩ := Cond.superclass_spec h0 w
  obtain ⟨t', k', g1, g2, g5, g7, -⟩ := Cond.instantiable_spec wk
  cases g0.symm.trans g1
  have g8 := (Bool.or_eq_false_iff.mp g7).1
  have ne := ids_ne h0 g0 hn
  refine ⟨c, t, h0, g0, ?_⟩
  show Z.vm.assignableAux (255 + 1) c t = false
  simp [Vm.assignableAux, ne, h2, g2, h5, g5, g8, Vm.isSubclass, n3]
theorem ne_key {x k : Int32} {K : Int} (h : ¬ x = k) (hk : k.toInt = K) : K ≠ x.toInt := fun q => h (Int32.toInt_inj.mp (by rw [hk]; exact q.symm))
end Own
end Jvm.OwnGo

namespace Jvm.Pilot.@@N@@
open Jvm Jvm.ClassFile Sem Op Lib Jvm.Free Jvm.Stand Jvm.LawKit Jvm.RoadKit Jvm.OwnGo Bundle Jvm.Pilot.@@N@@.Jvm.D
theorem d3_0 : decode jdk_30_method_1_code 0 = .ok (.aload_n 0, 1) := by decide +kernel
theorem d3_1 : decode jdk_30_method_1_code 1 = .ok (.invokespecial 1, 3) := by decide +kernel
theorem d3_4 : decode jdk_30_method_1_code 4 = .ok (.return_, 1) := by decide +kernel
theorem pn_0 : plainName "java/lang/Record" = true := by first | (simp [plainName, overriddenIn]; done) | decide +kernel
theorem ef_rec (m : MethodId) (a : Addr) : entryFrame m #[(.ref a)] 1 = mkF m 0 #[.val (.ref a)] [] := by first | (simp [entryFrame, mkF, argsToLocals, Value.category]; done) | rfl
abbrev R_rec : Room := { frames := 1, cells := 0, slots := 0, locals := 12 }
def Q_rec (Z : State) (a : Addr) (h0 : Heap) (n0 : Nat) (v : Option Value) (h : Heap) (L : List Loc) : Prop := v = none ∧ Fr n0 L ∧ h = h0
set_option maxRecDepth 65536 in
set_option maxHeartbeats 40000000 in
theorem rm_rec (l : Launch) (Z : State) (a0 : Array Value) (hw : ∀ d ∈ tables_1, d.before a0 Z = true) (ws : List Jvm.Cond) (a : Addr) (h0 : Heap) (n0 : Nat) (O0 : Old Z n0 h0) :
    MetFree l (⟨"java/lang/Record", "<init>", "()V"⟩ : MethodName) (head1 (Jvm.Cond.code (⟨"java/lang/Record", "<init>", "()V"⟩ : MethodName) jdk_30_method_1_code 1 none :: ws) R_rec) (fun as_ U => as_ = #[(.ref a)] ∧ Z.Warmed39 U.vm ∧ U.heap = h0) (fun _ _ _ _ _ => True) (fun _ U o U' => ∃ v L, o = .returned v ∧ Q_rec Z a h0 n0 v U'.heap L ∧ FrameEnd U o U' L R_rec.cells R_rec.slots) := by
  refine MetFree.of_bodySF (plainFor_of_name pn_0) hisR ?_
  intro p e s m args below meth c s₁ Bd hml0 hP hK
  obtain ⟨rfl, hZ, hh⟩ := hP
  have hx := Bd.exec
  have hby := Bd.bytes
  have hml : c.maxLocals = 1 := hml0
  have hown : s.vm.findClass "java/lang/Record" = some m.cls := findClass_of_methodNamed Bd.named
  have hnm := (name_of_methodNamed Bd.named Bd.method).1
  have hlk : meth.locks = false := BodyLoose.notSynchronized Bd
  have X0 : Stand p l e R_rec s m #[(.ref a)] below meth c s₁ [] 0 0 := Stand.of_body Bd
  have e0 : s₁.heap = h0 := by rw [← hh, Bd.state]; rfl
  have N0 := Fr.nil n0
  refine enter (P := PQ s R_rec.cells R_rec.slots (Q_rec Z a h0 n0)) (ef_rec m a) ?_
  refine goS (n := 1) (Ls' := #[.val (.ref a)]) (st' := [(.ref a)]) (fun _ kz => XS.aloadN X0.here hx rfl (hb hby d3_0) rfl rfl kz) ?_
  obtain ⟨T1, X1, e1, st1⟩ := initO X0 hx hZ hown (hw _ (List.mem_of_getElem? (i := 19) rfl)) (hw _ (List.mem_of_getElem? (i := 20) rfl)) (hw _ (List.mem_of_getElem? (i := 21) rfl)) e0 (g := (mkF m 1 #[.val (.ref a)] [(.ref a)])) rfl (by rw [hml]; rfl) rfl (hb hby d3_1) (by decide) (W := 0) (by show 2 * 0 + _ ≤ _; exact Nat.le_of_eq rfl) (by decide)
  refine goS (n := 4) (Ls' := #[.val (.ref a)]) (st' := []) st1 ?_
  exact goRetV X1 hx hlk Bd.returns (hb hby d3_4) (by decide) (by decide) (by rw [e1]; exact ⟨rfl, N0, rfl⟩)
theorem d1_0 : decode method_2_code 0 = .ok (.iload_n 0, 1) := by decide +kernel
theorem d1_1 : decode method_2_code 1 = .ok (.ifCond .ne 7, 3) := by decide +kernel
theorem d1_4 : decode method_2_code 4 = .ok (.getstatic 7, 3) := by decide +kernel
theorem d1_7 : decode method_2_code 7 = .ok (.areturn, 1) := by decide +kernel
theorem d1_8 : decode method_2_code 8 = .ok (.iload_n 0, 1) := by decide +kernel
theorem d1_9 : decode method_2_code 9 = .ok (.iconst 1, 1) := by decide +kernel
theorem d1_10 : decode method_2_code 10 = .ok (.if_icmp .ne 7, 3) := by decide +kernel
theorem d1_13 : decode method_2_code 13 = .ok (.getstatic 13, 3) := by decide +kernel
theorem d1_16 : decode method_2_code 16 = .ok (.areturn, 1) := by decide +kernel
theorem d1_17 : decode method_2_code 17 = .ok (.iload_n 0, 1) := by decide +kernel
theorem d1_18 : decode method_2_code 18 = .ok (.iconst 2, 1) := by decide +kernel
theorem d1_19 : decode method_2_code 19 = .ok (.if_icmp .ne 7, 3) := by decide +kernel
theorem d1_22 : decode method_2_code 22 = .ok (.getstatic 16, 3) := by decide +kernel
theorem d1_25 : decode method_2_code 25 = .ok (.areturn, 1) := by decide +kernel
theorem d1_26 : decode method_2_code 26 = .ok (.iload_n 0, 1) := by decide +kernel
theorem d1_27 : decode method_2_code 27 = .ok (.iconst 3, 1) := by decide +kernel
theorem d1_28 : decode method_2_code 28 = .ok (.if_icmp .ne 7, 3) := by decide +kernel
theorem d1_31 : decode method_2_code 31 = .ok (.getstatic 19, 3) := by decide +kernel
theorem d1_34 : decode method_2_code 34 = .ok (.areturn, 1) := by decide +kernel
theorem d1_35 : decode method_2_code 35 = .ok (.iload_n 0, 1) := by decide +kernel
theorem d1_36 : decode method_2_code 36 = .ok (.iconst 4, 1) := by decide +kernel
theorem d1_37 : decode method_2_code 37 = .ok (.if_icmp .ne 7, 3) := by decide +kernel
theorem d1_40 : decode method_2_code 40 = .ok (.getstatic 22, 3) := by decide +kernel
theorem d1_43 : decode method_2_code 43 = .ok (.areturn, 1) := by decide +kernel
theorem d1_44 : decode method_2_code 44 = .ok (.iload_n 0, 1) := by decide +kernel
theorem d1_45 : decode method_2_code 45 = .ok (.iconst 5, 1) := by decide +kernel
theorem d1_46 : decode method_2_code 46 = .ok (.if_icmp .ne 7, 3) := by decide +kernel
theorem d1_49 : decode method_2_code 49 = .ok (.getstatic 25, 3) := by decide +kernel
theorem d1_52 : decode method_2_code 52 = .ok (.areturn, 1) := by decide +kernel
theorem d1_53 : decode method_2_code 53 = .ok (.getstatic 28, 3) := by decide +kernel
theorem d1_56 : decode method_2_code 56 = .ok (.areturn, 1) := by decide +kernel
theorem pn_1 : plainName "com/example/drain_warden/drainwarden/model/SaverStateEqualsPinLaw" = true := by first | (simp [plainName, overriddenIn]; done) | decide +kernel
theorem ef_reason (m : MethodId) (x : Int32) : entryFrame m #[(.int x)] 1 = mkF m 0 #[.val (.int x)] [] := by first | (simp [entryFrame, mkF, argsToLocals, Value.category]; done) | rfl
abbrev R_reason : Room := { frames := 0, cells := 0, slots := 0, locals := 0 }
def Q_reason (Z : State) (x : Int32) (n : Nat) (W : Nat → Addr) (h0 : Heap) (n0 : Nat) (v : Option Value) (h : Heap) (L : List Loc) : Prop := v = some (.ref (W n)) ∧ Fr n0 L ∧ h = h0
set_option maxRecDepth 65536 in
set_option maxHeartbeats 40000000 in
theorem rm_reason (l : Launch) (Z : State) (a0 : Array Value) (hw : ∀ d ∈ tables_1, d.before a0 Z = true) (ws : List Jvm.Cond) (x : Int32) (n : Nat) (W : Nat → Addr) (h0 : Heap) (n0 : Nat) (O0 : Old Z n0 h0) (S_NONE : Sta Z Z.heap "com/example/drain_warden/drainwarden/model/SaverState$Reason" "NONE" "Lcom/example/drain_warden/drainwarden/model/SaverState$Reason;" (.ref (W 0))) (S_MANUAL_ON : Sta Z Z.heap "com/example/drain_warden/drainwarden/model/SaverState$Reason" "MANUAL_ON" "Lcom/example/drain_warden/drainwarden/model/SaverState$Reason;" (.ref (W 1))) (S_MANUAL_OFF : Sta Z Z.heap "com/example/drain_warden/drainwarden/model/SaverState$Reason" "MANUAL_OFF" "Lcom/example/drain_warden/drainwarden/model/SaverState$Reason;" (.ref (W 2))) (S_AUTO_ON : Sta Z Z.heap "com/example/drain_warden/drainwarden/model/SaverState$Reason" "AUTO_ON" "Lcom/example/drain_warden/drainwarden/model/SaverState$Reason;" (.ref (W 3))) (S_POWER_CONNECTED : Sta Z Z.heap "com/example/drain_warden/drainwarden/model/SaverState$Reason" "POWER_CONNECTED" "Lcom/example/drain_warden/drainwarden/model/SaverState$Reason;" (.ref (W 4))) (S_STICKY_ON : Sta Z Z.heap "com/example/drain_warden/drainwarden/model/SaverState$Reason" "STICKY_ON" "Lcom/example/drain_warden/drainwarden/model/SaverState$Reason;" (.ref (W 5))) (S_WRITE_FAILED : Sta Z Z.heap "com/example/drain_warden/drainwarden/model/SaverState$Reason" "WRITE_FAILED" "Lcom/example/drain_warden/drainwarden/model/SaverState$Reason;" (.ref (W 6))) (hxn : x.toInt = (n : Int)) (hn : n < 7) :
    MetFree l (⟨"com/example/drain_warden/drainwarden/model/SaverStateEqualsPinLaw", "reason", "(I)Lcom/example/drain_warden/drainwarden/model/SaverState$Reason;"⟩ : MethodName) (head1 (Jvm.Cond.code (⟨"com/example/drain_warden/drainwarden/model/SaverStateEqualsPinLaw", "reason", "(I)Lcom/example/drain_warden/drainwarden/model/SaverState$Reason;"⟩ : MethodName) method_2_code 1 (some (.object "com/example/drain_warden/drainwarden/model/SaverState$Reason")) :: ws) R_reason) (fun as_ U => as_ = #[(.int x)] ∧ Z.Warmed39 U.vm ∧ U.heap = h0) (fun _ _ _ _ _ => True) (fun _ U o U' => ∃ v L, o = .returned v ∧ Q_reason Z x n W h0 n0 v U'.heap L ∧ FrameEnd U o U' L R_reason.cells R_reason.slots) := by
  refine MetFree.of_bodySF (plainFor_of_name pn_1) hisR ?_
  intro p e s m args below meth c s₁ Bd hml0 hP hK
  obtain ⟨rfl, hZ, hh⟩ := hP
  have hx := Bd.exec
  have hby := Bd.bytes
  have hml : c.maxLocals = 1 := hml0
  have hown : s.vm.findClass "com/example/drain_warden/drainwarden/model/SaverStateEqualsPinLaw" = some m.cls := findClass_of_methodNamed Bd.named
  have hnm := (name_of_methodNamed Bd.named Bd.method).1
  have hlk : meth.locks = false := BodyLoose.notSynchronized Bd
  have X0 : Stand p l e R_reason s m #[(.int x)] below meth c s₁ [] 0 0 := Stand.of_body Bd
  have e0 : s₁.heap = h0 := by rw [← hh, Bd.state]; rfl
  have N0 := Fr.nil n0
  refine enter (P := PQ s R_reason.cells R_reason.slots (Q_reason Z x n W h0 n0)) (ef_reason m x) ?_
  refine goS (n := 1) (Ls' := #[.val (.int x)]) (st' := [(.int x)]) (fun _ kz => XS.iloadN X0.here hx rfl (hb hby d1_0) rfl kz) ?_
  by_cases hc1 : x = (0 : Int32)
  · refine goS (n := 4) (Ls' := #[.val (.int x)]) (st' := []) (fun _ kz => XS.ifNo X0.here hx rfl (hb hby d1_1) rfl ((if0 _ _).trans (teq hc1).2) kz) ?_
    obtain ⟨T2, X2, e2, st2⟩ := getS2 X0 hx hZ hown (host := "") (Or.inl (hw _ (List.mem_of_getElem? (i := 35) rfl))) Via.refl e0 (S_NONE.ext O0.2) (g := (mkF m 4 #[.val (.int x)] [])) rfl (hb hby d1_4)
    refine goS (n := 7) (Ls' := #[.val (.int x)]) (st' := [(.ref (W 0))]) st2 ?_
    exact goRetA X2 hx hlk Bd.returns rfl rfl (hb hby d1_7) (by decide) (by decide) (by rw [e2]; exact ⟨by have z0 := (ieq (K := 0) hxn rfl).mp hc1; have q : n = 0 := (by omega); rw [q], N0, rfl⟩)
  · refine goS (n := 8) (Ls' := #[.val (.int x)]) (st' := []) (fun _ kz => XS.ifYes X0.here hx rfl (pc0 := 1) (pc' := 8) rfl (hb hby d1_1) rfl ((if0 _ _).trans (feq hc1).2) (by decide) (by decide) kz) ?_
    refine goS (n := 9) (Ls' := #[.val (.int x)]) (st' := [(.int x)]) (fun _ kz => XS.iloadN X0.here hx rfl (hb hby d1_8) rfl kz) ?_
    refine goS (n := 10) (Ls' := #[.val (.int x)]) (st' := [(.int (1 : Int32)), (.int x)]) (fun _ kz => XS.iconst X0.here hx rfl (hb hby d1_9) kz) ?_
    by_cases hc3 : x = (1 : Int32)
    · refine goS (n := 13) (Ls' := #[.val (.int x)]) (st' := []) (fun _ kz => XS.icmpNo X0.here hx rfl (hb hby d1_10) rfl (teq hc3).2 kz) ?_
      obtain ⟨T4, X4, e4, st4⟩ := getS2 X0 hx hZ hown (host := "") (Or.inl (hw _ (List.mem_of_getElem? (i := 26) rfl))) Via.refl e0 (S_MANUAL_ON.ext O0.2) (g := (mkF m 13 #[.val (.int x)] [])) rfl (hb hby d1_13)
      refine goS (n := 16) (Ls' := #[.val (.int x)]) (st' := [(.ref (W 1))]) st4 ?_
      exact goRetA X4 hx hlk Bd.returns rfl rfl (hb hby d1_16) (by decide) (by decide) (by rw [e4]; exact ⟨by have z0 := mt (ieq (K := 0) hxn rfl).mpr hc1; have z1 := (ieq (K := 1) hxn rfl).mp hc3; have q : n = 1 := (by omega); rw [q], N0, rfl⟩)
    · refine goS (n := 17) (Ls' := #[.val (.int x)]) (st' := []) (fun _ kz => XS.icmpYes X0.here hx rfl (pc0 := 10) (pc' := 17) rfl (hb hby d1_10) rfl (feq hc3).2 (by decide) (by decide) kz) ?_
      refine goS (n := 18) (Ls' := #[.val (.int x)]) (st' := [(.int x)]) (fun _ kz => XS.iloadN X0.here hx rfl (hb hby d1_17) rfl kz) ?_
      refine goS (n := 19) (Ls' := #[.val (.int x)]) (st' := [(.int (2 : Int32)), (.int x)]) (fun _ kz => XS.iconst X0.here hx rfl (hb hby d1_18) kz) ?_
      by_cases hc5 : x = (2 : Int32)
      · refine goS (n := 22) (Ls' := #[.val (.int x)]) (st' := []) (fun _ kz => XS.icmpNo X0.here hx rfl (hb hby d1_19) rfl (teq hc5).2 kz) ?_
        obtain ⟨T6, X6, e6, st6⟩ := getS2 X0 hx hZ hown (host := "") (Or.inl (hw _ (List.mem_of_getElem? (i := 37) rfl))) Via.refl e0 (S_MANUAL_OFF.ext O0.2) (g := (mkF m 22 #[.val (.int x)] [])) rfl (hb hby d1_22)
        refine goS (n := 25) (Ls' := #[.val (.int x)]) (st' := [(.ref (W 2))]) st6 ?_
        exact goRetA X6 hx hlk Bd.returns rfl rfl (hb hby d1_25) (by decide) (by decide) (by rw [e6]; exact ⟨by have z0 := mt (ieq (K := 0) hxn rfl).mpr hc1; have z1 := mt (ieq (K := 1) hxn rfl).mpr hc3; have z2 := (ieq (K := 2) hxn rfl).mp hc5; have q : n = 2 := (by omega); rw [q], N0, rfl⟩)
      · refine goS (n := 26) (Ls' := #[.val (.int x)]) (st' := []) (fun _ kz => XS.icmpYes X0.here hx rfl (pc0 := 19) (pc' := 26) rfl (hb hby d1_19) rfl (feq hc5).2 (by decide) (by decide) kz) ?_
        refine goS (n := 27) (Ls' := #[.val (.int x)]) (st' := [(.int x)]) (fun _ kz => XS.iloadN X0.here hx rfl (hb hby d1_26) rfl kz) ?_
        refine goS (n := 28) (Ls' := #[.val (.int x)]) (st' := [(.int (3 : Int32)), (.int x)]) (fun _ kz => XS.iconst X0.here hx rfl (hb hby d1_27) kz) ?_
        by_cases hc7 : x = (3 : Int32)
        · refine goS (n := 31) (Ls' := #[.val (.int x)]) (st' := []) (fun _ kz => XS.icmpNo X0.here hx rfl (hb hby d1_28) rfl (teq hc7).2 kz) ?_
          obtain ⟨T8, X8, e8, st8⟩ := getS2 X0 hx hZ hown (host := "") (Or.inl (hw _ (List.mem_of_getElem? (i := 8) rfl))) Via.refl e0 (S_AUTO_ON.ext O0.2) (g := (mkF m 31 #[.val (.int x)] [])) rfl (hb hby d1_31)
          refine goS (n := 34) (Ls' := #[.val (.int x)]) (st' := [(.ref (W 3))]) st8 ?_
          exact goRetA X8 hx hlk Bd.returns rfl rfl (hb hby d1_34) (by decide) (by decide) (by rw [e8]; exact ⟨by have z0 := mt (ieq (K := 0) hxn rfl).mpr hc1; have z1 := mt (ieq (K := 1) hxn rfl).mpr hc3; have z2 := mt (ieq (K := 2) hxn rfl).mpr hc5; have z3 := (ieq (K := 3) hxn rfl).mp hc7; have q : n = 3 := (by omega); rw [q], N0, rfl⟩)
        · refine goS (n := 35) (Ls' := #[.val (.int x)]) (st' := []) (fun _ kz => XS.icmpYes X0.here hx rfl (pc0 := 28) (pc' := 35) rfl (hb hby d1_28) rfl (feq hc7).2 (by decide) (by decide) kz) ?_
          refine goS (n := 36) (Ls' := #[.val (.int x)]) (st' := [(.int x)]) (fun _ kz => XS.iloadN X0.here hx rfl (hb hby d1_35) rfl kz) ?_
          refine goS (n := 37) (Ls' := #[.val (.int x)]) (st' := [(.int (4 : Int32)), (.int x)]) (fun _ kz => XS.iconst X0.here hx rfl (hb hby d1_36) kz) ?_
          by_cases hc9 : x = (4 : Int32)
          · refine goS (n := 40) (Ls' := #[.val (.int x)]) (st' := []) (fun _ kz => XS.icmpNo X0.here hx rfl (hb hby d1_37) rfl (teq hc9).2 kz) ?_
            obtain ⟨T10, X10, e10, st10⟩ := getS2 X0 hx hZ hown (host := "") (Or.inl (hw _ (List.mem_of_getElem? (i := 44) rfl))) Via.refl e0 (S_POWER_CONNECTED.ext O0.2) (g := (mkF m 40 #[.val (.int x)] [])) rfl (hb hby d1_40)
            refine goS (n := 43) (Ls' := #[.val (.int x)]) (st' := [(.ref (W 4))]) st10 ?_
            exact goRetA X10 hx hlk Bd.returns rfl rfl (hb hby d1_43) (by decide) (by decide) (by rw [e10]; exact ⟨by have z0 := mt (ieq (K := 0) hxn rfl).mpr hc1; have z1 := mt (ieq (K := 1) hxn rfl).mpr hc3; have z2 := mt (ieq (K := 2) hxn rfl).mpr hc5; have z3 := mt (ieq (K := 3) hxn rfl).mpr hc7; have z4 := (ieq (K := 4) hxn rfl).mp hc9; have q : n = 4 := (by omega); rw [q], N0, rfl⟩)
          · refine goS (n := 44) (Ls' := #[.val (.int x)]) (st' := []) (fun _ kz => XS.icmpYes X0.here hx rfl (pc0 := 37) (pc' := 44) rfl (hb hby d1_37) rfl (feq hc9).2 (by decide) (by decide) kz) ?_
            refine goS (n := 45) (Ls' := #[.val (.int x)]) (st' := [(.int x)]) (fun _ kz => XS.iloadN X0.here hx rfl (hb hby d1_44) rfl kz) ?_
            refine goS (n := 46) (Ls' := #[.val (.int x)]) (st' := [(.int (5 : Int32)), (.int x)]) (fun _ kz => XS.iconst X0.here hx rfl (hb hby d1_45) kz) ?_
            by_cases hc11 : x = (5 : Int32)
            · refine goS (n := 49) (Ls' := #[.val (.int x)]) (st' := []) (fun _ kz => XS.icmpNo X0.here hx rfl (hb hby d1_46) rfl (teq hc11).2 kz) ?_
              obtain ⟨T12, X12, e12, st12⟩ := getS2 X0 hx hZ hown (host := "") (Or.inl (hw _ (List.mem_of_getElem? (i := 42) rfl))) Via.refl e0 (S_STICKY_ON.ext O0.2) (g := (mkF m 49 #[.val (.int x)] [])) rfl (hb hby d1_49)
              refine goS (n := 52) (Ls' := #[.val (.int x)]) (st' := [(.ref (W 5))]) st12 ?_
              exact goRetA X12 hx hlk Bd.returns rfl rfl (hb hby d1_52) (by decide) (by decide) (by rw [e12]; exact ⟨by have z0 := mt (ieq (K := 0) hxn rfl).mpr hc1; have z1 := mt (ieq (K := 1) hxn rfl).mpr hc3; have z2 := mt (ieq (K := 2) hxn rfl).mpr hc5; have z3 := mt (ieq (K := 3) hxn rfl).mpr hc7; have z4 := mt (ieq (K := 4) hxn rfl).mpr hc9; have z5 := (ieq (K := 5) hxn rfl).mp hc11; have q : n = 5 := (by omega); rw [q], N0, rfl⟩)
            · refine goS (n := 53) (Ls' := #[.val (.int x)]) (st' := []) (fun _ kz => XS.icmpYes X0.here hx rfl (pc0 := 46) (pc' := 53) rfl (hb hby d1_46) rfl (feq hc11).2 (by decide) (by decide) kz) ?_
              obtain ⟨T13, X13, e13, st13⟩ := getS2 X0 hx hZ hown (host := "") (Or.inl (hw _ (List.mem_of_getElem? (i := 71) rfl))) Via.refl e0 (S_WRITE_FAILED.ext O0.2) (g := (mkF m 53 #[.val (.int x)] [])) rfl (hb hby d1_53)
              refine goS (n := 56) (Ls' := #[.val (.int x)]) (st' := [(.ref (W 6))]) st13 ?_
              exact goRetA X13 hx hlk Bd.returns rfl rfl (hb hby d1_56) (by decide) (by decide) (by rw [e13]; exact ⟨by have z0 := mt (ieq (K := 0) hxn rfl).mpr hc1; have z1 := mt (ieq (K := 1) hxn rfl).mpr hc3; have z2 := mt (ieq (K := 2) hxn rfl).mpr hc5; have z3 := mt (ieq (K := 3) hxn rfl).mpr hc7; have z4 := mt (ieq (K := 4) hxn rfl).mpr hc9; have z5 := mt (ieq (K := 5) hxn rfl).mpr hc11; have q : n = 6 := (by omega); rw [q], N0, rfl⟩)
theorem d2_0 : decode prog_32_method_1_code 0 = .ok (.aload_n 0, 1) := by decide +kernel
theorem d2_1 : decode prog_32_method_1_code 1 = .ok (.invokespecial 1, 3) := by decide +kernel
theorem pd_0 : parseMethodDescriptor "()V" = some ⟨[], none⟩ := by decide +kernel
theorem d2_4 : decode prog_32_method_1_code 4 = .ok (.aload_n 0, 1) := by decide +kernel
theorem d2_5 : decode prog_32_method_1_code 5 = .ok (.iload_n 1, 1) := by decide +kernel
theorem d2_6 : decode prog_32_method_1_code 6 = .ok (.putfield 7, 3) := by decide +kernel
theorem d2_9 : decode prog_32_method_1_code 9 = .ok (.aload_n 0, 1) := by decide +kernel
theorem d2_10 : decode prog_32_method_1_code 10 = .ok (.aload_n 2, 1) := by decide +kernel
theorem d2_11 : decode prog_32_method_1_code 11 = .ok (.putfield 13, 3) := by decide +kernel
theorem d2_14 : decode prog_32_method_1_code 14 = .ok (.return_, 1) := by decide +kernel
theorem pn_2 : plainName "com/example/drain_warden/drainwarden/model/SaverState" = true := by first | (simp [plainName, overriddenIn]; done) | decide +kernel
theorem ef_init (m : MethodId) (a : Addr) (x : Int32) (w : Addr) : entryFrame m #[(.ref a), (.int x), (.ref w)] 3 = mkF m 0 #[.val (.ref a), .val (.int x), .val (.ref w)] [] := by first | (simp [entryFrame, mkF, argsToLocals, Value.category]; done) | rfl
abbrev R_init : Room := { frames := 2, cells := 0, slots := 0, locals := 24 }
def Q_init (Z : State) (a : Addr) (x : Int32) (w : Addr) (h0 : Heap) (n0 : Nat) (v : Option Value) (h : Heap) (L : List Loc) : Prop := v = none ∧ Fr n0 L ∧ Keep h0 h [a] ∧ Fld Z h a "com/example/drain_warden/drainwarden/model/SaverState" "on" "Z" (.int x) ∧ Fld Z h a "com/example/drain_warden/drainwarden/model/SaverState" "reason" "Lcom/example/drain_warden/drainwarden/model/SaverState$Reason;" (.ref w)
set_option maxRecDepth 65536 in
set_option maxHeartbeats 40000000 in
theorem rm_init (l : Launch) (Z : State) (a0 : Array Value) (hw : ∀ d ∈ tables_1, d.before a0 Z = true) (ws : List Jvm.Cond) (a : Addr) (x : Int32) (w : Addr) (h0 : Heap) (n0 : Nat) (O0 : Old Z n0 h0) (hx01 : x = 0 ∨ x = 1) (E_a : Exa Z h0 a "com/example/drain_warden/drainwarden/model/SaverState") (F_on_a : Fld Z h0 a "com/example/drain_warden/drainwarden/model/SaverState" "on" "Z" (.int (0 : Int32))) (F_reason_a : Fld Z h0 a "com/example/drain_warden/drainwarden/model/SaverState" "reason" "Lcom/example/drain_warden/drainwarden/model/SaverState$Reason;" .null) (g_a : n0 ≤ a) :
    MetFree l (⟨"com/example/drain_warden/drainwarden/model/SaverState", "<init>", "(ZLcom/example/drain_warden/drainwarden/model/SaverState$Reason;)V"⟩ : MethodName) (head1 (Jvm.Cond.code (⟨"com/example/drain_warden/drainwarden/model/SaverState", "<init>", "(ZLcom/example/drain_warden/drainwarden/model/SaverState$Reason;)V"⟩ : MethodName) prog_32_method_1_code 3 none :: ws) R_init) (fun as_ U => as_ = #[(.ref a), (.int x), (.ref w)] ∧ Z.Warmed39 U.vm ∧ U.heap = h0) (fun _ _ _ _ _ => True) (fun _ U o U' => ∃ v L, o = .returned v ∧ Q_init Z a x w h0 n0 v U'.heap L ∧ FrameEnd U o U' L R_init.cells R_init.slots) := by
  refine MetFree.of_bodySF (plainFor_of_name pn_2) hisR ?_
  intro p e s m args below meth c s₁ Bd hml0 hP hK
  obtain ⟨rfl, hZ, hh⟩ := hP
  have hx := Bd.exec
  have hby := Bd.bytes
  have hml : c.maxLocals = 3 := hml0
  have hown : s.vm.findClass "com/example/drain_warden/drainwarden/model/SaverState" = some m.cls := findClass_of_methodNamed Bd.named
  have hnm := (name_of_methodNamed Bd.named Bd.method).1
  have hlk : meth.locks = false := BodyLoose.notSynchronized Bd
  have X0 : Stand p l e R_init s m #[(.ref a), (.int x), (.ref w)] below meth c s₁ [] 0 0 := Stand.of_body Bd
  have e0 : s₁.heap = h0 := by rw [← hh, Bd.state]; rfl
  have N0 := Fr.nil n0
  refine enter (P := PQ s R_init.cells R_init.slots (Q_init Z a x w h0 n0)) (ef_init m a x w) ?_
  refine goS (n := 1) (Ls' := #[.val (.ref a), .val (.int x), .val (.ref w)]) (st' := [(.ref a)]) (fun _ kz => XS.aloadN X0.here hx rfl (hb hby d2_0) rfl rfl kz) ?_
  obtain ⟨_, _, ⟨T1, L1, k1, n1⟩, -, X1, ⟨Lc1, hQ1, l1, y1, z1⟩, st1⟩ := X0.specialBack hx (y := (⟨"java/lang/Record", "<init>", "()V"⟩ : MethodName)) rfl hown (mvT hZ (hw _ (List.mem_of_getElem? (i := 14) rfl))) (mvT hZ (hw _ (List.mem_of_getElem? (i := 15) rfl))) (mvT hZ (hw _ (List.mem_of_getElem? (i := 18) rfl))) (by decide) (backOf (W := 0) (rm_rec l Z a0 hw [] a h0 n0 O0) hZ (hw _ (List.mem_of_getElem? (i := 18) rfl)) (hw _ (List.mem_of_getElem? (i := 17) rfl)) (by decide) (by decide)) (g := (mkF m 1 #[.val (.ref a), .val (.int x), .val (.ref w)] [(.ref a)])) rfl (by rw [hml]; rfl) (Steps.refl _) (a := a) (argsL := []) (rest := []) (lenOf pd_0 rfl) rfl (by show 2 * 0 + _ ≤ _; exact Nat.le_of_eq rfl) (hb hby d2_1) (fun _ _ => ⟨rfl, e0, (Nat.le_of_ble_eq_true rfl), (Nat.le_of_ble_eq_true rfl)⟩)
  dsimp only [Pt.U, Pt.locs, Pt.cells, Pt.slots] at X1 l1 y1 z1 st1 hQ1
  subst l1 y1 z1
  obtain ⟨rfl, N1q, e1⟩ := hQ1
  have N1 := Fr.app N0 N1q
  refine goT (n := 4) (Ls' := #[.val (.ref a), .val (.int x), .val (.ref w)]) (st' := []) st1 ?_
  refine goS (n := 5) (Ls' := #[.val (.ref a), .val (.int x), .val (.ref w)]) (st' := [(.ref a)]) (fun _ kz => XS.aloadN X1.here hx rfl (hb hby d2_4) rfl rfl kz) ?_
  refine goS (n := 6) (Ls' := #[.val (.ref a), .val (.int x), .val (.ref w)]) (st' := [(.int x), (.ref a)]) (fun _ kz => XS.iloadN X1.here hx rfl (hb hby d2_5) rfl kz) ?_
  obtain ⟨T2, h2, X2, e2, W2, st2⟩ := putFN X1 hx hZ hown (hw _ (List.mem_of_getElem? (i := 22) rfl)) Via.refl e1 F_on_a E_a (Or.inr ⟨(hw _ (List.mem_of_getElem? (i := 23) rfl)), rfl, hnm⟩) (hw _ (List.mem_of_getElem? (i := 2) rfl)) (ty := .boolean) (v' := (.int x)) (by decide) (by rcases hx01 with q | q <;> rw [q] <;> rfl) (by rcases hx01 with q | q <;> rw [q] <;> rfl) (g := (mkF m 6 #[.val (.ref a), .val (.int x), .val (.ref w)] [(.int x), (.ref a)])) rfl rfl (hb hby d2_6)
  have Fn2 : Fld Z h2 a "com/example/drain_warden/drainwarden/model/SaverState" "on" "Z" (.int x) := F_on_a.same W2
  have E_a : Exa Z h2 a "com/example/drain_warden/drainwarden/model/SaverState" := E_a.wr W2
  have F_reason_a : Fld Z h2 a "com/example/drain_warden/drainwarden/model/SaverState" "reason" "Lcom/example/drain_warden/drainwarden/model/SaverState$Reason;" .null := F_reason_a.other W2 (Or.inr (slot_ne (Or.inr (hw _ (List.mem_of_getElem? (i := 25) rfl))) (Or.inr (hw _ (List.mem_of_getElem? (i := 23) rfl))) (by decide) (t := (.object "com/example/drain_warden/drainwarden/model/SaverState$Reason")) (t' := .boolean) (by decide) (by decide)))
  have F_on_a := Fn2
  have N2 := Fr.snoc X2 N1 g_a
  have O2 := O0.wr W2 g_a
  have KK2 : Keep h0 h2 [a] := (Keep.refl h0 [a]).wr W2 (Or.inl (List.mem_of_getElem? (i := 0) rfl))
  refine goS (n := 9) (Ls' := #[.val (.ref a), .val (.int x), .val (.ref w)]) (st' := []) st2 ?_
  refine goS (n := 10) (Ls' := #[.val (.ref a), .val (.int x), .val (.ref w)]) (st' := [(.ref a)]) (fun _ kz => XS.aloadN X2.here hx rfl (hb hby d2_9) rfl rfl kz) ?_
  refine goS (n := 11) (Ls' := #[.val (.ref a), .val (.int x), .val (.ref w)]) (st' := [(.ref w), (.ref a)]) (fun _ kz => XS.aloadN X2.here hx rfl (hb hby d2_10) rfl rfl kz) ?_
  obtain ⟨T3, h3, X3, e3, W3, st3⟩ := putF X2 hx hZ hown (host := "") (Or.inl (hw _ (List.mem_of_getElem? (i := 24) rfl))) Via.refl e2 F_reason_a E_a (Or.inr ⟨(hw _ (List.mem_of_getElem? (i := 25) rfl)), rfl, hnm⟩) (hw _ (List.mem_of_getElem? (i := 2) rfl)) (ty := (.object "com/example/drain_warden/drainwarden/model/SaverState$Reason")) (v := (.ref w)) (by decide) rfl rfl (g := (mkF m 11 #[.val (.ref a), .val (.int x), .val (.ref w)] [(.ref w), (.ref a)])) rfl rfl (hb hby d2_11)
  have Fn3 : Fld Z h3 a "com/example/drain_warden/drainwarden/model/SaverState" "reason" "Lcom/example/drain_warden/drainwarden/model/SaverState$Reason;" (.ref w) := F_reason_a.same W3
  have E_a : Exa Z h3 a "com/example/drain_warden/drainwarden/model/SaverState" := E_a.wr W3
  have F_on_a : Fld Z h3 a "com/example/drain_warden/drainwarden/model/SaverState" "on" "Z" (.int x) := F_on_a.other W3 (Or.inr (slot_ne (Or.inr (hw _ (List.mem_of_getElem? (i := 23) rfl))) (Or.inr (hw _ (List.mem_of_getElem? (i := 25) rfl))) (by decide) (t := .boolean) (t' := (.object "com/example/drain_warden/drainwarden/model/SaverState$Reason")) (by decide) (by decide)))
  have F_reason_a := Fn3
  have N3 := Fr.snoc X3 N2 g_a
  have O3 := O2.wr W3 g_a
  have KK3 : Keep h0 h3 [a] := KK2.wr W3 (Or.inl (List.mem_of_getElem? (i := 0) rfl))
  refine goS (n := 14) (Ls' := #[.val (.ref a), .val (.int x), .val (.ref w)]) (st' := []) st3 ?_
  exact goRetV X3 hx hlk Bd.returns (hb hby d2_14) (by decide) (by decide) (by rw [e3]; exact ⟨rfl, N3, KK3, F_on_a, F_reason_a⟩)
theorem d5_0 : decode prog_32_method_2_code 0 = .ok (.aload_n 1, 1) := by decide +kernel
theorem d5_1 : decode prog_32_method_2_code 1 = .ok (.instanceof 8, 3) := by decide +kernel
theorem d5_4 : decode prog_32_method_2_code 4 = .ok (.ifCond .eq 34, 3) := by decide +kernel
theorem d5_7 : decode prog_32_method_2_code 7 = .ok (.aload_n 1, 1) := by decide +kernel
theorem d5_8 : decode prog_32_method_2_code 8 = .ok (.checkcast 8, 3) := by decide +kernel
theorem d5_11 : decode prog_32_method_2_code 11 = .ok (.astore_n 2, 1) := by decide +kernel
theorem d5_12 : decode prog_32_method_2_code 12 = .ok (.aload_n 2, 1) := by decide +kernel
theorem d5_13 : decode prog_32_method_2_code 13 = .ok (.getfield 7, 3) := by decide +kernel
theorem d5_16 : decode prog_32_method_2_code 16 = .ok (.aload_n 0, 1) := by decide +kernel
theorem d5_17 : decode prog_32_method_2_code 17 = .ok (.getfield 7, 3) := by decide +kernel
theorem d5_20 : decode prog_32_method_2_code 20 = .ok (.if_icmp .ne 18, 3) := by decide +kernel
theorem d5_23 : decode prog_32_method_2_code 23 = .ok (.aload_n 2, 1) := by decide +kernel
theorem d5_24 : decode prog_32_method_2_code 24 = .ok (.getfield 13, 3) := by decide +kernel
theorem d5_27 : decode prog_32_method_2_code 27 = .ok (.aload_n 0, 1) := by decide +kernel
theorem d5_28 : decode prog_32_method_2_code 28 = .ok (.getfield 13, 3) := by decide +kernel
theorem d5_31 : decode prog_32_method_2_code 31 = .ok (.if_acmp .ne 7, 3) := by decide +kernel
theorem d5_34 : decode prog_32_method_2_code 34 = .ok (.iconst 1, 1) := by decide +kernel
theorem d5_35 : decode prog_32_method_2_code 35 = .ok (.goto 4, 3) := by decide +kernel
theorem d5_39 : decode prog_32_method_2_code 39 = .ok (.ireturn, 1) := by decide +kernel
theorem d5_38 : decode prog_32_method_2_code 38 = .ok (.iconst 0, 1) := by decide +kernel
theorem ef_eqM (m : MethodId) (a : Addr) (b : Addr) : entryFrame m #[(.ref a), (.ref b)] 3 = mkF m 0 #[.val (.ref a), .val (.ref b), .unset] [] := by first | (simp [entryFrame, mkF, argsToLocals, Value.category]; done) | rfl
abbrev R_eqM : Room := { frames := 0, cells := 0, slots := 0, locals := 0 }
def Q_eqM (Z : State) (a : Addr) (b : Addr) (x : Int32) (y : Addr) (z : Int32) (t : Addr) (h0 : Heap) (n0 : Nat) (v : Option Value) (h : Heap) (L : List Loc) : Prop := v = some (.int (bi (z = x ∧ t = y))) ∧ Fr n0 L ∧ h = h0
set_option maxRecDepth 65536 in
set_option maxHeartbeats 40000000 in
theorem rm_eqM (l : Launch) (Z : State) (a0 : Array Value) (hw : ∀ d ∈ tables_1, d.before a0 Z = true) (ws : List Jvm.Cond) (a : Addr) (b : Addr) (x : Int32) (y : Addr) (z : Int32) (t : Addr) (h0 : Heap) (n0 : Nat) (O0 : Old Z n0 h0) (F1a : Fld Z h0 a "com/example/drain_warden/drainwarden/model/SaverState" "on" "Z" (.int x)) (F2a : Fld Z h0 a "com/example/drain_warden/drainwarden/model/SaverState" "reason" "Lcom/example/drain_warden/drainwarden/model/SaverState$Reason;" (.ref y)) (F1b : Fld Z h0 b "com/example/drain_warden/drainwarden/model/SaverState" "on" "Z" (.int z)) (F2b : Fld Z h0 b "com/example/drain_warden/drainwarden/model/SaverState" "reason" "Lcom/example/drain_warden/drainwarden/model/SaverState$Reason;" (.ref t)) (E_b : Exa Z h0 b "com/example/drain_warden/drainwarden/model/SaverState") :
    MetFree l (⟨"com/example/drain_warden/drainwarden/model/SaverState", "equals", "(Ljava/lang/Object;)Z"⟩ : MethodName) (head1 (Jvm.Cond.code (⟨"com/example/drain_warden/drainwarden/model/SaverState", "equals", "(Ljava/lang/Object;)Z"⟩ : MethodName) prog_32_method_2_code 3 (some .boolean) :: ws) R_eqM) (fun as_ U => as_ = #[(.ref a), (.ref b)] ∧ Z.Warmed39 U.vm ∧ U.heap = h0) (fun _ _ _ _ _ => True) (fun _ U o U' => ∃ v L, o = .returned v ∧ Q_eqM Z a b x y z t h0 n0 v U'.heap L ∧ FrameEnd U o U' L R_eqM.cells R_eqM.slots) := by
  refine MetFree.of_bodySF (plainFor_of_name pn_2) hisR ?_
  intro p e s m args below meth c s₁ Bd hml0 hP hK
  obtain ⟨rfl, hZ, hh⟩ := hP
  have hx := Bd.exec
  have hby := Bd.bytes
  have hml : c.maxLocals = 3 := hml0
  have hown : s.vm.findClass "com/example/drain_warden/drainwarden/model/SaverState" = some m.cls := findClass_of_methodNamed Bd.named
  have hnm := (name_of_methodNamed Bd.named Bd.method).1
  have hlk : meth.locks = false := BodyLoose.notSynchronized Bd
  have X0 : Stand p l e R_eqM s m #[(.ref a), (.ref b)] below meth c s₁ [] 0 0 := Stand.of_body Bd
  have e0 : s₁.heap = h0 := by rw [← hh, Bd.state]; rfl
  have N0 := Fr.nil n0
  refine enter (P := PQ s R_eqM.cells R_eqM.slots (Q_eqM Z a b x y z t h0 n0)) (ef_eqM m a b) ?_
  refine goS (n := 1) (Ls' := #[.val (.ref a), .val (.ref b), .unset]) (st' := [(.ref b)]) (fun _ kz => XS.aloadN X0.here hx rfl (hb hby d5_0) rfl rfl kz) ?_
  obtain ⟨T1, X1, e1, st1⟩ := instY X0 hx hZ hown (hw _ (List.mem_of_getElem? (i := 33) rfl)) e0 (Ins.self E_b) (g := (mkF m 1 #[.val (.ref a), .val (.ref b), .unset] [(.ref b)])) rfl rfl (hb hby d5_1)
  refine goS (n := 4) (Ls' := #[.val (.ref a), .val (.ref b), .unset]) (st' := [(.int (1 : Int32))]) st1 ?_
  refine goS (n := 7) (Ls' := #[.val (.ref a), .val (.ref b), .unset]) (st' := []) (fun _ kz => XS.ifNo X1.here hx rfl (hb hby d5_4) rfl (by decide) kz) ?_
  refine goS (n := 8) (Ls' := #[.val (.ref a), .val (.ref b), .unset]) (st' := [(.ref b)]) (fun _ kz => XS.aloadN X1.here hx rfl (hb hby d5_7) rfl rfl kz) ?_
  obtain ⟨T2, X2, e2, st2⟩ := castY X1 hx hZ hown (hw _ (List.mem_of_getElem? (i := 33) rfl)) e1 (Ins.self E_b) (g := (mkF m 8 #[.val (.ref a), .val (.ref b), .unset] [(.ref b)])) rfl rfl (hb hby d5_8)
  refine goS (n := 11) (Ls' := #[.val (.ref a), .val (.ref b), .unset]) (st' := [(.ref b)]) st2 ?_
  refine goS (n := 12) (Ls' := #[.val (.ref a), .val (.ref b), .val (.ref b)]) (st' := []) (fun _ kz => XS.astoreN X2.here hx rfl (hb hby d5_11) rfl rfl (l' := #[.val (.ref a), .val (.ref b), .val (.ref b)]) rfl kz) ?_
  refine goS (n := 13) (Ls' := #[.val (.ref a), .val (.ref b), .val (.ref b)]) (st' := [(.ref b)]) (fun _ kz => XS.aloadN X2.here hx rfl (hb hby d5_12) rfl rfl kz) ?_
  obtain ⟨T3, X3, e3, st3⟩ := getF X2 hx hZ hown (host := "") (Or.inl (hw _ (List.mem_of_getElem? (i := 22) rfl))) Via.refl e2 F1b (g := (mkF m 13 #[.val (.ref a), .val (.ref b), .val (.ref b)] [(.ref b)])) rfl rfl (hb hby d5_13)
  refine goS (n := 16) (Ls' := #[.val (.ref a), .val (.ref b), .val (.ref b)]) (st' := [(.int z)]) st3 ?_
  refine goS (n := 17) (Ls' := #[.val (.ref a), .val (.ref b), .val (.ref b)]) (st' := [(.ref a), (.int z)]) (fun _ kz => XS.aloadN X3.here hx rfl (hb hby d5_16) rfl rfl kz) ?_
  obtain ⟨T4, X4, e4, st4⟩ := getF X3 hx hZ hown (host := "") (Or.inl (hw _ (List.mem_of_getElem? (i := 22) rfl))) Via.refl e3 F1a (g := (mkF m 17 #[.val (.ref a), .val (.ref b), .val (.ref b)] [(.ref a), (.int z)])) rfl rfl (hb hby d5_17)
  refine goS (n := 20) (Ls' := #[.val (.ref a), .val (.ref b), .val (.ref b)]) (st' := [(.int x), (.int z)]) st4 ?_
  by_cases hc5 : z = x
  · refine goS (n := 23) (Ls' := #[.val (.ref a), .val (.ref b), .val (.ref b)]) (st' := []) (fun _ kz => XS.icmpNo X4.here hx rfl (hb hby d5_20) rfl (teq hc5).2 kz) ?_
    refine goS (n := 24) (Ls' := #[.val (.ref a), .val (.ref b), .val (.ref b)]) (st' := [(.ref b)]) (fun _ kz => XS.aloadN X4.here hx rfl (hb hby d5_23) rfl rfl kz) ?_
    obtain ⟨T6, X6, e6, st6⟩ := getF X4 hx hZ hown (host := "") (Or.inl (hw _ (List.mem_of_getElem? (i := 24) rfl))) Via.refl e4 F2b (g := (mkF m 24 #[.val (.ref a), .val (.ref b), .val (.ref b)] [(.ref b)])) rfl rfl (hb hby d5_24)
    refine goS (n := 27) (Ls' := #[.val (.ref a), .val (.ref b), .val (.ref b)]) (st' := [(.ref t)]) st6 ?_
    refine goS (n := 28) (Ls' := #[.val (.ref a), .val (.ref b), .val (.ref b)]) (st' := [(.ref a), (.ref t)]) (fun _ kz => XS.aloadN X6.here hx rfl (hb hby d5_27) rfl rfl kz) ?_
    obtain ⟨T7, X7, e7, st7⟩ := getF X6 hx hZ hown (host := "") (Or.inl (hw _ (List.mem_of_getElem? (i := 24) rfl))) Via.refl e6 F2a (g := (mkF m 28 #[.val (.ref a), .val (.ref b), .val (.ref b)] [(.ref a), (.ref t)])) rfl rfl (hb hby d5_28)
    refine goS (n := 31) (Ls' := #[.val (.ref a), .val (.ref b), .val (.ref b)]) (st' := [(.ref y), (.ref t)]) st7 ?_
    by_cases hc8 : t = y
    · refine goS (n := 34) (Ls' := #[.val (.ref a), .val (.ref b), .val (.ref b)]) (st' := []) (fun _ kz => Jvm.RoadKit.acmp (g := (mkF m 31 #[.val (.ref a), .val (.ref b), .val (.ref b)] [(.ref y), (.ref t)])) X7 hx rfl rfl rfl (pc0 := 31) (pc' := 34) (same := true) rfl (hb hby d5_31) rfl (decide_eq_true (congrArg Value.ref hc8)) (by decide) (by decide) kz) ?_
      refine goS (n := 35) (Ls' := #[.val (.ref a), .val (.ref b), .val (.ref b)]) (st' := [(.int (1 : Int32))]) (fun _ kz => XS.iconst X7.here hx rfl (hb hby d5_34) kz) ?_
      refine goS (n := 39) (Ls' := #[.val (.ref a), .val (.ref b), .val (.ref b)]) (st' := [(.int (1 : Int32))]) (fun _ kz => XS.goto X7.here hx rfl (pc0 := 35) (pc' := 39) rfl (hb hby d5_35) (by decide) (by decide) kz) ?_
      exact goRetZ X7 hx hlk Bd.returns (Or.inr rfl) (hb hby d5_39) (by decide) (by decide) (by rw [e7]; exact ⟨by simp [bi, hc5, hc8], N0, rfl⟩)
    · refine goS (n := 38) (Ls' := #[.val (.ref a), .val (.ref b), .val (.ref b)]) (st' := []) (fun _ kz => Jvm.RoadKit.acmp (g := (mkF m 31 #[.val (.ref a), .val (.ref b), .val (.ref b)] [(.ref y), (.ref t)])) X7 hx rfl rfl rfl (pc0 := 31) (pc' := 38) (same := false) rfl (hb hby d5_31) rfl (decide_eq_false fun q => hc8 (Value.ref.inj q)) (by decide) (by decide) kz) ?_
      refine goS (n := 39) (Ls' := #[.val (.ref a), .val (.ref b), .val (.ref b)]) (st' := [(.int (0 : Int32))]) (fun _ kz => XS.iconst X7.here hx rfl (hb hby d5_38) kz) ?_
      exact goRetZ X7 hx hlk Bd.returns (Or.inl rfl) (hb hby d5_39) (by decide) (by decide) (by rw [e7]; exact ⟨by simp [bi, hc5, hc8], N0, rfl⟩)
  · refine goS (n := 38) (Ls' := #[.val (.ref a), .val (.ref b), .val (.ref b)]) (st' := []) (fun _ kz => XS.icmpYes X4.here hx rfl (pc0 := 20) (pc' := 38) rfl (hb hby d5_20) rfl (feq hc5).2 (by decide) (by decide) kz) ?_
    refine goS (n := 39) (Ls' := #[.val (.ref a), .val (.ref b), .val (.ref b)]) (st' := [(.int (0 : Int32))]) (fun _ kz => XS.iconst X4.here hx rfl (hb hby d5_38) kz) ?_
    exact goRetZ X4 hx hlk Bd.returns (Or.inl rfl) (hb hby d5_39) (by decide) (by decide) (by rw [e4]; exact ⟨by simp [bi, hc5], N0, rfl⟩)
theorem ef_eqN (m : MethodId) (a : Addr) : entryFrame m #[(.ref a), .null] 3 = mkF m 0 #[.val (.ref a), .val .null, .unset] [] := by first | (simp [entryFrame, mkF, argsToLocals, Value.category]; done) | rfl
abbrev R_eqN : Room := { frames := 0, cells := 0, slots := 0, locals := 0 }
def Q_eqN (Z : State) (a : Addr) (h0 : Heap) (n0 : Nat) (v : Option Value) (h : Heap) (L : List Loc) : Prop := v = some (.int 0) ∧ Fr n0 L ∧ h = h0
set_option maxRecDepth 65536 in
set_option maxHeartbeats 40000000 in
theorem rm_eqN (l : Launch) (Z : State) (a0 : Array Value) (hw : ∀ d ∈ tables_1, d.before a0 Z = true) (ws : List Jvm.Cond) (a : Addr) (h0 : Heap) (n0 : Nat) (O0 : Old Z n0 h0) :
    MetFree l (⟨"com/example/drain_warden/drainwarden/model/SaverState", "equals", "(Ljava/lang/Object;)Z"⟩ : MethodName) (head1 (Jvm.Cond.code (⟨"com/example/drain_warden/drainwarden/model/SaverState", "equals", "(Ljava/lang/Object;)Z"⟩ : MethodName) prog_32_method_2_code 3 (some .boolean) :: ws) R_eqN) (fun as_ U => as_ = #[(.ref a), .null] ∧ Z.Warmed39 U.vm ∧ U.heap = h0) (fun _ _ _ _ _ => True) (fun _ U o U' => ∃ v L, o = .returned v ∧ Q_eqN Z a h0 n0 v U'.heap L ∧ FrameEnd U o U' L R_eqN.cells R_eqN.slots) := by
  refine MetFree.of_bodySF (plainFor_of_name pn_2) hisR ?_
  intro p e s m args below meth c s₁ Bd hml0 hP hK
  obtain ⟨rfl, hZ, hh⟩ := hP
  have hx := Bd.exec
  have hby := Bd.bytes
  have hml : c.maxLocals = 3 := hml0
  have hown : s.vm.findClass "com/example/drain_warden/drainwarden/model/SaverState" = some m.cls := findClass_of_methodNamed Bd.named
  have hnm := (name_of_methodNamed Bd.named Bd.method).1
  have hlk : meth.locks = false := BodyLoose.notSynchronized Bd
  have X0 : Stand p l e R_eqN s m #[(.ref a), .null] below meth c s₁ [] 0 0 := Stand.of_body Bd
  have e0 : s₁.heap = h0 := by rw [← hh, Bd.state]; rfl
  have N0 := Fr.nil n0
  refine enter (P := PQ s R_eqN.cells R_eqN.slots (Q_eqN Z a h0 n0)) (ef_eqN m a) ?_
  refine goS (n := 1) (Ls' := #[.val (.ref a), .val .null, .unset]) (st' := [.null]) (fun _ kz => XS.aloadN X0.here hx rfl (hb hby d5_0) rfl rfl kz) ?_
  refine goS (n := 4) (Ls' := #[.val (.ref a), .val .null, .unset]) (st' := [(.int (0 : Int32))]) (fun tz kz => X0.instanceofNull hx (g := (mkF m 1 #[.val (.ref a), .val .null, .unset] [.null])) rfl rfl (hb hby d5_1) tz kz) ?_
  refine goS (n := 38) (Ls' := #[.val (.ref a), .val .null, .unset]) (st' := []) (fun _ kz => XS.ifYes X0.here hx rfl (pc0 := 4) (pc' := 38) rfl (hb hby d5_4) rfl (by decide) (by decide) (by decide) kz) ?_
  refine goS (n := 39) (Ls' := #[.val (.ref a), .val .null, .unset]) (st' := [(.int (0 : Int32))]) (fun _ kz => XS.iconst X0.here hx rfl (hb hby d5_38) kz) ?_
  exact goRetZ X0 hx hlk Bd.returns (Or.inl rfl) (hb hby d5_39) (by decide) (by decide) (by rw [e0]; exact ⟨rfl, N0, rfl⟩)
theorem ef_eqS (m : MethodId) (a : Addr) (b : Addr) : entryFrame m #[(.ref a), (.ref b)] 3 = mkF m 0 #[.val (.ref a), .val (.ref b), .unset] [] := by first | (simp [entryFrame, mkF, argsToLocals, Value.category]; done) | rfl
abbrev R_eqS : Room := { frames := 0, cells := 0, slots := 0, locals := 0 }
def Q_eqS (Z : State) (a : Addr) (b : Addr) (h0 : Heap) (n0 : Nat) (v : Option Value) (h : Heap) (L : List Loc) : Prop := v = some (.int 0) ∧ Fr n0 L ∧ h = h0
set_option maxRecDepth 65536 in
set_option maxHeartbeats 40000000 in
theorem rm_eqS (l : Launch) (Z : State) (a0 : Array Value) (hw : ∀ d ∈ tables_1, d.before a0 Z = true) (ws : List Jvm.Cond) (a : Addr) (b : Addr) (h0 : Heap) (n0 : Nat) (O0 : Old Z n0 h0) (E_b : Exa Z h0 b "java/lang/String") :
    MetFree l (⟨"com/example/drain_warden/drainwarden/model/SaverState", "equals", "(Ljava/lang/Object;)Z"⟩ : MethodName) (head1 (Jvm.Cond.code (⟨"com/example/drain_warden/drainwarden/model/SaverState", "equals", "(Ljava/lang/Object;)Z"⟩ : MethodName) prog_32_method_2_code 3 (some .boolean) :: ws) R_eqS) (fun as_ U => as_ = #[(.ref a), (.ref b)] ∧ Z.Warmed39 U.vm ∧ U.heap = h0) (fun _ _ _ _ _ => True) (fun _ U o U' => ∃ v L, o = .returned v ∧ Q_eqS Z a b h0 n0 v U'.heap L ∧ FrameEnd U o U' L R_eqS.cells R_eqS.slots) := by
  refine MetFree.of_bodySF (plainFor_of_name pn_2) hisR ?_
  intro p e s m args below meth c s₁ Bd hml0 hP hK
  obtain ⟨rfl, hZ, hh⟩ := hP
  have hx := Bd.exec
  have hby := Bd.bytes
  have hml : c.maxLocals = 3 := hml0
  have hown : s.vm.findClass "com/example/drain_warden/drainwarden/model/SaverState" = some m.cls := findClass_of_methodNamed Bd.named
  have hnm := (name_of_methodNamed Bd.named Bd.method).1
  have hlk : meth.locks = false := BodyLoose.notSynchronized Bd
  have X0 : Stand p l e R_eqS s m #[(.ref a), (.ref b)] below meth c s₁ [] 0 0 := Stand.of_body Bd
  have e0 : s₁.heap = h0 := by rw [← hh, Bd.state]; rfl
  have N0 := Fr.nil n0
  refine enter (P := PQ s R_eqS.cells R_eqS.slots (Q_eqS Z a b h0 n0)) (ef_eqS m a b) ?_
  refine goS (n := 1) (Ls' := #[.val (.ref a), .val (.ref b), .unset]) (st' := [(.ref b)]) (fun _ kz => XS.aloadN X0.here hx rfl (hb hby d5_0) rfl rfl kz) ?_
  obtain ⟨T1, X1, e1, st1⟩ := instNo X0 hx hZ hown (hw _ (List.mem_of_getElem? (i := 33) rfl)) e0 E_b (nsNo (hw _ (List.mem_of_getElem? (i := 70) rfl)) (hw _ (List.mem_of_getElem? (i := 2) rfl)) (NS.step (hw _ (List.mem_of_getElem? (i := 70) rfl)) (nsRoot (hw _ (List.mem_of_getElem? (i := 41) rfl)) (hw _ (List.mem_of_getElem? (i := 2) rfl)) (by decide)) (by decide)) (by decide)) (g := (mkF m 1 #[.val (.ref a), .val (.ref b), .unset] [(.ref b)])) rfl rfl (hb hby d5_1)
  refine goS (n := 4) (Ls' := #[.val (.ref a), .val (.ref b), .unset]) (st' := [(.int (0 : Int32))]) st1 ?_
  refine goS (n := 38) (Ls' := #[.val (.ref a), .val (.ref b), .unset]) (st' := []) (fun _ kz => XS.ifYes X1.here hx rfl (pc0 := 4) (pc' := 38) rfl (hb hby d5_4) rfl (by decide) (by decide) (by decide) kz) ?_
  refine goS (n := 39) (Ls' := #[.val (.ref a), .val (.ref b), .unset]) (st' := [(.int (0 : Int32))]) (fun _ kz => XS.iconst X1.here hx rfl (hb hby d5_38) kz) ?_
  exact goRetZ X1 hx hlk Bd.returns (Or.inl rfl) (hb hby d5_39) (by decide) (by decide) (by rw [e1]; exact ⟨rfl, N0, rfl⟩)
theorem ef_eqR (m : MethodId) (a : Addr) (b : Addr) : entryFrame m #[(.ref a), (.ref b)] 3 = mkF m 0 #[.val (.ref a), .val (.ref b), .unset] [] := by first | (simp [entryFrame, mkF, argsToLocals, Value.category]; done) | rfl
abbrev R_eqR : Room := { frames := 0, cells := 0, slots := 0, locals := 0 }
def Q_eqR (Z : State) (a : Addr) (b : Addr) (h0 : Heap) (n0 : Nat) (v : Option Value) (h : Heap) (L : List Loc) : Prop := v = some (.int 0) ∧ Fr n0 L ∧ h = h0
set_option maxRecDepth 65536 in
set_option maxHeartbeats 40000000 in
theorem rm_eqR (l : Launch) (Z : State) (a0 : Array Value) (hw : ∀ d ∈ tables_1, d.before a0 Z = true) (ws : List Jvm.Cond) (a : Addr) (b : Addr) (h0 : Heap) (n0 : Nat) (O0 : Old Z n0 h0) (E_b : Exa Z h0 b "com/example/drain_warden/drainwarden/model/SaverState$Reason") :
    MetFree l (⟨"com/example/drain_warden/drainwarden/model/SaverState", "equals", "(Ljava/lang/Object;)Z"⟩ : MethodName) (head1 (Jvm.Cond.code (⟨"com/example/drain_warden/drainwarden/model/SaverState", "equals", "(Ljava/lang/Object;)Z"⟩ : MethodName) prog_32_method_2_code 3 (some .boolean) :: ws) R_eqR) (fun as_ U => as_ = #[(.ref a), (.ref b)] ∧ Z.Warmed39 U.vm ∧ U.heap = h0) (fun _ _ _ _ _ => True) (fun _ U o U' => ∃ v L, o = .returned v ∧ Q_eqR Z a b h0 n0 v U'.heap L ∧ FrameEnd U o U' L R_eqR.cells R_eqR.slots) := by
  refine MetFree.of_bodySF (plainFor_of_name pn_2) hisR ?_
  intro p e s m args below meth c s₁ Bd hml0 hP hK
  obtain ⟨rfl, hZ, hh⟩ := hP
  have hx := Bd.exec
  have hby := Bd.bytes
  have hml : c.maxLocals = 3 := hml0
  have hown : s.vm.findClass "com/example/drain_warden/drainwarden/model/SaverState" = some m.cls := findClass_of_methodNamed Bd.named
  have hnm := (name_of_methodNamed Bd.named Bd.method).1
  have hlk : meth.locks = false := BodyLoose.notSynchronized Bd
  have X0 : Stand p l e R_eqR s m #[(.ref a), (.ref b)] below meth c s₁ [] 0 0 := Stand.of_body Bd
  have e0 : s₁.heap = h0 := by rw [← hh, Bd.state]; rfl
  have N0 := Fr.nil n0
  refine enter (P := PQ s R_eqR.cells R_eqR.slots (Q_eqR Z a b h0 n0)) (ef_eqR m a b) ?_
  refine goS (n := 1) (Ls' := #[.val (.ref a), .val (.ref b), .unset]) (st' := [(.ref b)]) (fun _ kz => XS.aloadN X0.here hx rfl (hb hby d5_0) rfl rfl kz) ?_
  obtain ⟨T1, X1, e1, st1⟩ := instNo X0 hx hZ hown (hw _ (List.mem_of_getElem? (i := 33) rfl)) e0 E_b (nsNo (hw _ (List.mem_of_getElem? (i := 39) rfl)) (hw _ (List.mem_of_getElem? (i := 2) rfl)) (NS.step (hw _ (List.mem_of_getElem? (i := 39) rfl)) (NS.step (hw _ (List.mem_of_getElem? (i := 40) rfl)) (nsRoot (hw _ (List.mem_of_getElem? (i := 41) rfl)) (hw _ (List.mem_of_getElem? (i := 2) rfl)) (by decide)) (by decide)) (by decide)) (by decide)) (g := (mkF m 1 #[.val (.ref a), .val (.ref b), .unset] [(.ref b)])) rfl rfl (hb hby d5_1)
  refine goS (n := 4) (Ls' := #[.val (.ref a), .val (.ref b), .unset]) (st' := [(.int (0 : Int32))]) st1 ?_
  refine goS (n := 38) (Ls' := #[.val (.ref a), .val (.ref b), .unset]) (st' := []) (fun _ kz => XS.ifYes X1.here hx rfl (pc0 := 4) (pc' := 38) rfl (hb hby d5_4) rfl (by decide) (by decide) (by decide) kz) ?_
  refine goS (n := 39) (Ls' := #[.val (.ref a), .val (.ref b), .unset]) (st' := [(.int (0 : Int32))]) (fun _ kz => XS.iconst X1.here hx rfl (hb hby d5_38) kz) ?_
  exact goRetZ X1 hx hlk Bd.returns (Or.inl rfl) (hb hby d5_39) (by decide) (by decide) (by rw [e1]; exact ⟨rfl, N0, rfl⟩)
theorem d7_0 : decode jdk_43_method_3_code 0 = .ok (.iload_n 0, 1) := by decide +kernel
theorem d7_1 : decode jdk_43_method_3_code 1 = .ok (.sipush 255, 3) := by decide +kernel
theorem d7_4 : decode jdk_43_method_3_code 4 = .ok (.if_icmp .gt 7, 3) := by decide +kernel
theorem d7_7 : decode jdk_43_method_3_code 7 = .ok (.iconst 1, 1) := by decide +kernel
theorem d7_8 : decode jdk_43_method_3_code 8 = .ok (.goto 4, 3) := by decide +kernel
theorem d7_12 : decode jdk_43_method_3_code 12 = .ok (.ireturn, 1) := by decide +kernel
theorem pn_3 : plainName "java/lang/StringLatin1" = true := by first | (simp [plainName, overriddenIn]; done) | decide +kernel
theorem ef_canEnc (m : MethodId) (x : Int32) : entryFrame m #[(.int x)] 1 = mkF m 0 #[.val (.int x)] [] := by first | (simp [entryFrame, mkF, argsToLocals, Value.category]; done) | rfl
abbrev R_canEnc : Room := { frames := 0, cells := 0, slots := 0, locals := 0 }
def Q_canEnc (Z : State) (x : Int32) (h0 : Heap) (n0 : Nat) (v : Option Value) (h : Heap) (L : List Loc) : Prop := v = some (.int 1) ∧ Fr n0 L ∧ h = h0
set_option maxRecDepth 65536 in
set_option maxHeartbeats 40000000 in
theorem rm_canEnc (l : Launch) (Z : State) (a0 : Array Value) (hw : ∀ d ∈ tables_1, d.before a0 Z = true) (ws : List Jvm.Cond) (x : Int32) (h0 : Heap) (n0 : Nat) (O0 : Old Z n0 h0) (hx255 : ¬ (255 : Int32) < x) :
    MetFree l (⟨"java/lang/StringLatin1", "canEncode", "(C)Z"⟩ : MethodName) (head1 (Jvm.Cond.code (⟨"java/lang/StringLatin1", "canEncode", "(C)Z"⟩ : MethodName) jdk_43_method_3_code 1 (some .boolean) :: ws) R_canEnc) (fun as_ U => as_ = #[(.int x)] ∧ Z.Warmed39 U.vm ∧ U.heap = h0) (fun _ _ _ _ _ => True) (fun _ U o U' => ∃ v L, o = .returned v ∧ Q_canEnc Z x h0 n0 v U'.heap L ∧ FrameEnd U o U' L R_canEnc.cells R_canEnc.slots) := by
  refine MetFree.of_bodySF (plainFor_of_name pn_3) hisR ?_
  intro p e s m args below meth c s₁ Bd hml0 hP hK
  obtain ⟨rfl, hZ, hh⟩ := hP
  have hx := Bd.exec
  have hby := Bd.bytes
  have hml : c.maxLocals = 1 := hml0
  have hown : s.vm.findClass "java/lang/StringLatin1" = some m.cls := findClass_of_methodNamed Bd.named
  have hnm := (name_of_methodNamed Bd.named Bd.method).1
  have hlk : meth.locks = false := BodyLoose.notSynchronized Bd
  have X0 : Stand p l e R_canEnc s m #[(.int x)] below meth c s₁ [] 0 0 := Stand.of_body Bd
  have e0 : s₁.heap = h0 := by rw [← hh, Bd.state]; rfl
  have N0 := Fr.nil n0
  refine enter (P := PQ s R_canEnc.cells R_canEnc.slots (Q_canEnc Z x h0 n0)) (ef_canEnc m x) ?_
  refine goS (n := 1) (Ls' := #[.val (.int x)]) (st' := [(.int x)]) (fun _ kz => XS.iloadN X0.here hx rfl (hb hby d7_0) rfl kz) ?_
  refine goS (n := 4) (Ls' := #[.val (.int x)]) (st' := [(.int (255 : Int32)), (.int x)]) (fun _ kz => XS.sipush X0.here hx rfl (hb hby d7_1) kz) ?_
  refine goS (n := 7) (Ls' := #[.val (.int x)]) (st' := []) (fun _ kz => XS.icmpNo X0.here hx rfl (hb hby d7_4) rfl (flt hx255).2.2.1 kz) ?_
  refine goS (n := 8) (Ls' := #[.val (.int x)]) (st' := [(.int (1 : Int32))]) (fun _ kz => XS.iconst X0.here hx rfl (hb hby d7_7) kz) ?_
  refine goS (n := 12) (Ls' := #[.val (.int x)]) (st' := [(.int (1 : Int32))]) (fun _ kz => XS.goto X0.here hx rfl (pc0 := 8) (pc' := 12) rfl (hb hby d7_8) (by decide) (by decide) kz) ?_
  exact goRetZ X0 hx hlk Bd.returns (Or.inr rfl) (hb hby d7_12) (by decide) (by decide) (by rw [e0]; exact ⟨rfl, N0, rfl⟩)
theorem d8_0 : decode jdk_43_method_46_code 0 = .ok (.iconst 1, 1) := by decide +kernel
theorem d8_1 : decode jdk_43_method_46_code 1 = .ok (.newarray .byte, 2) := by decide +kernel
theorem d8_3 : decode jdk_43_method_46_code 3 = .ok (.dup, 1) := by decide +kernel
theorem d8_4 : decode jdk_43_method_46_code 4 = .ok (.iconst 0, 1) := by decide +kernel
theorem d8_5 : decode jdk_43_method_46_code 5 = .ok (.iload_n 0, 1) := by decide +kernel
theorem d8_6 : decode jdk_43_method_46_code 6 = .ok (.i2b, 1) := by decide +kernel
theorem d8_7 : decode jdk_43_method_46_code 7 = .ok (.bastore, 1) := by decide +kernel
theorem d8_8 : decode jdk_43_method_46_code 8 = .ok (.areturn, 1) := by decide +kernel
theorem ef_toB (m : MethodId) (x : Int32) : entryFrame m #[(.int x)] 1 = mkF m 0 #[.val (.int x)] [] := by first | (simp [entryFrame, mkF, argsToLocals, Value.category]; done) | rfl
abbrev R_toB : Room := { frames := 0, cells := 1, slots := 1, locals := 0 }
def Q_toB (Z : State) (x : Int32) (h0 : Heap) (n0 : Nat) (v : Option Value) (h : Heap) (L : List Loc) : Prop := ∃ (t : Addr) (k : ClassId), v = some (.ref t) ∧ Fr n0 L ∧ Keep h0 h [] ∧ n0 ≤ t ∧ h0.size ≤ t ∧ Arv Z h t k .byte (1 : Int32) [(.int (nar .byte x.toInt8.toInt32))] (.int (0 : Int32))
set_option maxRecDepth 65536 in
set_option maxHeartbeats 40000000 in
theorem rm_toB (l : Launch) (Z : State) (a0 : Array Value) (hw : ∀ d ∈ tables_1, d.before a0 Z = true) (ws : List Jvm.Cond) (x : Int32) (h0 : Heap) (n0 : Nat) (O0 : Old Z n0 h0) :
    MetFree l (⟨"java/lang/StringLatin1", "toBytes", "(C)[B"⟩ : MethodName) (head1 (Jvm.Cond.code (⟨"java/lang/StringLatin1", "toBytes", "(C)[B"⟩ : MethodName) jdk_43_method_46_code 1 (some (.array .byte)) :: ws) R_toB) (fun as_ U => as_ = #[(.int x)] ∧ Z.Warmed39 U.vm ∧ U.heap = h0) (fun _ _ _ _ _ => True) (fun _ U o U' => ∃ v L, o = .returned v ∧ Q_toB Z x h0 n0 v U'.heap L ∧ FrameEnd U o U' L R_toB.cells R_toB.slots) := by
  refine MetFree.of_bodySF (plainFor_of_name pn_3) hisR ?_
  intro p e s m args below meth c s₁ Bd hml0 hP hK
  obtain ⟨rfl, hZ, hh⟩ := hP
  have hx := Bd.exec
  have hby := Bd.bytes
  have hml : c.maxLocals = 1 := hml0
  have hown : s.vm.findClass "java/lang/StringLatin1" = some m.cls := findClass_of_methodNamed Bd.named
  have hnm := (name_of_methodNamed Bd.named Bd.method).1
  have hlk : meth.locks = false := BodyLoose.notSynchronized Bd
  have X0 : Stand p l e R_toB s m #[(.int x)] below meth c s₁ [] 0 0 := Stand.of_body Bd
  have e0 : s₁.heap = h0 := by rw [← hh, Bd.state]; rfl
  have N0 := Fr.nil n0
  refine enter (P := PQ s R_toB.cells R_toB.slots (Q_toB Z x h0 n0)) (ef_toB m x) ?_
  refine goS (n := 1) (Ls' := #[.val (.int x)]) (st' := [(.int (1 : Int32))]) (fun _ kz => XS.iconst X0.here hx rfl (hb hby d8_0) kz) ?_
  obtain ⟨T1, h1, k1, X1, e1, E1, A1, Ex1, st1⟩ := newPE X0 hx hZ (hw _ (List.mem_of_getElem? (i := 60) rfl)) e0 (g := (mkF m 1 #[.val (.int x)] [(.int (1 : Int32))])) rfl (hb hby d8_1) rfl (by decide) (cap := 1) (by decide) (by decide) (by decide) (by decide) (ad := "[B") (by decide +kernel)
  obtain ⟨b1, g1⟩ : ∃ z, z = h0.size := ⟨_, rfl⟩
  rw [← g1] at A1 st1 Ex1
  have g_b1 : n0 ≤ b1 := Nat.le_trans (O0.1 ▸ O0.2.1) (Nat.le_of_eq g1.symm)
  have z_b1 : h0.size ≤ b1 := Nat.le_trans (Keep.refl h0 []).1 (Nat.le_of_eq g1.symm)
  have E_b1 : Exa Z h1 b1 "[B" := Ex1
  have V_b1 : Arv Z h1 b1 k1 .byte (1 : Int32) [(.int (0 : Int32))] (.int (0 : Int32)) := (Arv.new A1 (by decide)).pad (pad_rep [] (.int (0 : Int32)) 1)
  have O1 := O0.ext E1
  have KK1 : Keep h0 h1 [] := (Keep.refl h0 []).ext E1
  refine goS (n := 3) (Ls' := #[.val (.int x)]) (st' := [(.ref b1)]) st1 ?_
  refine goS (n := 4) (Ls' := #[.val (.int x)]) (st' := [(.ref b1), (.ref b1)]) (fun _ kz => XS.dup X1.here hx rfl (hb hby d8_3) rfl rfl kz) ?_
  refine goS (n := 5) (Ls' := #[.val (.int x)]) (st' := [(.int (0 : Int32)), (.ref b1), (.ref b1)]) (fun _ kz => XS.iconst X1.here hx rfl (hb hby d8_4) kz) ?_
  refine goS (n := 6) (Ls' := #[.val (.int x)]) (st' := [(.int x), (.int (0 : Int32)), (.ref b1), (.ref b1)]) (fun _ kz => XS.iloadN X1.here hx rfl (hb hby d8_5) rfl kz) ?_
  refine goS (n := 7) (Ls' := #[.val (.int x)]) (st' := [(.int (x.toInt8.toInt32)), (.int (0 : Int32)), (.ref b1), (.ref b1)]) (fun _ kz => XS.i2b X1.here hx rfl (hb hby d8_6) rfl kz) ?_
  obtain ⟨cl2, Ar2, q2, S2, Nn2, H2, G2⟩ := V_b1
  have hin2 : ¬ ((0 : Int32) < 0 ∨ cl2.slots.size ≤ ((0 : Int32)).toNatClampNeg) := inb_of S2 ⟨by decide, by decide⟩
  obtain ⟨T3, h3, X3, e3, W3, st3⟩ := stB X1 hx hZ e1 Ar2 (j := (0 : Int32)) hin2 (g := (mkF m 7 #[.val (.int x)] [(.int (x.toInt8.toInt32)), (.int (0 : Int32)), (.ref b1), (.ref b1)])) rfl rfl (hb hby d8_7)
  have E_b1 : Exa Z h3 b1 "[B" := E_b1.wr W3
  have V_b1 : Arv Z h3 b1 k1 .byte (1 : Int32) [(.int (nar .byte (x.toInt8.toInt32)))] (.int (0 : Int32)) := Arv.set Ar2 q2 S2 Nn2 H2 G2 (fits_nar_byte _) W3 0 rfl (Nat.le_of_ble_eq_true rfl)
  have N3 := Fr.snoc X3 N0 g_b1
  have O3 := O1.wr W3 g_b1
  have KK3 : Keep h0 h3 [] := KK1.wr W3 (Or.inr z_b1)
  refine goS (n := 8) (Ls' := #[.val (.int x)]) (st' := [(.ref b1)]) st3 ?_
  exact goRetA X3 hx hlk Bd.returns rfl rfl (hb hby d8_8) (by decide) (by decide) (by rw [e3]; exact ⟨b1, _, rfl, N3, KK3, g_b1, z_b1, V_b1⟩)
theorem d9_0 : decode jdk_42_method_151_code 0 = .ok (.aload_n 0, 1) := by decide +kernel
theorem d9_1 : decode jdk_42_method_151_code 1 = .ok (.invokespecial 1, 3) := by decide +kernel
theorem d9_4 : decode jdk_42_method_151_code 4 = .ok (.aload_n 0, 1) := by decide +kernel
theorem d9_5 : decode jdk_42_method_151_code 5 = .ok (.aload_n 1, 1) := by decide +kernel
theorem d9_6 : decode jdk_42_method_151_code 6 = .ok (.putfield 9, 3) := by decide +kernel
theorem d9_9 : decode jdk_42_method_151_code 9 = .ok (.aload_n 0, 1) := by decide +kernel
theorem d9_10 : decode jdk_42_method_151_code 10 = .ok (.iload_n 2, 1) := by decide +kernel
theorem d9_11 : decode jdk_42_method_151_code 11 = .ok (.putfield 15, 3) := by decide +kernel
theorem d9_14 : decode jdk_42_method_151_code 14 = .ok (.return_, 1) := by decide +kernel
theorem pn_4 : plainName "java/lang/String" = true := by first | (simp [plainName, overriddenIn]; done) | decide +kernel
theorem ef_strBB (m : MethodId) (a : Addr) (t : Addr) : entryFrame m #[(.ref a), (.ref t), (.int (0 : Int32))] 3 = mkF m 0 #[.val (.ref a), .val (.ref t), .val (.int (0 : Int32))] [] := by first | (simp [entryFrame, mkF, argsToLocals, Value.category]; done) | rfl
abbrev R_strBB : Room := { frames := 1, cells := 0, slots := 0, locals := 12 }
def Q_strBB (Z : State) (a : Addr) (t : Addr) (h0 : Heap) (n0 : Nat) (v : Option Value) (h : Heap) (L : List Loc) : Prop := v = none ∧ Fr n0 L ∧ Keep h0 h [a] ∧ Fld Z h a "java/lang/String" "value" "[B" (.ref t) ∧ Fld Z h a "java/lang/String" "coder" "B" (.int (0 : Int32))
set_option maxRecDepth 65536 in
set_option maxHeartbeats 40000000 in
theorem rm_strBB (l : Launch) (Z : State) (a0 : Array Value) (hw : ∀ d ∈ tables_1, d.before a0 Z = true) (ws : List Jvm.Cond) (a : Addr) (t : Addr) (h0 : Heap) (n0 : Nat) (O0 : Old Z n0 h0) (E_a : Exa Z h0 a "java/lang/String") (F_value_a : Fld Z h0 a "java/lang/String" "value" "[B" .null) (F_coder_a : Fld Z h0 a "java/lang/String" "coder" "B" (.int (0 : Int32))) (g_a : n0 ≤ a) :
    MetFree l (⟨"java/lang/String", "<init>", "([BB)V"⟩ : MethodName) (head1 (Jvm.Cond.code (⟨"java/lang/String", "<init>", "([BB)V"⟩ : MethodName) jdk_42_method_151_code 3 none :: ws) R_strBB) (fun as_ U => as_ = #[(.ref a), (.ref t), (.int (0 : Int32))] ∧ Z.Warmed39 U.vm ∧ U.heap = h0) (fun _ _ _ _ _ => True) (fun _ U o U' => ∃ v L, o = .returned v ∧ Q_strBB Z a t h0 n0 v U'.heap L ∧ FrameEnd U o U' L R_strBB.cells R_strBB.slots) := by
  refine MetFree.of_bodySF (plainFor_of_name pn_4) hisR ?_
  intro p e s m args below meth c s₁ Bd hml0 hP hK
  obtain ⟨rfl, hZ, hh⟩ := hP
  have hx := Bd.exec
  have hby := Bd.bytes
  have hml : c.maxLocals = 3 := hml0
  have hown : s.vm.findClass "java/lang/String" = some m.cls := findClass_of_methodNamed Bd.named
  have hnm := (name_of_methodNamed Bd.named Bd.method).1
  have hlk : meth.locks = false := BodyLoose.notSynchronized Bd
  have X0 : Stand p l e R_strBB s m #[(.ref a), (.ref t), (.int (0 : Int32))] below meth c s₁ [] 0 0 := Stand.of_body Bd
  have e0 : s₁.heap = h0 := by rw [← hh, Bd.state]; rfl
  have N0 := Fr.nil n0
  refine enter (P := PQ s R_strBB.cells R_strBB.slots (Q_strBB Z a t h0 n0)) (ef_strBB m a t) ?_
  refine goS (n := 1) (Ls' := #[.val (.ref a), .val (.ref t), .val (.int (0 : Int32))]) (st' := [(.ref a)]) (fun _ kz => XS.aloadN X0.here hx rfl (hb hby d9_0) rfl rfl kz) ?_
  obtain ⟨T1, X1, e1, st1⟩ := initO X0 hx hZ hown (hw _ (List.mem_of_getElem? (i := 65) rfl)) (hw _ (List.mem_of_getElem? (i := 20) rfl)) (hw _ (List.mem_of_getElem? (i := 21) rfl)) e0 (g := (mkF m 1 #[.val (.ref a), .val (.ref t), .val (.int (0 : Int32))] [(.ref a)])) rfl (by rw [hml]; rfl) rfl (hb hby d9_1) (by decide) (W := 0) (by show 2 * 0 + _ ≤ _; exact Nat.le_of_eq rfl) (by decide)
  refine goS (n := 4) (Ls' := #[.val (.ref a), .val (.ref t), .val (.int (0 : Int32))]) (st' := []) st1 ?_
  refine goS (n := 5) (Ls' := #[.val (.ref a), .val (.ref t), .val (.int (0 : Int32))]) (st' := [(.ref a)]) (fun _ kz => XS.aloadN X1.here hx rfl (hb hby d9_4) rfl rfl kz) ?_
  refine goS (n := 6) (Ls' := #[.val (.ref a), .val (.ref t), .val (.int (0 : Int32))]) (st' := [(.ref t), (.ref a)]) (fun _ kz => XS.aloadN X1.here hx rfl (hb hby d9_5) rfl rfl kz) ?_
  obtain ⟨T2, h2, X2, e2, W2, st2⟩ := putF X1 hx hZ hown (host := "") (Or.inl (hw _ (List.mem_of_getElem? (i := 66) rfl))) Via.refl e1 F_value_a E_a (Or.inr ⟨(hw _ (List.mem_of_getElem? (i := 67) rfl)), rfl, hnm⟩) (hw _ (List.mem_of_getElem? (i := 56) rfl)) (ty := (.array .byte)) (v := (.ref t)) (by decide) rfl rfl (g := (mkF m 6 #[.val (.ref a), .val (.ref t), .val (.int (0 : Int32))] [(.ref t), (.ref a)])) rfl rfl (hb hby d9_6)
  have Fn2 : Fld Z h2 a "java/lang/String" "value" "[B" (.ref t) := F_value_a.same W2
  have E_a : Exa Z h2 a "java/lang/String" := E_a.wr W2
  have F_coder_a : Fld Z h2 a "java/lang/String" "coder" "B" (.int (0 : Int32)) := F_coder_a.other W2 (Or.inr (slot_ne (Or.inr (hw _ (List.mem_of_getElem? (i := 69) rfl))) (Or.inr (hw _ (List.mem_of_getElem? (i := 67) rfl))) (by decide) (t := .byte) (t' := (.array .byte)) (by decide) (by decide)))
  have F_value_a := Fn2
  have N2 := Fr.snoc X2 N0 g_a
  have O2 := O0.wr W2 g_a
  have KK2 : Keep h0 h2 [a] := (Keep.refl h0 [a]).wr W2 (Or.inl (List.mem_of_getElem? (i := 0) rfl))
  refine goS (n := 9) (Ls' := #[.val (.ref a), .val (.ref t), .val (.int (0 : Int32))]) (st' := []) st2 ?_
  refine goS (n := 10) (Ls' := #[.val (.ref a), .val (.ref t), .val (.int (0 : Int32))]) (st' := [(.ref a)]) (fun _ kz => XS.aloadN X2.here hx rfl (hb hby d9_9) rfl rfl kz) ?_
  refine goS (n := 11) (Ls' := #[.val (.ref a), .val (.ref t), .val (.int (0 : Int32))]) (st' := [(.int (0 : Int32)), (.ref a)]) (fun _ kz => XS.iloadN X2.here hx rfl (hb hby d9_10) rfl kz) ?_
  obtain ⟨T3, h3, X3, e3, W3, st3⟩ := putFN X2 hx hZ hown (hw _ (List.mem_of_getElem? (i := 68) rfl)) Via.refl e2 F_coder_a E_a (Or.inr ⟨(hw _ (List.mem_of_getElem? (i := 69) rfl)), rfl, hnm⟩) (hw _ (List.mem_of_getElem? (i := 56) rfl)) (ty := .byte) (v' := (.int (0 : Int32))) (by decide) rfl rfl (g := (mkF m 11 #[.val (.ref a), .val (.ref t), .val (.int (0 : Int32))] [(.int (0 : Int32)), (.ref a)])) rfl rfl (hb hby d9_11)
  have Fn3 : Fld Z h3 a "java/lang/String" "coder" "B" (.int (0 : Int32)) := F_coder_a.same W3
  have E_a : Exa Z h3 a "java/lang/String" := E_a.wr W3
  have F_value_a : Fld Z h3 a "java/lang/String" "value" "[B" (.ref t) := F_value_a.other W3 (Or.inr (slot_ne (Or.inr (hw _ (List.mem_of_getElem? (i := 67) rfl))) (Or.inr (hw _ (List.mem_of_getElem? (i := 69) rfl))) (by decide) (t := (.array .byte)) (t' := .byte) (by decide) (by decide)))
  have F_coder_a := Fn3
  have N3 := Fr.snoc X3 N2 g_a
  have O3 := O2.wr W3 g_a
  have KK3 : Keep h0 h3 [a] := KK2.wr W3 (Or.inl (List.mem_of_getElem? (i := 0) rfl))
  refine goS (n := 14) (Ls' := #[.val (.ref a), .val (.ref t), .val (.int (0 : Int32))]) (st' := []) st3 ?_
  exact goRetV X3 hx hlk Bd.returns (hb hby d9_14) (by decide) (by decide) (by rw [e3]; exact ⟨rfl, N3, KK3, F_value_a, F_coder_a⟩)
theorem d6_0 : decode jdk_42_method_139_code 0 = .ok (.getstatic 38, 3) := by decide +kernel
theorem d6_3 : decode jdk_42_method_139_code 3 = .ok (.ifCond .eq 23, 3) := by decide +kernel
theorem d6_6 : decode jdk_42_method_139_code 6 = .ok (.iload_n 0, 1) := by decide +kernel
theorem d6_7 : decode jdk_42_method_139_code 7 = .ok (.invokestatic 1015, 3) := by decide +kernel
theorem pd_1 : parseMethodDescriptor "(C)Z" = some ⟨[.char], some .boolean⟩ := by decide +kernel
theorem d6_10 : decode jdk_42_method_139_code 10 = .ok (.ifCond .eq 16, 3) := by decide +kernel
theorem d6_13 : decode jdk_42_method_139_code 13 = .ok (.new 10, 3) := by decide +kernel
theorem d6_16 : decode jdk_42_method_139_code 16 = .ok (.dup, 1) := by decide +kernel
theorem d6_17 : decode jdk_42_method_139_code 17 = .ok (.iload_n 0, 1) := by decide +kernel
theorem d6_18 : decode jdk_42_method_139_code 18 = .ok (.invokestatic 1018, 3) := by decide +kernel
theorem pd_2 : parseMethodDescriptor "(C)[B" = some ⟨[.char], some (.array .byte)⟩ := by decide +kernel
theorem d6_21 : decode jdk_42_method_139_code 21 = .ok (.iconst 0, 1) := by decide +kernel
theorem d6_22 : decode jdk_42_method_139_code 22 = .ok (.invokespecial 209, 3) := by decide +kernel
theorem pd_3 : parseMethodDescriptor "([BB)V" = some ⟨[(.array .byte), .byte], none⟩ := by decide +kernel
theorem d6_25 : decode jdk_42_method_139_code 25 = .ok (.areturn, 1) := by decide +kernel
theorem ef_valC (m : MethodId) (x : Int32) : entryFrame m #[(.int x)] 1 = mkF m 0 #[.val (.int x)] [] := by first | (simp [entryFrame, mkF, argsToLocals, Value.category]; done) | rfl
abbrev R_valC : Room := { frames := 2, cells := 2, slots := 5, locals := 27 }
def Q_valC (Z : State) (x : Int32) (cs : Int32) (h0 : Heap) (n0 : Nat) (v : Option Value) (h : Heap) (L : List Loc) : Prop := ∃ (a : Addr) (t : Addr) (k : ClassId), v = some (.ref a) ∧ Fr n0 L ∧ Keep h0 h [] ∧ n0 ≤ a ∧ h0.size ≤ a ∧ Exa Z h a "java/lang/String" ∧ Fld Z h a "java/lang/String" "value" "[B" (.ref t) ∧ Fld Z h a "java/lang/String" "coder" "B" (.int (0 : Int32)) ∧ n0 ≤ t ∧ Arv Z h t k .byte (1 : Int32) [(.int (nar .byte x.toInt8.toInt32))] (.int (0 : Int32))
set_option maxRecDepth 65536 in
set_option maxHeartbeats 40000000 in
theorem rm_valC (l : Launch) (Z : State) (a0 : Array Value) (hw : ∀ d ∈ tables_1, d.before a0 Z = true) (ws : List Jvm.Cond) (x : Int32) (cs : Int32) (h0 : Heap) (n0 : Nat) (O0 : Old Z n0 h0) (S_CS : Sta Z Z.heap "java/lang/String" "COMPACT_STRINGS" "Z" (.int cs)) (hcs : ¬ cs = (0 : Int32)) (hx255 : ¬ (255 : Int32) < x) :
    MetFree l (⟨"java/lang/String", "valueOf", "(C)Ljava/lang/String;"⟩ : MethodName) (head1 (Jvm.Cond.code (⟨"java/lang/String", "valueOf", "(C)Ljava/lang/String;"⟩ : MethodName) jdk_42_method_139_code 1 (some (.object "java/lang/String")) :: ws) R_valC) (fun as_ U => as_ = #[(.int x)] ∧ Z.Warmed39 U.vm ∧ U.heap = h0) (fun _ _ _ _ _ => True) (fun _ U o U' => ∃ v L, o = .returned v ∧ Q_valC Z x cs h0 n0 v U'.heap L ∧ FrameEnd U o U' L R_valC.cells R_valC.slots) := by
  refine MetFree.of_bodySF (plainFor_of_name pn_4) hisR ?_
  intro p e s m args below meth c s₁ Bd hml0 hP hK
  obtain ⟨rfl, hZ, hh⟩ := hP
  have hx := Bd.exec
  have hby := Bd.bytes
  have hml : c.maxLocals = 1 := hml0
  have hown : s.vm.findClass "java/lang/String" = some m.cls := findClass_of_methodNamed Bd.named
  have hnm := (name_of_methodNamed Bd.named Bd.method).1
  have hlk : meth.locks = false := BodyLoose.notSynchronized Bd
  have X0 : Stand p l e R_valC s m #[(.int x)] below meth c s₁ [] 0 0 := Stand.of_body Bd
  have e0 : s₁.heap = h0 := by rw [← hh, Bd.state]; rfl
  have N0 := Fr.nil n0
  refine enter (P := PQ s R_valC.cells R_valC.slots (Q_valC Z x cs h0 n0)) (ef_valC m x) ?_
  obtain ⟨T1, X1, e1, st1⟩ := getS2 X0 hx hZ hown (host := "") (Or.inl (hw _ (List.mem_of_getElem? (i := 50) rfl))) Via.refl e0 (S_CS.ext O0.2) (g := (mkF m 0 #[.val (.int x)] [])) rfl (hb hby d6_0)
  refine goS (n := 3) (Ls' := #[.val (.int x)]) (st' := [(.int cs)]) st1 ?_
  refine goS (n := 6) (Ls' := #[.val (.int x)]) (st' := []) (fun _ kz => XS.ifNo X1.here hx rfl (hb hby d6_3) rfl ((if0 _ _).trans (feq hcs).1) kz) ?_
  refine goS (n := 7) (Ls' := #[.val (.int x)]) (st' := [(.int x)]) (fun _ kz => XS.iloadN X1.here hx rfl (hb hby d6_6) rfl kz) ?_
  obtain ⟨_, _, ⟨T2, L2, k2, n2⟩, -, X2, ⟨Lc2, hQ2, l2, y2, z2⟩, st2⟩ := Jvm.LawKit.callS X1 hx (y := (⟨"java/lang/StringLatin1", "canEncode", "(C)Z"⟩ : MethodName)) hown (mvT hZ (hw _ (List.mem_of_getElem? (i := 51) rfl))) (mvT hZ (hw _ (List.mem_of_getElem? (i := 52) rfl))) (mvT hZ (hw _ (List.mem_of_getElem? (i := 53) rfl))) (mvT hZ (hw _ (List.mem_of_getElem? (i := 54) rfl))) (by decide) (backOf (W := 0) (rm_canEnc l Z a0 hw [] x h0 n0 O0 hx255) hZ (hw _ (List.mem_of_getElem? (i := 54) rfl)) (hw _ (List.mem_of_getElem? (i := 53) rfl)) (by decide) (by decide)) (g := (mkF m 7 #[.val (.int x)] [(.int x)])) rfl (by rw [hml]; rfl) (argsL := [(.int x)]) (rest := []) (lenOf pd_1 rfl) rfl (by show 2 * 0 + _ ≤ _; exact Nat.le_of_eq rfl) (hb hby d6_7) (fun _ _ => ⟨rfl, e1, (Nat.le_of_ble_eq_true rfl), (Nat.le_of_ble_eq_true rfl)⟩)
  dsimp only [Pt.U, Pt.locs, Pt.cells, Pt.slots] at X2 l2 y2 z2 st2 hQ2
  subst l2 y2 z2
  obtain ⟨rfl, N2q, e2⟩ := hQ2
  have N2 := Fr.app N0 N2q
  refine goS (n := 10) (Ls' := #[.val (.int x)]) (st' := [(.int (1 : Int32))]) st2 ?_
  refine goS (n := 13) (Ls' := #[.val (.int x)]) (st' := []) (fun _ kz => XS.ifNo X2.here hx rfl (hb hby d6_10) rfl (by decide) kz) ?_
  obtain ⟨T3, h3, X3, e3, E3, A3, D3, -, st3⟩ := newO X2 hx hZ hown (hw _ (List.mem_of_getElem? (i := 55) rfl)) (hw _ (List.mem_of_getElem? (i := 56) rfl)) (hw _ (List.mem_of_getElem? (i := 48) rfl)) e2 (g := (mkF m 13 #[.val (.int x)] [])) rfl (hb hby d6_13) (by decide) (by decide)
  obtain ⟨b3, g3⟩ : ∃ z, z = h0.size := ⟨_, rfl⟩
  rw [← g3] at A3 D3 st3
  have g_b3 : n0 ≤ b3 := Nat.le_trans (O0.1 ▸ O0.2.1) (Nat.le_of_eq g3.symm)
  have z_b3 : h0.size ≤ b3 := Nat.le_trans (Keep.refl h0 []).1 (Nat.le_of_eq g3.symm)
  have F_value_b3 : Fld Z h3 b3 "java/lang/String" "value" "[B" .null := D3 (Or.inr (hw _ (List.mem_of_getElem? (i := 67) rfl))) (ty := (.array .byte)) (by decide)
  have F_coder_b3 : Fld Z h3 b3 "java/lang/String" "coder" "B" (.int (0 : Int32)) := D3 (Or.inr (hw _ (List.mem_of_getElem? (i := 69) rfl))) (ty := .byte) (by decide)
  have E_b3 : Exa Z h3 b3 "java/lang/String" := A3
  have O3 := O0.ext E3
  have KK3 : Keep h0 h3 [] := (Keep.refl h0 []).ext E3
  refine goS (n := 16) (Ls' := #[.val (.int x)]) (st' := [(.ref b3)]) st3 ?_
  refine goS (n := 17) (Ls' := #[.val (.int x)]) (st' := [(.ref b3), (.ref b3)]) (fun _ kz => XS.dup X3.here hx rfl (hb hby d6_16) rfl rfl kz) ?_
  refine goS (n := 18) (Ls' := #[.val (.int x)]) (st' := [(.int x), (.ref b3), (.ref b3)]) (fun _ kz => XS.iloadN X3.here hx rfl (hb hby d6_17) rfl kz) ?_
  obtain ⟨_, _, ⟨T4, L4, k4, n4⟩, -, X4, ⟨Lc4, hQ4, l4, y4, z4⟩, st4⟩ := Jvm.LawKit.callS X3 hx (y := (⟨"java/lang/StringLatin1", "toBytes", "(C)[B"⟩ : MethodName)) hown (mvT hZ (hw _ (List.mem_of_getElem? (i := 57) rfl))) (mvT hZ (hw _ (List.mem_of_getElem? (i := 58) rfl))) (mvT hZ (hw _ (List.mem_of_getElem? (i := 53) rfl))) (mvT hZ (hw _ (List.mem_of_getElem? (i := 59) rfl))) (by decide) (backOf (W := 2) (rm_toB l Z a0 hw [] x h3 n0 O3) hZ (hw _ (List.mem_of_getElem? (i := 59) rfl)) (hw _ (List.mem_of_getElem? (i := 53) rfl)) (by decide) (by decide)) (g := (mkF m 18 #[.val (.int x)] [(.int x), (.ref b3), (.ref b3)])) rfl (by rw [hml]; rfl) (argsL := [(.int x)]) (rest := [(.ref b3), (.ref b3)]) (lenOf pd_2 rfl) rfl (by show 2 * 0 + _ ≤ _; exact Nat.le_of_eq rfl) (hb hby d6_18) (fun _ _ => ⟨rfl, e3, (Nat.le_of_ble_eq_true rfl), (Nat.le_of_ble_eq_true rfl)⟩)
  dsimp only [Pt.U, Pt.locs, Pt.cells, Pt.slots] at X4 l4 y4 z4 st4 hQ4
  subst l4 y4 z4
  obtain ⟨t4, kt4, rfl, N4q, K4, g_t4, zt4, V_t4⟩ := hQ4
  have ne_b3_t4 : b3 ≠ t4 := Nat.ne_of_lt (Nat.lt_of_lt_of_le E_b3.lt zt4)
  have N4 := Fr.app N2 N4q
  have e4 : T4.heap = T4.heap := rfl
  have O4 := O3.keep K4 all0
  have KK4 : Keep h0 T4.heap [] := KK3.trans K4 all0
  have F_value_b3 : Fld Z T4.heap b3 "java/lang/String" "value" "[B" .null := F_value_b3.keep K4 nin0
  have F_coder_b3 : Fld Z T4.heap b3 "java/lang/String" "coder" "B" (.int (0 : Int32)) := F_coder_b3.keep K4 nin0
  have E_b3 : Exa Z T4.heap b3 "java/lang/String" := E_b3.keep K4
  refine goS (n := 21) (Ls' := #[.val (.int x)]) (st' := [(.ref t4), (.ref b3), (.ref b3)]) st4 ?_
  refine goS (n := 22) (Ls' := #[.val (.int x)]) (st' := [(.int (0 : Int32)), (.ref t4), (.ref b3), (.ref b3)]) (fun _ kz => XS.iconst X4.here hx rfl (hb hby d6_21) kz) ?_
  obtain ⟨_, _, ⟨T5, L5, k5, n5⟩, -, X5, ⟨Lc5, hQ5, l5, y5, z5⟩, st5⟩ := X4.specialBack hx (y := (⟨"java/lang/String", "<init>", "([BB)V"⟩ : MethodName)) rfl hown (mvT hZ (hw _ (List.mem_of_getElem? (i := 61) rfl))) (mvT hZ (hw _ (List.mem_of_getElem? (i := 62) rfl))) (mvT hZ (hw _ (List.mem_of_getElem? (i := 64) rfl))) (by decide) (backOf (W := 1) (rm_strBB l Z a0 hw [] b3 t4 T4.heap n0 O4 E_b3 F_value_b3 F_coder_b3 g_b3) hZ (hw _ (List.mem_of_getElem? (i := 64) rfl)) (hw _ (List.mem_of_getElem? (i := 48) rfl)) (by decide) (by decide)) (g := (mkF m 22 #[.val (.int x)] [(.int (0 : Int32)), (.ref t4), (.ref b3), (.ref b3)])) rfl (by rw [hml]; rfl) (Steps.refl _) (a := b3) (argsL := [(.ref t4), (.int (0 : Int32))]) (rest := [(.ref b3)]) (lenOf pd_3 rfl) rfl (by show 2 * 0 + _ ≤ _; exact Nat.le_of_eq rfl) (hb hby d6_22) (fun _ _ => ⟨rfl, e4, (Nat.le_of_ble_eq_true rfl), (Nat.le_of_ble_eq_true rfl)⟩)
  dsimp only [Pt.U, Pt.locs, Pt.cells, Pt.slots] at X5 l5 y5 z5 st5 hQ5
  subst l5 y5 z5
  obtain ⟨rfl, N5q, K5, F_value_b3, F_coder_b3⟩ := hQ5
  have N5 := Fr.app N4 N5q
  have e5 : T5.heap = T5.heap := rfl
  have O5 := O4.keep K5 (allS g_b3 all0)
  have KK5 : Keep h0 T5.heap [] := KK4.trans K5 (allS (Or.inr z_b3) all0)
  have E_b3 : Exa Z T5.heap b3 "java/lang/String" := E_b3.keep K5
  have V_t4 : Arv Z T5.heap t4 kt4 .byte (1 : Int32) [(.int (nar .byte x.toInt8.toInt32))] (.int (0 : Int32)) := V_t4.keep K5 (ninS (Ne.symm ne_b3_t4) nin0)
  refine goT (n := 25) (Ls' := #[.val (.int x)]) (st' := [(.ref b3)]) st5 ?_
  exact goRetA X5 hx hlk Bd.returns rfl rfl (hb hby d6_25) (by decide) (by decide) (by rw [e5]; exact ⟨b3, t4, _, rfl, N5, KK5, g_b3, z_b3, E_b3, F_value_b3, F_coder_b3, g_t4, V_t4⟩)
theorem own_c255 (x : Int32) : ¬ (255 : Int32) < ((x &&& (255 : Int32)).toUInt32.toUInt16.toUInt32.toInt32) := by
  rw [i2c_mask, Int32.lt_iff_toInt_lt]
  have := c_and x 255 (by decide)
  show ¬ (255 : Int) < _
  have : (255 : Int32).toInt = 255 := rfl
  omega
theorem pd_4 : parseMethodDescriptor "(I)Lcom/example/drain_warden/drainwarden/model/SaverState$Reason;" = some ⟨[.int], some (.object "com/example/drain_warden/drainwarden/model/SaverState$Reason")⟩ := by decide +kernel
theorem pd_5 : parseMethodDescriptor "(ZLcom/example/drain_warden/drainwarden/model/SaverState$Reason;)V" = some ⟨[.boolean, (.object "com/example/drain_warden/drainwarden/model/SaverState$Reason")], none⟩ := by decide +kernel
theorem pd_6 : parseMethodDescriptor "(Ljava/lang/Object;)Z" = some ⟨[(.object "java/lang/Object")], some .boolean⟩ := by decide +kernel
theorem pd_7 : parseMethodDescriptor "(C)Ljava/lang/String;" = some ⟨[.char], some (.object "java/lang/String")⟩ := by decide +kernel
theorem ef_law (m : MethodId) (p1 : Int32) (p2 : Int32) (p3 : Int32) (p4 : Int32) (p5 : Int32) (p6 : Int32) : entryFrame m #[(.int p1), (.int p2), (.int p3), (.int p4), (.int p5), (.int p6)] maxLocals = mkF m 0 #[.val (.int p1), .val (.int p2), .val (.int p3), .val (.int p4), .val (.int p5), .val (.int p6), .unset, .unset, .unset, .unset, .unset, .unset, .unset, .unset] [] := by first | (simp [entryFrame, mkF, argsToLocals, Value.category, maxLocals]; done) | rfl
def Q_law (Z : State) (p1 : Int32) (p2 : Int32) (p3 : Int32) (p4 : Int32) (p5 : Int32) (p6 : Int32) (W : Nat → Addr) (cs : Int32) (h0 : Heap) (n0 : Nat) (v : Option Value) (h : Heap) (L : List Loc) : Prop := v = some (.int 1) ∧ Fr n0 L
set_option maxRecDepth 65536 in
set_option maxHeartbeats 40000000 in
theorem rm_law (l : Launch) (Z : State) (a0 : Array Value) (hw : ∀ d ∈ tables_1, d.before a0 Z = true) (ws : List Jvm.Cond) (p1 : Int32) (p2 : Int32) (p3 : Int32) (p4 : Int32) (p5 : Int32) (p6 : Int32) (W : Nat → Addr) (cs : Int32) (h0 : Heap) (n0 : Nat) (O0 : Old Z n0 h0) (S_NONE : Sta Z Z.heap "com/example/drain_warden/drainwarden/model/SaverState$Reason" "NONE" "Lcom/example/drain_warden/drainwarden/model/SaverState$Reason;" (.ref (W 0))) (S_MANUAL_ON : Sta Z Z.heap "com/example/drain_warden/drainwarden/model/SaverState$Reason" "MANUAL_ON" "Lcom/example/drain_warden/drainwarden/model/SaverState$Reason;" (.ref (W 1))) (S_MANUAL_OFF : Sta Z Z.heap "com/example/drain_warden/drainwarden/model/SaverState$Reason" "MANUAL_OFF" "Lcom/example/drain_warden/drainwarden/model/SaverState$Reason;" (.ref (W 2))) (S_AUTO_ON : Sta Z Z.heap "com/example/drain_warden/drainwarden/model/SaverState$Reason" "AUTO_ON" "Lcom/example/drain_warden/drainwarden/model/SaverState$Reason;" (.ref (W 3))) (S_POWER_CONNECTED : Sta Z Z.heap "com/example/drain_warden/drainwarden/model/SaverState$Reason" "POWER_CONNECTED" "Lcom/example/drain_warden/drainwarden/model/SaverState$Reason;" (.ref (W 4))) (S_STICKY_ON : Sta Z Z.heap "com/example/drain_warden/drainwarden/model/SaverState$Reason" "STICKY_ON" "Lcom/example/drain_warden/drainwarden/model/SaverState$Reason;" (.ref (W 5))) (S_WRITE_FAILED : Sta Z Z.heap "com/example/drain_warden/drainwarden/model/SaverState$Reason" "WRITE_FAILED" "Lcom/example/drain_warden/drainwarden/model/SaverState$Reason;" (.ref (W 6))) (EX : ∀ n, n < 7 → Exa Z Z.heap (W n) "com/example/drain_warden/drainwarden/model/SaverState$Reason") (INJ : ∀ i j, i < 7 → j < 7 → W i = W j → i = j) (S_CS : Sta Z Z.heap "java/lang/String" "COMPACT_STRINGS" "Z" (.int cs)) (hcs : ¬ cs = (0 : Int32)) :
    MetFree l x (head1 (Jvm.Cond.code x code maxLocals ret :: ws) room_1) (fun as_ U => as_ = #[(.int p1), (.int p2), (.int p3), (.int p4), (.int p5), (.int p6)] ∧ Z.Warmed39 U.vm ∧ U.heap = h0) (fun _ _ _ _ _ => True) (fun _ U o U' => ∃ v L, o = .returned v ∧ Q_law Z p1 p2 p3 p4 p5 p6 W cs h0 n0 v U'.heap L ∧ FrameEnd U o U' L room_1.cells room_1.slots) := by
  refine MetFree.of_bodySF (plainFor_of_name pn_1) hisR ?_
  intro p e s m args below meth c s₁ Bd hml0 hP hK
  obtain ⟨rfl, hZ, hh⟩ := hP
  have hx := Bd.exec
  have hby := Bd.bytes
  have hml : c.maxLocals = 14 := hml0
  have hown : s.vm.findClass "com/example/drain_warden/drainwarden/model/SaverStateEqualsPinLaw" = some m.cls := findClass_of_methodNamed Bd.named
  have hnm := (name_of_methodNamed Bd.named Bd.method).1
  have hlk : meth.locks = false := BodyLoose.notSynchronized Bd
  have X0 : Stand p l e room_1 s m #[(.int p1), (.int p2), (.int p3), (.int p4), (.int p5), (.int p6)] below meth c s₁ [] 0 0 := Stand.of_body Bd
  have e0 : s₁.heap = h0 := by rw [← hh, Bd.state]; rfl
  have N0 := Fr.nil n0
  refine enter (P := PQ s room_1.cells room_1.slots (Q_law Z p1 p2 p3 p4 p5 p6 W cs h0 n0)) (ef_law m p1 p2 p3 p4 p5 p6) ?_
  refine goS (n := 1) (Ls' := #[.val (.int p1), .val (.int p2), .val (.int p3), .val (.int p4), .val (.int p5), .val (.int p6), .unset, .unset, .unset, .unset, .unset, .unset, .unset, .unset]) (st' := [(.int p1)]) (fun _ kz => XS.iloadN X0.here hx rfl (hb hby at_0) rfl kz) ?_
  refine goS (n := 2) (Ls' := #[.val (.int p1), .val (.int p2), .val (.int p3), .val (.int p4), .val (.int p5), .val (.int p6), .unset, .unset, .unset, .unset, .unset, .unset, .unset, .unset]) (st' := [(.int (1 : Int32)), (.int p1)]) (fun _ kz => XS.iconst X0.here hx rfl (hb hby at_1) kz) ?_
  refine goS (n := 3) (Ls' := #[.val (.int p1), .val (.int p2), .val (.int p3), .val (.int p4), .val (.int p5), .val (.int p6), .unset, .unset, .unset, .unset, .unset, .unset, .unset, .unset]) (st' := [(.int (p1 &&& (1 : Int32)))]) (fun _ kz => XS.iand X0.here hx rfl (hb hby at_2) rfl kz) ?_
  have jn1 : ∀ r1 : Int32, r1 = bi (¬ ((p1 &&& (1 : Int32)) = (0 : Int32))) → Go p e below (PQ s room_1.cells room_1.slots (Q_law Z p1 p2 p3 p4 p5 p6 W cs h0 n0)) s₁ (mkF m 11 #[.val (.int p1), .val (.int p2), .val (.int p3), .val (.int p4), .val (.int p5), .val (.int p6), .unset, .unset, .unset, .unset, .unset, .unset, .unset, .unset] [(.int r1)]) := by
    intro r1 h_r1
    refine goS (n := 13) (Ls' := #[.val (.int p1), .val (.int p2), .val (.int p3), .val (.int p4), .val (.int p5), .val (.int p6), .val (.int r1), .unset, .unset, .unset, .unset, .unset, .unset, .unset]) (st' := []) (fun _ kz => XS.istore X0.here hx rfl (hb hby at_11) rfl (l' := #[.val (.int p1), .val (.int p2), .val (.int p3), .val (.int p4), .val (.int p5), .val (.int p6), .val (.int r1), .unset, .unset, .unset, .unset, .unset, .unset, .unset]) rfl kz) ?_
    refine goS (n := 14) (Ls' := #[.val (.int p1), .val (.int p2), .val (.int p3), .val (.int p4), .val (.int p5), .val (.int p6), .val (.int r1), .unset, .unset, .unset, .unset, .unset, .unset, .unset]) (st' := [(.int p3)]) (fun _ kz => XS.iloadN X0.here hx rfl (hb hby at_13) rfl kz) ?_
    refine goS (n := 15) (Ls' := #[.val (.int p1), .val (.int p2), .val (.int p3), .val (.int p4), .val (.int p5), .val (.int p6), .val (.int r1), .unset, .unset, .unset, .unset, .unset, .unset, .unset]) (st' := [(.int (1 : Int32)), (.int p3)]) (fun _ kz => XS.iconst X0.here hx rfl (hb hby at_14) kz) ?_
    refine goS (n := 16) (Ls' := #[.val (.int p1), .val (.int p2), .val (.int p3), .val (.int p4), .val (.int p5), .val (.int p6), .val (.int r1), .unset, .unset, .unset, .unset, .unset, .unset, .unset]) (st' := [(.int (p3 &&& (1 : Int32)))]) (fun _ kz => XS.iand X0.here hx rfl (hb hby at_15) rfl kz) ?_
    have jn2 : ∀ r2 : Int32, r2 = bi (¬ ((p3 &&& (1 : Int32)) = (0 : Int32))) → Go p e below (PQ s room_1.cells room_1.slots (Q_law Z p1 p2 p3 p4 p5 p6 W cs h0 n0)) s₁ (mkF m 24 #[.val (.int p1), .val (.int p2), .val (.int p3), .val (.int p4), .val (.int p5), .val (.int p6), .val (.int r1), .unset, .unset, .unset, .unset, .unset, .unset, .unset] [(.int r2)]) := by
      intro r2 h_r2
      refine goS (n := 26) (Ls' := #[.val (.int p1), .val (.int p2), .val (.int p3), .val (.int p4), .val (.int p5), .val (.int p6), .val (.int r1), .val (.int r2), .unset, .unset, .unset, .unset, .unset, .unset]) (st' := []) (fun _ kz => XS.istore X0.here hx rfl (hb hby at_24) rfl (l' := #[.val (.int p1), .val (.int p2), .val (.int p3), .val (.int p4), .val (.int p5), .val (.int p6), .val (.int r1), .val (.int r2), .unset, .unset, .unset, .unset, .unset, .unset]) rfl kz) ?_
      refine goS (n := 27) (Ls' := #[.val (.int p1), .val (.int p2), .val (.int p3), .val (.int p4), .val (.int p5), .val (.int p6), .val (.int r1), .val (.int r2), .unset, .unset, .unset, .unset, .unset, .unset]) (st' := [(.int p2)]) (fun _ kz => XS.iloadN X0.here hx rfl (hb hby at_26) rfl kz) ?_
      refine goS (n := 29) (Ls' := #[.val (.int p1), .val (.int p2), .val (.int p3), .val (.int p4), .val (.int p5), .val (.int p6), .val (.int r1), .val (.int r2), .unset, .unset, .unset, .unset, .unset, .unset]) (st' := [(.int (2147483647 : Int32)), (.int p2)]) (X0.ldcInt hx hown (mvT hZ (hw _ (List.mem_of_getElem? (i := 0) rfl))) (g := (mkF m 27 #[.val (.int p1), .val (.int p2), .val (.int p3), .val (.int p4), .val (.int p5), .val (.int p6), .val (.int r1), .val (.int r2), .unset, .unset, .unset, .unset, .unset, .unset] [(.int p2)])) rfl (hb hby at_27)) ?_
      refine goS (n := 30) (Ls' := #[.val (.int p1), .val (.int p2), .val (.int p3), .val (.int p4), .val (.int p5), .val (.int p6), .val (.int r1), .val (.int r2), .unset, .unset, .unset, .unset, .unset, .unset]) (st' := [(.int (p2 &&& (2147483647 : Int32)))]) (fun _ kz => XS.iand X0.here hx rfl (hb hby at_29) rfl kz) ?_
      refine goS (n := 32) (Ls' := #[.val (.int p1), .val (.int p2), .val (.int p3), .val (.int p4), .val (.int p5), .val (.int p6), .val (.int r1), .val (.int r2), .unset, .unset, .unset, .unset, .unset, .unset]) (st' := [(.int (7 : Int32)), (.int (p2 &&& (2147483647 : Int32)))]) (fun _ kz => XS.bipush X0.here hx rfl (hb hby at_30) kz) ?_
      refine goS (n := 33) (Ls' := #[.val (.int p1), .val (.int p2), .val (.int p3), .val (.int p4), .val (.int p5), .val (.int p6), .val (.int r1), .val (.int r2), .unset, .unset, .unset, .unset, .unset, .unset]) (st' := [(.int ((p2 &&& (2147483647 : Int32)) % (7 : Int32)))]) (fun _ kz => iremM X0 hx rfl (hb hby at_32) rfl (by decide) kz) ?_
      refine goS (n := 35) (Ls' := #[.val (.int p1), .val (.int p2), .val (.int p3), .val (.int p4), .val (.int p5), .val (.int p6), .val (.int r1), .val (.int r2), .val (.int ((p2 &&& (2147483647 : Int32)) % (7 : Int32))), .unset, .unset, .unset, .unset, .unset]) (st' := []) (fun _ kz => XS.istore X0.here hx rfl (hb hby at_33) rfl (l' := #[.val (.int p1), .val (.int p2), .val (.int p3), .val (.int p4), .val (.int p5), .val (.int p6), .val (.int r1), .val (.int r2), .val (.int ((p2 &&& (2147483647 : Int32)) % (7 : Int32))), .unset, .unset, .unset, .unset, .unset]) rfl kz) ?_
      refine goS (n := 36) (Ls' := #[.val (.int p1), .val (.int p2), .val (.int p3), .val (.int p4), .val (.int p5), .val (.int p6), .val (.int r1), .val (.int r2), .val (.int ((p2 &&& (2147483647 : Int32)) % (7 : Int32))), .unset, .unset, .unset, .unset, .unset]) (st' := [(.int p4)]) (fun _ kz => XS.iloadN X0.here hx rfl (hb hby at_35) rfl kz) ?_
      refine goS (n := 38) (Ls' := #[.val (.int p1), .val (.int p2), .val (.int p3), .val (.int p4), .val (.int p5), .val (.int p6), .val (.int r1), .val (.int r2), .val (.int ((p2 &&& (2147483647 : Int32)) % (7 : Int32))), .unset, .unset, .unset, .unset, .unset]) (st' := [(.int (2147483647 : Int32)), (.int p4)]) (X0.ldcInt hx hown (mvT hZ (hw _ (List.mem_of_getElem? (i := 0) rfl))) (g := (mkF m 36 #[.val (.int p1), .val (.int p2), .val (.int p3), .val (.int p4), .val (.int p5), .val (.int p6), .val (.int r1), .val (.int r2), .val (.int ((p2 &&& (2147483647 : Int32)) % (7 : Int32))), .unset, .unset, .unset, .unset, .unset] [(.int p4)])) rfl (hb hby at_36)) ?_
      refine goS (n := 39) (Ls' := #[.val (.int p1), .val (.int p2), .val (.int p3), .val (.int p4), .val (.int p5), .val (.int p6), .val (.int r1), .val (.int r2), .val (.int ((p2 &&& (2147483647 : Int32)) % (7 : Int32))), .unset, .unset, .unset, .unset, .unset]) (st' := [(.int (p4 &&& (2147483647 : Int32)))]) (fun _ kz => XS.iand X0.here hx rfl (hb hby at_38) rfl kz) ?_
      refine goS (n := 41) (Ls' := #[.val (.int p1), .val (.int p2), .val (.int p3), .val (.int p4), .val (.int p5), .val (.int p6), .val (.int r1), .val (.int r2), .val (.int ((p2 &&& (2147483647 : Int32)) % (7 : Int32))), .unset, .unset, .unset, .unset, .unset]) (st' := [(.int (7 : Int32)), (.int (p4 &&& (2147483647 : Int32)))]) (fun _ kz => XS.bipush X0.here hx rfl (hb hby at_39) kz) ?_
      refine goS (n := 42) (Ls' := #[.val (.int p1), .val (.int p2), .val (.int p3), .val (.int p4), .val (.int p5), .val (.int p6), .val (.int r1), .val (.int r2), .val (.int ((p2 &&& (2147483647 : Int32)) % (7 : Int32))), .unset, .unset, .unset, .unset, .unset]) (st' := [(.int ((p4 &&& (2147483647 : Int32)) % (7 : Int32)))]) (fun _ kz => iremM X0 hx rfl (hb hby at_41) rfl (by decide) kz) ?_
      refine goS (n := 44) (Ls' := #[.val (.int p1), .val (.int p2), .val (.int p3), .val (.int p4), .val (.int p5), .val (.int p6), .val (.int r1), .val (.int r2), .val (.int ((p2 &&& (2147483647 : Int32)) % (7 : Int32))), .val (.int ((p4 &&& (2147483647 : Int32)) % (7 : Int32))), .unset, .unset, .unset, .unset]) (st' := []) (fun _ kz => XS.istore X0.here hx rfl (hb hby at_42) rfl (l' := #[.val (.int p1), .val (.int p2), .val (.int p3), .val (.int p4), .val (.int p5), .val (.int p6), .val (.int r1), .val (.int r2), .val (.int ((p2 &&& (2147483647 : Int32)) % (7 : Int32))), .val (.int ((p4 &&& (2147483647 : Int32)) % (7 : Int32))), .unset, .unset, .unset, .unset]) rfl kz) ?_
      obtain ⟨i, hi⟩ : ∃ i : Int32, i = ((p2 &&& (2147483647 : Int32)) % (7 : Int32)) := ⟨_, rfl⟩
      rw [← hi]
      obtain ⟨n, hn, hti, hki, hnegi⟩ := idx (i := i) (n := 7) (by rw [hi]; exact modk p2 7 7 (by decide) (by decide))
      obtain ⟨j, hj⟩ : ∃ i : Int32, i = ((p4 &&& (2147483647 : Int32)) % (7 : Int32)) := ⟨_, rfl⟩
      rw [← hj]
      obtain ⟨k, hk, htj, hkj, hnegj⟩ := idx (i := j) (n := 7) (by rw [hj]; exact modk p4 7 7 (by decide) (by decide))
      have hij : W n = W k ↔ i = j := ⟨fun q => (ieq hti htj).mpr (INJ n k hn hk q), fun q => by rw [(ieq hti htj).mp q]⟩
      obtain ⟨T3, h3, X3, e3, E3, A3, D3, -, st3⟩ := newO X0 hx hZ hown (hw _ (List.mem_of_getElem? (i := 1) rfl)) (hw _ (List.mem_of_getElem? (i := 2) rfl)) (hw _ (List.mem_of_getElem? (i := 3) rfl)) e0 (g := (mkF m 44 #[.val (.int p1), .val (.int p2), .val (.int p3), .val (.int p4), .val (.int p5), .val (.int p6), .val (.int r1), .val (.int r2), .val (.int i), .val (.int j), .unset, .unset, .unset, .unset] [])) rfl (hb hby at_44) (by decide) (by decide)
      obtain ⟨b3, g3⟩ : ∃ z, z = h0.size := ⟨_, rfl⟩
      rw [← g3] at A3 D3 st3
      have g_b3 : n0 ≤ b3 := Nat.le_trans (O0.1 ▸ O0.2.1) (Nat.le_of_eq g3.symm)
      have F_on_b3 : Fld Z h3 b3 "com/example/drain_warden/drainwarden/model/SaverState" "on" "Z" (.int (0 : Int32)) := D3 (Or.inr (hw _ (List.mem_of_getElem? (i := 23) rfl))) (ty := .boolean) (by decide)
      have F_reason_b3 : Fld Z h3 b3 "com/example/drain_warden/drainwarden/model/SaverState" "reason" "Lcom/example/drain_warden/drainwarden/model/SaverState$Reason;" .null := D3 (Or.inr (hw _ (List.mem_of_getElem? (i := 25) rfl))) (ty := (.object "com/example/drain_warden/drainwarden/model/SaverState$Reason")) (by decide)
      have E_b3 : Exa Z h3 b3 "com/example/drain_warden/drainwarden/model/SaverState" := A3
      have O3 := O0.ext E3
      refine goS (n := 47) (Ls' := #[.val (.int p1), .val (.int p2), .val (.int p3), .val (.int p4), .val (.int p5), .val (.int p6), .val (.int r1), .val (.int r2), .val (.int i), .val (.int j), .unset, .unset, .unset, .unset]) (st' := [(.ref b3)]) st3 ?_
      refine goS (n := 48) (Ls' := #[.val (.int p1), .val (.int p2), .val (.int p3), .val (.int p4), .val (.int p5), .val (.int p6), .val (.int r1), .val (.int r2), .val (.int i), .val (.int j), .unset, .unset, .unset, .unset]) (st' := [(.ref b3), (.ref b3)]) (fun _ kz => XS.dup X3.here hx rfl (hb hby at_47) rfl rfl kz) ?_
      refine goS (n := 50) (Ls' := #[.val (.int p1), .val (.int p2), .val (.int p3), .val (.int p4), .val (.int p5), .val (.int p6), .val (.int r1), .val (.int r2), .val (.int i), .val (.int j), .unset, .unset, .unset, .unset]) (st' := [(.int r1), (.ref b3), (.ref b3)]) (fun _ kz => XS.iload X3.here hx rfl (hb hby at_48) rfl kz) ?_
      refine goS (n := 52) (Ls' := #[.val (.int p1), .val (.int p2), .val (.int p3), .val (.int p4), .val (.int p5), .val (.int p6), .val (.int r1), .val (.int r2), .val (.int i), .val (.int j), .unset, .unset, .unset, .unset]) (st' := [(.int i), (.int r1), (.ref b3), (.ref b3)]) (fun _ kz => XS.iload X3.here hx rfl (hb hby at_50) rfl kz) ?_
      obtain ⟨_, _, ⟨T4, L4, k4, n4⟩, -, X4, ⟨Lc4, hQ4, l4, y4, z4⟩, st4⟩ := Jvm.LawKit.callS X3 hx (y := (⟨"com/example/drain_warden/drainwarden/model/SaverStateEqualsPinLaw", "reason", "(I)Lcom/example/drain_warden/drainwarden/model/SaverState$Reason;"⟩ : MethodName)) hown (mvT hZ (hw _ (List.mem_of_getElem? (i := 4) rfl))) (mvT hZ (hw _ (List.mem_of_getElem? (i := 5) rfl))) (mvT hZ (hw _ (List.mem_of_getElem? (i := 6) rfl))) (mvT hZ (hw _ (List.mem_of_getElem? (i := 7) rfl))) (by decide) (backOf (W := 3) (rm_reason l Z a0 hw [] i n W h3 n0 O3 S_NONE S_MANUAL_ON S_MANUAL_OFF S_AUTO_ON S_POWER_CONNECTED S_STICKY_ON S_WRITE_FAILED hti hn) hZ (hw _ (List.mem_of_getElem? (i := 7) rfl)) (hw _ (List.mem_of_getElem? (i := 6) rfl)) (by decide) (by decide)) (g := (mkF m 52 #[.val (.int p1), .val (.int p2), .val (.int p3), .val (.int p4), .val (.int p5), .val (.int p6), .val (.int r1), .val (.int r2), .val (.int i), .val (.int j), .unset, .unset, .unset, .unset] [(.int i), (.int r1), (.ref b3), (.ref b3)])) rfl (by rw [hml]; rfl) (argsL := [(.int i)]) (rest := [(.int r1), (.ref b3), (.ref b3)]) (lenOf pd_4 rfl) rfl (by show 2 * 0 + _ ≤ _; exact Nat.le_of_eq rfl) (hb hby at_52) (fun _ _ => ⟨rfl, e3, (Nat.le_of_ble_eq_true rfl), (Nat.le_of_ble_eq_true rfl)⟩)
      dsimp only [Pt.U, Pt.locs, Pt.cells, Pt.slots] at X4 l4 y4 z4 st4 hQ4
      subst l4 y4 z4
      obtain ⟨rfl, N4q, e4⟩ := hQ4
      have N4 := Fr.app N0 N4q
      refine goS (n := 55) (Ls' := #[.val (.int p1), .val (.int p2), .val (.int p3), .val (.int p4), .val (.int p5), .val (.int p6), .val (.int r1), .val (.int r2), .val (.int i), .val (.int j), .unset, .unset, .unset, .unset]) (st' := [(.ref (W n)), (.int r1), (.ref b3), (.ref b3)]) st4 ?_
      obtain ⟨_, _, ⟨T5, L5, k5, n5⟩, -, X5, ⟨Lc5, hQ5, l5, y5, z5⟩, st5⟩ := X4.specialBack hx (y := (⟨"com/example/drain_warden/drainwarden/model/SaverState", "<init>", "(ZLcom/example/drain_warden/drainwarden/model/SaverState$Reason;)V"⟩ : MethodName)) rfl hown (mvT hZ (hw _ (List.mem_of_getElem? (i := 11) rfl))) (mvT hZ (hw _ (List.mem_of_getElem? (i := 12) rfl))) (mvT hZ (hw _ (List.mem_of_getElem? (i := 13) rfl))) (by decide) (backOf (W := 1) (rm_init l Z a0 hw [] b3 r1 (W n) h3 n0 O3 (by rw [h_r1]; exact bi01 _) E_b3 F_on_b3 F_reason_b3 g_b3) hZ (hw _ (List.mem_of_getElem? (i := 13) rfl)) (hw _ (List.mem_of_getElem? (i := 3) rfl)) (by decide) (by decide)) (g := (mkF m 55 #[.val (.int p1), .val (.int p2), .val (.int p3), .val (.int p4), .val (.int p5), .val (.int p6), .val (.int r1), .val (.int r2), .val (.int i), .val (.int j), .unset, .unset, .unset, .unset] [(.ref (W n)), (.int r1), (.ref b3), (.ref b3)])) rfl (by rw [hml]; rfl) (Steps.refl _) (a := b3) (argsL := [(.int r1), (.ref (W n))]) (rest := [(.ref b3)]) (lenOf pd_5 rfl) rfl (by show 2 * 0 + _ ≤ _; exact Nat.le_of_eq rfl) (hb hby at_55) (fun _ _ => ⟨rfl, e4, (Nat.le_of_ble_eq_true rfl), (Nat.le_of_ble_eq_true rfl)⟩)
      dsimp only [Pt.U, Pt.locs, Pt.cells, Pt.slots] at X5 l5 y5 z5 st5 hQ5
      subst l5 y5 z5
      obtain ⟨rfl, N5q, K5, F_on_b3, F_reason_b3⟩ := hQ5
      have N5 := Fr.app N4 N5q
      have e5 : T5.heap = T5.heap := rfl
      have O5 := O3.keep K5 (allS g_b3 all0)
      have E_b3 : Exa Z T5.heap b3 "com/example/drain_warden/drainwarden/model/SaverState" := E_b3.keep K5
      refine goT (n := 58) (Ls' := #[.val (.int p1), .val (.int p2), .val (.int p3), .val (.int p4), .val (.int p5), .val (.int p6), .val (.int r1), .val (.int r2), .val (.int i), .val (.int j), .unset, .unset, .unset, .unset]) (st' := [(.ref b3)]) st5 ?_
      refine goS (n := 60) (Ls' := #[.val (.int p1), .val (.int p2), .val (.int p3), .val (.int p4), .val (.int p5), .val (.int p6), .val (.int r1), .val (.int r2), .val (.int i), .val (.int j), .val (.ref b3), .unset, .unset, .unset]) (st' := []) (fun _ kz => XS.astore X5.here hx rfl (hb hby at_58) rfl rfl (l' := #[.val (.int p1), .val (.int p2), .val (.int p3), .val (.int p4), .val (.int p5), .val (.int p6), .val (.int r1), .val (.int r2), .val (.int i), .val (.int j), .val (.ref b3), .unset, .unset, .unset]) rfl kz) ?_
      obtain ⟨T6, h6, X6, e6, E6, A6, D6, -, st6⟩ := newO X5 hx hZ hown (hw _ (List.mem_of_getElem? (i := 1) rfl)) (hw _ (List.mem_of_getElem? (i := 2) rfl)) (hw _ (List.mem_of_getElem? (i := 3) rfl)) e5 (g := (mkF m 60 #[.val (.int p1), .val (.int p2), .val (.int p3), .val (.int p4), .val (.int p5), .val (.int p6), .val (.int r1), .val (.int r2), .val (.int i), .val (.int j), .val (.ref b3), .unset, .unset, .unset] [])) rfl (hb hby at_60) (by decide) (by decide)
      obtain ⟨b6, g6⟩ : ∃ z, z = T5.heap.size := ⟨_, rfl⟩
      rw [← g6] at A6 D6 st6
      have g_b6 : n0 ≤ b6 := Nat.le_trans (O5.1 ▸ O5.2.1) (Nat.le_of_eq g6.symm)
      have ne_b3_b6 : b3 ≠ b6 := Nat.ne_of_lt (Nat.lt_of_lt_of_le E_b3.lt (Nat.le_of_eq g6.symm))
      have E_b3 : Exa Z h6 b3 "com/example/drain_warden/drainwarden/model/SaverState" := E_b3.ext E6
      have F_on_b3 : Fld Z h6 b3 "com/example/drain_warden/drainwarden/model/SaverState" "on" "Z" (.int r1) := F_on_b3.ext E6
      have F_reason_b3 : Fld Z h6 b3 "com/example/drain_warden/drainwarden/model/SaverState" "reason" "Lcom/example/drain_warden/drainwarden/model/SaverState$Reason;" (.ref (W n)) := F_reason_b3.ext E6
      have F_on_b6 : Fld Z h6 b6 "com/example/drain_warden/drainwarden/model/SaverState" "on" "Z" (.int (0 : Int32)) := D6 (Or.inr (hw _ (List.mem_of_getElem? (i := 23) rfl))) (ty := .boolean) (by decide)
      have F_reason_b6 : Fld Z h6 b6 "com/example/drain_warden/drainwarden/model/SaverState" "reason" "Lcom/example/drain_warden/drainwarden/model/SaverState$Reason;" .null := D6 (Or.inr (hw _ (List.mem_of_getElem? (i := 25) rfl))) (ty := (.object "com/example/drain_warden/drainwarden/model/SaverState$Reason")) (by decide)
      have E_b6 : Exa Z h6 b6 "com/example/drain_warden/drainwarden/model/SaverState" := A6
      have O6 := O5.ext E6
      refine goS (n := 63) (Ls' := #[.val (.int p1), .val (.int p2), .val (.int p3), .val (.int p4), .val (.int p5), .val (.int p6), .val (.int r1), .val (.int r2), .val (.int i), .val (.int j), .val (.ref b3), .unset, .unset, .unset]) (st' := [(.ref b6)]) st6 ?_
      refine goS (n := 64) (Ls' := #[.val (.int p1), .val (.int p2), .val (.int p3), .val (.int p4), .val (.int p5), .val (.int p6), .val (.int r1), .val (.int r2), .val (.int i), .val (.int j), .val (.ref b3), .unset, .unset, .unset]) (st' := [(.ref b6), (.ref b6)]) (fun _ kz => XS.dup X6.here hx rfl (hb hby at_63) rfl rfl kz) ?_
      refine goS (n := 66) (Ls' := #[.val (.int p1), .val (.int p2), .val (.int p3), .val (.int p4), .val (.int p5), .val (.int p6), .val (.int r1), .val (.int r2), .val (.int i), .val (.int j), .val (.ref b3), .unset, .unset, .unset]) (st' := [(.int r2), (.ref b6), (.ref b6)]) (fun _ kz => XS.iload X6.here hx rfl (hb hby at_64) rfl kz) ?_
      refine goS (n := 68) (Ls' := #[.val (.int p1), .val (.int p2), .val (.int p3), .val (.int p4), .val (.int p5), .val (.int p6), .val (.int r1), .val (.int r2), .val (.int i), .val (.int j), .val (.ref b3), .unset, .unset, .unset]) (st' := [(.int j), (.int r2), (.ref b6), (.ref b6)]) (fun _ kz => XS.iload X6.here hx rfl (hb hby at_66) rfl kz) ?_
      obtain ⟨_, _, ⟨T7, L7, k7, n7⟩, -, X7, ⟨Lc7, hQ7, l7, y7, z7⟩, st7⟩ := Jvm.LawKit.callS X6 hx (y := (⟨"com/example/drain_warden/drainwarden/model/SaverStateEqualsPinLaw", "reason", "(I)Lcom/example/drain_warden/drainwarden/model/SaverState$Reason;"⟩ : MethodName)) hown (mvT hZ (hw _ (List.mem_of_getElem? (i := 4) rfl))) (mvT hZ (hw _ (List.mem_of_getElem? (i := 5) rfl))) (mvT hZ (hw _ (List.mem_of_getElem? (i := 6) rfl))) (mvT hZ (hw _ (List.mem_of_getElem? (i := 7) rfl))) (by decide) (backOf (W := 3) (rm_reason l Z a0 hw [] j k W h6 n0 O6 S_NONE S_MANUAL_ON S_MANUAL_OFF S_AUTO_ON S_POWER_CONNECTED S_STICKY_ON S_WRITE_FAILED htj hk) hZ (hw _ (List.mem_of_getElem? (i := 7) rfl)) (hw _ (List.mem_of_getElem? (i := 6) rfl)) (by decide) (by decide)) (g := (mkF m 68 #[.val (.int p1), .val (.int p2), .val (.int p3), .val (.int p4), .val (.int p5), .val (.int p6), .val (.int r1), .val (.int r2), .val (.int i), .val (.int j), .val (.ref b3), .unset, .unset, .unset] [(.int j), (.int r2), (.ref b6), (.ref b6)])) rfl (by rw [hml]; rfl) (argsL := [(.int j)]) (rest := [(.int r2), (.ref b6), (.ref b6)]) (lenOf pd_4 rfl) rfl (by show 2 * 0 + _ ≤ _; exact Nat.le_of_eq rfl) (hb hby at_68) (fun _ _ => ⟨rfl, e6, (Nat.le_of_ble_eq_true rfl), (Nat.le_of_ble_eq_true rfl)⟩)
      dsimp only [Pt.U, Pt.locs, Pt.cells, Pt.slots] at X7 l7 y7 z7 st7 hQ7
      subst l7 y7 z7
      obtain ⟨rfl, N7q, e7⟩ := hQ7
      have N7 := Fr.app N5 N7q
      refine goS (n := 71) (Ls' := #[.val (.int p1), .val (.int p2), .val (.int p3), .val (.int p4), .val (.int p5), .val (.int p6), .val (.int r1), .val (.int r2), .val (.int i), .val (.int j), .val (.ref b3), .unset, .unset, .unset]) (st' := [(.ref (W k)), (.int r2), (.ref b6), (.ref b6)]) st7 ?_
      obtain ⟨_, _, ⟨T8, L8, k8, n8⟩, -, X8, ⟨Lc8, hQ8, l8, y8, z8⟩, st8⟩ := X7.specialBack hx (y := (⟨"com/example/drain_warden/drainwarden/model/SaverState", "<init>", "(ZLcom/example/drain_warden/drainwarden/model/SaverState$Reason;)V"⟩ : MethodName)) rfl hown (mvT hZ (hw _ (List.mem_of_getElem? (i := 11) rfl))) (mvT hZ (hw _ (List.mem_of_getElem? (i := 12) rfl))) (mvT hZ (hw _ (List.mem_of_getElem? (i := 13) rfl))) (by decide) (backOf (W := 1) (rm_init l Z a0 hw [] b6 r2 (W k) h6 n0 O6 (by rw [h_r2]; exact bi01 _) E_b6 F_on_b6 F_reason_b6 g_b6) hZ (hw _ (List.mem_of_getElem? (i := 13) rfl)) (hw _ (List.mem_of_getElem? (i := 3) rfl)) (by decide) (by decide)) (g := (mkF m 71 #[.val (.int p1), .val (.int p2), .val (.int p3), .val (.int p4), .val (.int p5), .val (.int p6), .val (.int r1), .val (.int r2), .val (.int i), .val (.int j), .val (.ref b3), .unset, .unset, .unset] [(.ref (W k)), (.int r2), (.ref b6), (.ref b6)])) rfl (by rw [hml]; rfl) (Steps.refl _) (a := b6) (argsL := [(.int r2), (.ref (W k))]) (rest := [(.ref b6)]) (lenOf pd_5 rfl) rfl (by show 2 * 0 + _ ≤ _; exact Nat.le_of_eq rfl) (hb hby at_71) (fun _ _ => ⟨rfl, e7, (Nat.le_of_ble_eq_true rfl), (Nat.le_of_ble_eq_true rfl)⟩)
      dsimp only [Pt.U, Pt.locs, Pt.cells, Pt.slots] at X8 l8 y8 z8 st8 hQ8
      subst l8 y8 z8
      obtain ⟨rfl, N8q, K8, F_on_b6, F_reason_b6⟩ := hQ8
      have N8 := Fr.app N7 N8q
      have e8 : T8.heap = T8.heap := rfl
      have O8 := O6.keep K8 (allS g_b6 all0)
      have E_b3 : Exa Z T8.heap b3 "com/example/drain_warden/drainwarden/model/SaverState" := E_b3.keep K8
      have F_on_b3 : Fld Z T8.heap b3 "com/example/drain_warden/drainwarden/model/SaverState" "on" "Z" (.int r1) := F_on_b3.keep K8 (ninS ne_b3_b6 nin0)
      have F_reason_b3 : Fld Z T8.heap b3 "com/example/drain_warden/drainwarden/model/SaverState" "reason" "Lcom/example/drain_warden/drainwarden/model/SaverState$Reason;" (.ref (W n)) := F_reason_b3.keep K8 (ninS ne_b3_b6 nin0)
      have E_b6 : Exa Z T8.heap b6 "com/example/drain_warden/drainwarden/model/SaverState" := E_b6.keep K8
      refine goT (n := 74) (Ls' := #[.val (.int p1), .val (.int p2), .val (.int p3), .val (.int p4), .val (.int p5), .val (.int p6), .val (.int r1), .val (.int r2), .val (.int i), .val (.int j), .val (.ref b3), .unset, .unset, .unset]) (st' := [(.ref b6)]) st8 ?_
      refine goS (n := 76) (Ls' := #[.val (.int p1), .val (.int p2), .val (.int p3), .val (.int p4), .val (.int p5), .val (.int p6), .val (.int r1), .val (.int r2), .val (.int i), .val (.int j), .val (.ref b3), .val (.ref b6), .unset, .unset]) (st' := []) (fun _ kz => XS.astore X8.here hx rfl (hb hby at_74) rfl rfl (l' := #[.val (.int p1), .val (.int p2), .val (.int p3), .val (.int p4), .val (.int p5), .val (.int p6), .val (.int r1), .val (.int r2), .val (.int i), .val (.int j), .val (.ref b3), .val (.ref b6), .unset, .unset]) rfl kz) ?_
      refine goS (n := 78) (Ls' := #[.val (.int p1), .val (.int p2), .val (.int p3), .val (.int p4), .val (.int p5), .val (.int p6), .val (.int r1), .val (.int r2), .val (.int i), .val (.int j), .val (.ref b3), .val (.ref b6), .unset, .unset]) (st' := [(.int p5)]) (fun _ kz => XS.iload X8.here hx rfl (hb hby at_76) rfl kz) ?_
      refine goS (n := 79) (Ls' := #[.val (.int p1), .val (.int p2), .val (.int p3), .val (.int p4), .val (.int p5), .val (.int p6), .val (.int r1), .val (.int r2), .val (.int i), .val (.int j), .val (.ref b3), .val (.ref b6), .unset, .unset]) (st' := [(.int (3 : Int32)), (.int p5)]) (fun _ kz => XS.iconst X8.here hx rfl (hb hby at_78) kz) ?_
      refine goS (n := 80) (Ls' := #[.val (.int p1), .val (.int p2), .val (.int p3), .val (.int p4), .val (.int p5), .val (.int p6), .val (.int r1), .val (.int r2), .val (.int i), .val (.int j), .val (.ref b3), .val (.ref b6), .unset, .unset]) (st' := [(.int (p5 &&& (3 : Int32)))]) (fun _ kz => XS.iand X8.here hx rfl (hb hby at_79) rfl kz) ?_
      refine goS (n := 82) (Ls' := #[.val (.int p1), .val (.int p2), .val (.int p3), .val (.int p4), .val (.int p5), .val (.int p6), .val (.int r1), .val (.int r2), .val (.int i), .val (.int j), .val (.ref b3), .val (.ref b6), .val (.int (p5 &&& (3 : Int32))), .unset]) (st' := []) (fun _ kz => XS.istore X8.here hx rfl (hb hby at_80) rfl (l' := #[.val (.int p1), .val (.int p2), .val (.int p3), .val (.int p4), .val (.int p5), .val (.int p6), .val (.int r1), .val (.int r2), .val (.int i), .val (.int j), .val (.ref b3), .val (.ref b6), .val (.int (p5 &&& (3 : Int32))), .unset]) rfl kz) ?_
      refine goS (n := 84) (Ls' := #[.val (.int p1), .val (.int p2), .val (.int p3), .val (.int p4), .val (.int p5), .val (.int p6), .val (.int r1), .val (.int r2), .val (.int i), .val (.int j), .val (.ref b3), .val (.ref b6), .val (.int (p5 &&& (3 : Int32))), .unset]) (st' := [(.int (p5 &&& (3 : Int32)))]) (fun _ kz => XS.iload X8.here hx rfl (hb hby at_82) rfl kz) ?_
      refine goS (n := 85) (Ls' := #[.val (.int p1), .val (.int p2), .val (.int p3), .val (.int p4), .val (.int p5), .val (.int p6), .val (.int r1), .val (.int r2), .val (.int i), .val (.int j), .val (.ref b3), .val (.ref b6), .val (.int (p5 &&& (3 : Int32))), .unset]) (st' := [(.int (1 : Int32)), (.int (p5 &&& (3 : Int32)))]) (fun _ kz => XS.iconst X8.here hx rfl (hb hby at_84) kz) ?_
      by_cases hc9 : (p5 &&& (3 : Int32)) = (1 : Int32)
      · refine goS (n := 88) (Ls' := #[.val (.int p1), .val (.int p2), .val (.int p3), .val (.int p4), .val (.int p5), .val (.int p6), .val (.int r1), .val (.int r2), .val (.int i), .val (.int j), .val (.ref b3), .val (.ref b6), .val (.int (p5 &&& (3 : Int32))), .unset]) (st' := []) (fun _ kz => XS.icmpNo X8.here hx rfl (hb hby at_85) rfl (teq hc9).2 kz) ?_
        refine goS (n := 90) (Ls' := #[.val (.int p1), .val (.int p2), .val (.int p3), .val (.int p4), .val (.int p5), .val (.int p6), .val (.int r1), .val (.int r2), .val (.int i), .val (.int j), .val (.ref b3), .val (.ref b6), .val (.int (p5 &&& (3 : Int32))), .unset]) (st' := [(.ref b3)]) (fun _ kz => XS.aload X8.here hx rfl (hb hby at_88) rfl rfl kz) ?_
        refine goS (n := 91) (Ls' := #[.val (.int p1), .val (.int p2), .val (.int p3), .val (.int p4), .val (.int p5), .val (.int p6), .val (.int r1), .val (.int r2), .val (.int i), .val (.int j), .val (.ref b3), .val (.ref b6), .val (.int (p5 &&& (3 : Int32))), .unset]) (st' := [.null, (.ref b3)]) (fun _ kz => XS.aconstNull X8.here hx rfl (hb hby at_90) kz) ?_
        obtain ⟨cq10, kq10, q10a, q10b, q10c⟩ := isOf hZ e8 E_b3
        obtain ⟨_, _, ⟨T10, L10, k10, n10⟩, -, X10, ⟨Lc10, hQ10, l10, y10, z10⟩, st10⟩ := X8.virtualBack hx (y := (⟨"com/example/drain_warden/drainwarden/model/SaverState", "equals", "(Ljava/lang/Object;)Z"⟩ : MethodName)) (z := (⟨"com/example/drain_warden/drainwarden/model/SaverState", "equals", "(Ljava/lang/Object;)Z"⟩ : MethodName)) hown (mvT hZ (hw _ (List.mem_of_getElem? (i := 28) rfl))) (mvT hZ (hw _ (List.mem_of_getElem? (i := 29) rfl))) (notFace_of_selects (args := #[]) (mvT hZ (hw _ (List.mem_of_getElem? (i := 31) rfl)))) (mvT hZ (hw _ (List.mem_of_getElem? (i := 31) rfl))) (mvT hZ (hw _ (List.mem_of_getElem? (i := 30) rfl))) (by decide) (backOf (W := 0) (rm_eqN l Z a0 hw [] b3 T8.heap n0 O8) hZ (hw _ (List.mem_of_getElem? (i := 32) rfl)) (hw _ (List.mem_of_getElem? (i := 3) rfl)) (by decide) (by decide)) q10a q10c (g := (mkF m 91 #[.val (.int p1), .val (.int p2), .val (.int p3), .val (.int p4), .val (.int p5), .val (.int p6), .val (.int r1), .val (.int r2), .val (.int i), .val (.int j), .val (.ref b3), .val (.ref b6), .val (.int (p5 &&& (3 : Int32))), .unset] [.null, (.ref b3)])) rfl (by rw [hml]; rfl) (Steps.refl _) (argsL := [.null]) (rest := []) (lenOf pd_6 rfl) rfl (by show 2 * 0 + _ ≤ _; exact Nat.le_of_eq rfl) (hb hby at_91) (fun _ _ => ⟨rfl, e8, (Nat.le_of_ble_eq_true rfl), (Nat.le_of_ble_eq_true rfl)⟩)
        dsimp only [Pt.U, Pt.locs, Pt.cells, Pt.slots] at X10 l10 y10 z10 st10 hQ10
        subst l10 y10 z10
        obtain ⟨rfl, N10q, e10⟩ := hQ10
        have N10 := Fr.app N8 N10q
        refine goT (n := 94) (Ls' := #[.val (.int p1), .val (.int p2), .val (.int p3), .val (.int p4), .val (.int p5), .val (.int p6), .val (.int r1), .val (.int r2), .val (.int i), .val (.int j), .val (.ref b3), .val (.ref b6), .val (.int (p5 &&& (3 : Int32))), .unset]) (st' := [(.int (0 : Int32))]) st10 ?_
        refine goS (n := 97) (Ls' := #[.val (.int p1), .val (.int p2), .val (.int p3), .val (.int p4), .val (.int p5), .val (.int p6), .val (.int r1), .val (.int r2), .val (.int i), .val (.int j), .val (.ref b3), .val (.ref b6), .val (.int (p5 &&& (3 : Int32))), .unset]) (st' := []) (fun _ kz => XS.ifNo X10.here hx rfl (hb hby at_94) rfl (by decide) kz) ?_
        refine goS (n := 98) (Ls' := #[.val (.int p1), .val (.int p2), .val (.int p3), .val (.int p4), .val (.int p5), .val (.int p6), .val (.int r1), .val (.int r2), .val (.int i), .val (.int j), .val (.ref b3), .val (.ref b6), .val (.int (p5 &&& (3 : Int32))), .unset]) (st' := [(.int (1 : Int32))]) (fun _ kz => XS.iconst X10.here hx rfl (hb hby at_97) kz) ?_
        refine goS (n := 102) (Ls' := #[.val (.int p1), .val (.int p2), .val (.int p3), .val (.int p4), .val (.int p5), .val (.int p6), .val (.int r1), .val (.int r2), .val (.int i), .val (.int j), .val (.ref b3), .val (.ref b6), .val (.int (p5 &&& (3 : Int32))), .unset]) (st' := [(.int (1 : Int32))]) (fun _ kz => XS.goto X10.here hx rfl (pc0 := 98) (pc' := 102) rfl (hb hby at_98) (by decide) (by decide) kz) ?_
        exact goRetZ X10 hx hlk Bd.returns (Or.inr rfl) (hb hby at_102) (by decide) (by decide) (by rw [e10]; exact ⟨rfl, N10⟩)
      · refine goS (n := 103) (Ls' := #[.val (.int p1), .val (.int p2), .val (.int p3), .val (.int p4), .val (.int p5), .val (.int p6), .val (.int r1), .val (.int r2), .val (.int i), .val (.int j), .val (.ref b3), .val (.ref b6), .val (.int (p5 &&& (3 : Int32))), .unset]) (st' := []) (fun _ kz => XS.icmpYes X8.here hx rfl (pc0 := 85) (pc' := 103) rfl (hb hby at_85) rfl (feq hc9).2 (by decide) (by decide) kz) ?_
        refine goS (n := 105) (Ls' := #[.val (.int p1), .val (.int p2), .val (.int p3), .val (.int p4), .val (.int p5), .val (.int p6), .val (.int r1), .val (.int r2), .val (.int i), .val (.int j), .val (.ref b3), .val (.ref b6), .val (.int (p5 &&& (3 : Int32))), .unset]) (st' := [(.int (p5 &&& (3 : Int32)))]) (fun _ kz => XS.iload X8.here hx rfl (hb hby at_103) rfl kz) ?_
        refine goS (n := 106) (Ls' := #[.val (.int p1), .val (.int p2), .val (.int p3), .val (.int p4), .val (.int p5), .val (.int p6), .val (.int r1), .val (.int r2), .val (.int i), .val (.int j), .val (.ref b3), .val (.ref b6), .val (.int (p5 &&& (3 : Int32))), .unset]) (st' := [(.int (2 : Int32)), (.int (p5 &&& (3 : Int32)))]) (fun _ kz => XS.iconst X8.here hx rfl (hb hby at_105) kz) ?_
        by_cases hc11 : (p5 &&& (3 : Int32)) = (2 : Int32)
        · refine goS (n := 109) (Ls' := #[.val (.int p1), .val (.int p2), .val (.int p3), .val (.int p4), .val (.int p5), .val (.int p6), .val (.int r1), .val (.int r2), .val (.int i), .val (.int j), .val (.ref b3), .val (.ref b6), .val (.int (p5 &&& (3 : Int32))), .unset]) (st' := []) (fun _ kz => XS.icmpNo X8.here hx rfl (hb hby at_106) rfl (teq hc11).2 kz) ?_
          refine goS (n := 111) (Ls' := #[.val (.int p1), .val (.int p2), .val (.int p3), .val (.int p4), .val (.int p5), .val (.int p6), .val (.int r1), .val (.int r2), .val (.int i), .val (.int j), .val (.ref b3), .val (.ref b6), .val (.int (p5 &&& (3 : Int32))), .unset]) (st' := [(.int p6)]) (fun _ kz => XS.iload X8.here hx rfl (hb hby at_109) rfl kz) ?_
          refine goS (n := 114) (Ls' := #[.val (.int p1), .val (.int p2), .val (.int p3), .val (.int p4), .val (.int p5), .val (.int p6), .val (.int r1), .val (.int r2), .val (.int i), .val (.int j), .val (.ref b3), .val (.ref b6), .val (.int (p5 &&& (3 : Int32))), .unset]) (st' := [(.int (255 : Int32)), (.int p6)]) (fun _ kz => XS.sipush X8.here hx rfl (hb hby at_111) kz) ?_
          refine goS (n := 115) (Ls' := #[.val (.int p1), .val (.int p2), .val (.int p3), .val (.int p4), .val (.int p5), .val (.int p6), .val (.int r1), .val (.int r2), .val (.int i), .val (.int j), .val (.ref b3), .val (.ref b6), .val (.int (p5 &&& (3 : Int32))), .unset]) (st' := [(.int (p6 &&& (255 : Int32)))]) (fun _ kz => XS.iand X8.here hx rfl (hb hby at_114) rfl kz) ?_
          refine goS (n := 116) (Ls' := #[.val (.int p1), .val (.int p2), .val (.int p3), .val (.int p4), .val (.int p5), .val (.int p6), .val (.int r1), .val (.int r2), .val (.int i), .val (.int j), .val (.ref b3), .val (.ref b6), .val (.int (p5 &&& (3 : Int32))), .unset]) (st' := [(.int ((p6 &&& (255 : Int32)).toUInt32.toUInt16.toUInt32.toInt32))]) (fun _ kz => XS.i2c X8.here hx rfl (hb hby at_115) rfl kz) ?_
          obtain ⟨_, _, ⟨T12, L12, k12, n12⟩, -, X12, ⟨Lc12, hQ12, l12, y12, z12⟩, st12⟩ := Jvm.LawKit.callS X8 hx (y := (⟨"java/lang/String", "valueOf", "(C)Ljava/lang/String;"⟩ : MethodName)) hown (mvT hZ (hw _ (List.mem_of_getElem? (i := 46) rfl))) (mvT hZ (hw _ (List.mem_of_getElem? (i := 47) rfl))) (mvT hZ (hw _ (List.mem_of_getElem? (i := 48) rfl))) (mvT hZ (hw _ (List.mem_of_getElem? (i := 49) rfl))) (by decide) (backOf (W := 0) (rm_valC l Z a0 hw [] ((p6 &&& (255 : Int32)).toUInt32.toUInt16.toUInt32.toInt32) cs T8.heap n0 O8 S_CS hcs (own_c255 p6)) hZ (hw _ (List.mem_of_getElem? (i := 49) rfl)) (hw _ (List.mem_of_getElem? (i := 48) rfl)) (by decide) (by decide)) (g := (mkF m 116 #[.val (.int p1), .val (.int p2), .val (.int p3), .val (.int p4), .val (.int p5), .val (.int p6), .val (.int r1), .val (.int r2), .val (.int i), .val (.int j), .val (.ref b3), .val (.ref b6), .val (.int (p5 &&& (3 : Int32))), .unset] [(.int ((p6 &&& (255 : Int32)).toUInt32.toUInt16.toUInt32.toInt32))])) rfl (by rw [hml]; rfl) (argsL := [(.int ((p6 &&& (255 : Int32)).toUInt32.toUInt16.toUInt32.toInt32))]) (rest := []) (lenOf pd_7 rfl) rfl (by show 2 * 0 + _ ≤ _; exact Nat.le_of_eq rfl) (hb hby at_116) (fun _ _ => ⟨rfl, e8, (Nat.le_of_ble_eq_true rfl), (Nat.le_of_ble_eq_true rfl)⟩)
          dsimp only [Pt.U, Pt.locs, Pt.cells, Pt.slots] at X12 l12 y12 z12 st12 hQ12
          subst l12 y12 z12
          obtain ⟨a12, t12, kt12, rfl, N12q, K12, g_a12, za12, E_a12, F_value_a12, F_coder_a12, g_t12, V_t12⟩ := hQ12
          have ne_b3_a12 : b3 ≠ a12 := Nat.ne_of_lt (Nat.lt_of_lt_of_le E_b3.lt za12)
          have ne_b6_a12 : b6 ≠ a12 := Nat.ne_of_lt (Nat.lt_of_lt_of_le E_b6.lt za12)
          have N12 := Fr.app N8 N12q
          have e12 : T12.heap = T12.heap := rfl
          have O12 := O8.keep K12 all0
          have E_b3 : Exa Z T12.heap b3 "com/example/drain_warden/drainwarden/model/SaverState" := E_b3.keep K12
          have F_on_b3 : Fld Z T12.heap b3 "com/example/drain_warden/drainwarden/model/SaverState" "on" "Z" (.int r1) := F_on_b3.keep K12 nin0
          have F_reason_b3 : Fld Z T12.heap b3 "com/example/drain_warden/drainwarden/model/SaverState" "reason" "Lcom/example/drain_warden/drainwarden/model/SaverState$Reason;" (.ref (W n)) := F_reason_b3.keep K12 nin0
          have E_b6 : Exa Z T12.heap b6 "com/example/drain_warden/drainwarden/model/SaverState" := E_b6.keep K12
          have F_on_b6 : Fld Z T12.heap b6 "com/example/drain_warden/drainwarden/model/SaverState" "on" "Z" (.int r2) := F_on_b6.keep K12 nin0
          have F_reason_b6 : Fld Z T12.heap b6 "com/example/drain_warden/drainwarden/model/SaverState" "reason" "Lcom/example/drain_warden/drainwarden/model/SaverState$Reason;" (.ref (W k)) := F_reason_b6.keep K12 nin0
          refine goS (n := 119) (Ls' := #[.val (.int p1), .val (.int p2), .val (.int p3), .val (.int p4), .val (.int p5), .val (.int p6), .val (.int r1), .val (.int r2), .val (.int i), .val (.int j), .val (.ref b3), .val (.ref b6), .val (.int (p5 &&& (3 : Int32))), .unset]) (st' := [(.ref a12)]) st12 ?_
          refine goS (n := 121) (Ls' := #[.val (.int p1), .val (.int p2), .val (.int p3), .val (.int p4), .val (.int p5), .val (.int p6), .val (.int r1), .val (.int r2), .val (.int i), .val (.int j), .val (.ref b3), .val (.ref b6), .val (.int (p5 &&& (3 : Int32))), .val (.ref a12)]) (st' := []) (fun _ kz => XS.astore X12.here hx rfl (hb hby at_119) rfl rfl (l' := #[.val (.int p1), .val (.int p2), .val (.int p3), .val (.int p4), .val (.int p5), .val (.int p6), .val (.int r1), .val (.int r2), .val (.int i), .val (.int j), .val (.ref b3), .val (.ref b6), .val (.int (p5 &&& (3 : Int32))), .val (.ref a12)]) rfl kz) ?_
          refine goS (n := 123) (Ls' := #[.val (.int p1), .val (.int p2), .val (.int p3), .val (.int p4), .val (.int p5), .val (.int p6), .val (.int r1), .val (.int r2), .val (.int i), .val (.int j), .val (.ref b3), .val (.ref b6), .val (.int (p5 &&& (3 : Int32))), .val (.ref a12)]) (st' := [(.ref b3)]) (fun _ kz => XS.aload X12.here hx rfl (hb hby at_121) rfl rfl kz) ?_
          refine goS (n := 125) (Ls' := #[.val (.int p1), .val (.int p2), .val (.int p3), .val (.int p4), .val (.int p5), .val (.int p6), .val (.int r1), .val (.int r2), .val (.int i), .val (.int j), .val (.ref b3), .val (.ref b6), .val (.int (p5 &&& (3 : Int32))), .val (.ref a12)]) (st' := [(.ref a12), (.ref b3)]) (fun _ kz => XS.aload X12.here hx rfl (hb hby at_123) rfl rfl kz) ?_
          obtain ⟨cq13, kq13, q13a, q13b, q13c⟩ := isOf hZ e12 E_b3
          obtain ⟨_, _, ⟨T13, L13, k13, n13⟩, -, X13, ⟨Lc13, hQ13, l13, y13, z13⟩, st13⟩ := X12.virtualBack hx (y := (⟨"com/example/drain_warden/drainwarden/model/SaverState", "equals", "(Ljava/lang/Object;)Z"⟩ : MethodName)) (z := (⟨"com/example/drain_warden/drainwarden/model/SaverState", "equals", "(Ljava/lang/Object;)Z"⟩ : MethodName)) hown (mvT hZ (hw _ (List.mem_of_getElem? (i := 28) rfl))) (mvT hZ (hw _ (List.mem_of_getElem? (i := 29) rfl))) (notFace_of_selects (args := #[]) (mvT hZ (hw _ (List.mem_of_getElem? (i := 31) rfl)))) (mvT hZ (hw _ (List.mem_of_getElem? (i := 31) rfl))) (mvT hZ (hw _ (List.mem_of_getElem? (i := 30) rfl))) (by decide) (backOf (W := 0) (rm_eqS l Z a0 hw [] b3 a12 T12.heap n0 O12 E_a12) hZ (hw _ (List.mem_of_getElem? (i := 32) rfl)) (hw _ (List.mem_of_getElem? (i := 3) rfl)) (by decide) (by decide)) q13a q13c (g := (mkF m 125 #[.val (.int p1), .val (.int p2), .val (.int p3), .val (.int p4), .val (.int p5), .val (.int p6), .val (.int r1), .val (.int r2), .val (.int i), .val (.int j), .val (.ref b3), .val (.ref b6), .val (.int (p5 &&& (3 : Int32))), .val (.ref a12)] [(.ref a12), (.ref b3)])) rfl (by rw [hml]; rfl) (Steps.refl _) (argsL := [(.ref a12)]) (rest := []) (lenOf pd_6 rfl) rfl (by show 2 * 0 + _ ≤ _; exact Nat.le_of_eq rfl) (hb hby at_125) (fun _ _ => ⟨rfl, e12, (Nat.le_of_ble_eq_true rfl), (Nat.le_of_ble_eq_true rfl)⟩)
          dsimp only [Pt.U, Pt.locs, Pt.cells, Pt.slots] at X13 l13 y13 z13 st13 hQ13
          subst l13 y13 z13
          obtain ⟨rfl, N13q, e13⟩ := hQ13
          have N13 := Fr.app N12 N13q
          refine goT (n := 128) (Ls' := #[.val (.int p1), .val (.int p2), .val (.int p3), .val (.int p4), .val (.int p5), .val (.int p6), .val (.int r1), .val (.int r2), .val (.int i), .val (.int j), .val (.ref b3), .val (.ref b6), .val (.int (p5 &&& (3 : Int32))), .val (.ref a12)]) (st' := [(.int (0 : Int32))]) st13 ?_
          refine goS (n := 131) (Ls' := #[.val (.int p1), .val (.int p2), .val (.int p3), .val (.int p4), .val (.int p5), .val (.int p6), .val (.int r1), .val (.int r2), .val (.int i), .val (.int j), .val (.ref b3), .val (.ref b6), .val (.int (p5 &&& (3 : Int32))), .val (.ref a12)]) (st' := []) (fun _ kz => XS.ifNo X13.here hx rfl (hb hby at_128) rfl (by decide) kz) ?_
          refine goS (n := 132) (Ls' := #[.val (.int p1), .val (.int p2), .val (.int p3), .val (.int p4), .val (.int p5), .val (.int p6), .val (.int r1), .val (.int r2), .val (.int i), .val (.int j), .val (.ref b3), .val (.ref b6), .val (.int (p5 &&& (3 : Int32))), .val (.ref a12)]) (st' := [(.int (1 : Int32))]) (fun _ kz => XS.iconst X13.here hx rfl (hb hby at_131) kz) ?_
          refine goS (n := 136) (Ls' := #[.val (.int p1), .val (.int p2), .val (.int p3), .val (.int p4), .val (.int p5), .val (.int p6), .val (.int r1), .val (.int r2), .val (.int i), .val (.int j), .val (.ref b3), .val (.ref b6), .val (.int (p5 &&& (3 : Int32))), .val (.ref a12)]) (st' := [(.int (1 : Int32))]) (fun _ kz => XS.goto X13.here hx rfl (pc0 := 132) (pc' := 136) rfl (hb hby at_132) (by decide) (by decide) kz) ?_
          exact goRetZ X13 hx hlk Bd.returns (Or.inr rfl) (hb hby at_136) (by decide) (by decide) (by rw [e13]; exact ⟨rfl, N13⟩)
        · refine goS (n := 137) (Ls' := #[.val (.int p1), .val (.int p2), .val (.int p3), .val (.int p4), .val (.int p5), .val (.int p6), .val (.int r1), .val (.int r2), .val (.int i), .val (.int j), .val (.ref b3), .val (.ref b6), .val (.int (p5 &&& (3 : Int32))), .unset]) (st' := []) (fun _ kz => XS.icmpYes X8.here hx rfl (pc0 := 106) (pc' := 137) rfl (hb hby at_106) rfl (feq hc11).2 (by decide) (by decide) kz) ?_
          refine goS (n := 139) (Ls' := #[.val (.int p1), .val (.int p2), .val (.int p3), .val (.int p4), .val (.int p5), .val (.int p6), .val (.int r1), .val (.int r2), .val (.int i), .val (.int j), .val (.ref b3), .val (.ref b6), .val (.int (p5 &&& (3 : Int32))), .unset]) (st' := [(.int (p5 &&& (3 : Int32)))]) (fun _ kz => XS.iload X8.here hx rfl (hb hby at_137) rfl kz) ?_
          refine goS (n := 140) (Ls' := #[.val (.int p1), .val (.int p2), .val (.int p3), .val (.int p4), .val (.int p5), .val (.int p6), .val (.int r1), .val (.int r2), .val (.int i), .val (.int j), .val (.ref b3), .val (.ref b6), .val (.int (p5 &&& (3 : Int32))), .unset]) (st' := [(.int (3 : Int32)), (.int (p5 &&& (3 : Int32)))]) (fun _ kz => XS.iconst X8.here hx rfl (hb hby at_139) kz) ?_
          by_cases hc14 : (p5 &&& (3 : Int32)) = (3 : Int32)
          · refine goS (n := 143) (Ls' := #[.val (.int p1), .val (.int p2), .val (.int p3), .val (.int p4), .val (.int p5), .val (.int p6), .val (.int r1), .val (.int r2), .val (.int i), .val (.int j), .val (.ref b3), .val (.ref b6), .val (.int (p5 &&& (3 : Int32))), .unset]) (st' := []) (fun _ kz => XS.icmpNo X8.here hx rfl (hb hby at_140) rfl (teq hc14).2 kz) ?_
            refine goS (n := 145) (Ls' := #[.val (.int p1), .val (.int p2), .val (.int p3), .val (.int p4), .val (.int p5), .val (.int p6), .val (.int r1), .val (.int r2), .val (.int i), .val (.int j), .val (.ref b3), .val (.ref b6), .val (.int (p5 &&& (3 : Int32))), .unset]) (st' := [(.int j)]) (fun _ kz => XS.iload X8.here hx rfl (hb hby at_143) rfl kz) ?_
            obtain ⟨_, _, ⟨T15, L15, k15, n15⟩, -, X15, ⟨Lc15, hQ15, l15, y15, z15⟩, st15⟩ := Jvm.LawKit.callS X8 hx (y := (⟨"com/example/drain_warden/drainwarden/model/SaverStateEqualsPinLaw", "reason", "(I)Lcom/example/drain_warden/drainwarden/model/SaverState$Reason;"⟩ : MethodName)) hown (mvT hZ (hw _ (List.mem_of_getElem? (i := 4) rfl))) (mvT hZ (hw _ (List.mem_of_getElem? (i := 5) rfl))) (mvT hZ (hw _ (List.mem_of_getElem? (i := 6) rfl))) (mvT hZ (hw _ (List.mem_of_getElem? (i := 7) rfl))) (by decide) (backOf (W := 0) (rm_reason l Z a0 hw [] j k W T8.heap n0 O8 S_NONE S_MANUAL_ON S_MANUAL_OFF S_AUTO_ON S_POWER_CONNECTED S_STICKY_ON S_WRITE_FAILED htj hk) hZ (hw _ (List.mem_of_getElem? (i := 7) rfl)) (hw _ (List.mem_of_getElem? (i := 6) rfl)) (by decide) (by decide)) (g := (mkF m 145 #[.val (.int p1), .val (.int p2), .val (.int p3), .val (.int p4), .val (.int p5), .val (.int p6), .val (.int r1), .val (.int r2), .val (.int i), .val (.int j), .val (.ref b3), .val (.ref b6), .val (.int (p5 &&& (3 : Int32))), .unset] [(.int j)])) rfl (by rw [hml]; rfl) (argsL := [(.int j)]) (rest := []) (lenOf pd_4 rfl) rfl (by show 2 * 0 + _ ≤ _; exact Nat.le_of_eq rfl) (hb hby at_145) (fun _ _ => ⟨rfl, e8, (Nat.le_of_ble_eq_true rfl), (Nat.le_of_ble_eq_true rfl)⟩)
            dsimp only [Pt.U, Pt.locs, Pt.cells, Pt.slots] at X15 l15 y15 z15 st15 hQ15
            subst l15 y15 z15
            obtain ⟨rfl, N15q, e15⟩ := hQ15
            have N15 := Fr.app N8 N15q
            refine goS (n := 148) (Ls' := #[.val (.int p1), .val (.int p2), .val (.int p3), .val (.int p4), .val (.int p5), .val (.int p6), .val (.int r1), .val (.int r2), .val (.int i), .val (.int j), .val (.ref b3), .val (.ref b6), .val (.int (p5 &&& (3 : Int32))), .unset]) (st' := [(.ref (W k))]) st15 ?_
            refine goS (n := 150) (Ls' := #[.val (.int p1), .val (.int p2), .val (.int p3), .val (.int p4), .val (.int p5), .val (.int p6), .val (.int r1), .val (.int r2), .val (.int i), .val (.int j), .val (.ref b3), .val (.ref b6), .val (.int (p5 &&& (3 : Int32))), .val (.ref (W k))]) (st' := []) (fun _ kz => XS.astore X15.here hx rfl (hb hby at_148) rfl rfl (l' := #[.val (.int p1), .val (.int p2), .val (.int p3), .val (.int p4), .val (.int p5), .val (.int p6), .val (.int r1), .val (.int r2), .val (.int i), .val (.int j), .val (.ref b3), .val (.ref b6), .val (.int (p5 &&& (3 : Int32))), .val (.ref (W k))]) rfl kz) ?_
            refine goS (n := 152) (Ls' := #[.val (.int p1), .val (.int p2), .val (.int p3), .val (.int p4), .val (.int p5), .val (.int p6), .val (.int r1), .val (.int r2), .val (.int i), .val (.int j), .val (.ref b3), .val (.ref b6), .val (.int (p5 &&& (3 : Int32))), .val (.ref (W k))]) (st' := [(.ref b3)]) (fun _ kz => XS.aload X15.here hx rfl (hb hby at_150) rfl rfl kz) ?_
            refine goS (n := 154) (Ls' := #[.val (.int p1), .val (.int p2), .val (.int p3), .val (.int p4), .val (.int p5), .val (.int p6), .val (.int r1), .val (.int r2), .val (.int i), .val (.int j), .val (.ref b3), .val (.ref b6), .val (.int (p5 &&& (3 : Int32))), .val (.ref (W k))]) (st' := [(.ref (W k)), (.ref b3)]) (fun _ kz => XS.aload X15.here hx rfl (hb hby at_152) rfl rfl kz) ?_
            obtain ⟨cq16, kq16, q16a, q16b, q16c⟩ := isOf hZ e15 E_b3
            obtain ⟨_, _, ⟨T16, L16, k16, n16⟩, -, X16, ⟨Lc16, hQ16, l16, y16, z16⟩, st16⟩ := X15.virtualBack hx (y := (⟨"com/example/drain_warden/drainwarden/model/SaverState", "equals", "(Ljava/lang/Object;)Z"⟩ : MethodName)) (z := (⟨"com/example/drain_warden/drainwarden/model/SaverState", "equals", "(Ljava/lang/Object;)Z"⟩ : MethodName)) hown (mvT hZ (hw _ (List.mem_of_getElem? (i := 28) rfl))) (mvT hZ (hw _ (List.mem_of_getElem? (i := 29) rfl))) (notFace_of_selects (args := #[]) (mvT hZ (hw _ (List.mem_of_getElem? (i := 31) rfl)))) (mvT hZ (hw _ (List.mem_of_getElem? (i := 31) rfl))) (mvT hZ (hw _ (List.mem_of_getElem? (i := 30) rfl))) (by decide) (backOf (W := 0) (rm_eqR l Z a0 hw [] b3 (W k) T8.heap n0 O8 ((EX k hk).ext O8.2)) hZ (hw _ (List.mem_of_getElem? (i := 32) rfl)) (hw _ (List.mem_of_getElem? (i := 3) rfl)) (by decide) (by decide)) q16a q16c (g := (mkF m 154 #[.val (.int p1), .val (.int p2), .val (.int p3), .val (.int p4), .val (.int p5), .val (.int p6), .val (.int r1), .val (.int r2), .val (.int i), .val (.int j), .val (.ref b3), .val (.ref b6), .val (.int (p5 &&& (3 : Int32))), .val (.ref (W k))] [(.ref (W k)), (.ref b3)])) rfl (by rw [hml]; rfl) (Steps.refl _) (argsL := [(.ref (W k))]) (rest := []) (lenOf pd_6 rfl) rfl (by show 2 * 0 + _ ≤ _; exact Nat.le_of_eq rfl) (hb hby at_154) (fun _ _ => ⟨rfl, e15, (Nat.le_of_ble_eq_true rfl), (Nat.le_of_ble_eq_true rfl)⟩)
            dsimp only [Pt.U, Pt.locs, Pt.cells, Pt.slots] at X16 l16 y16 z16 st16 hQ16
            subst l16 y16 z16
            obtain ⟨rfl, N16q, e16⟩ := hQ16
            have N16 := Fr.app N15 N16q
            refine goT (n := 157) (Ls' := #[.val (.int p1), .val (.int p2), .val (.int p3), .val (.int p4), .val (.int p5), .val (.int p6), .val (.int r1), .val (.int r2), .val (.int i), .val (.int j), .val (.ref b3), .val (.ref b6), .val (.int (p5 &&& (3 : Int32))), .val (.ref (W k))]) (st' := [(.int (0 : Int32))]) st16 ?_
            refine goS (n := 160) (Ls' := #[.val (.int p1), .val (.int p2), .val (.int p3), .val (.int p4), .val (.int p5), .val (.int p6), .val (.int r1), .val (.int r2), .val (.int i), .val (.int j), .val (.ref b3), .val (.ref b6), .val (.int (p5 &&& (3 : Int32))), .val (.ref (W k))]) (st' := []) (fun _ kz => XS.ifNo X16.here hx rfl (hb hby at_157) rfl (by decide) kz) ?_
            refine goS (n := 161) (Ls' := #[.val (.int p1), .val (.int p2), .val (.int p3), .val (.int p4), .val (.int p5), .val (.int p6), .val (.int r1), .val (.int r2), .val (.int i), .val (.int j), .val (.ref b3), .val (.ref b6), .val (.int (p5 &&& (3 : Int32))), .val (.ref (W k))]) (st' := [(.int (1 : Int32))]) (fun _ kz => XS.iconst X16.here hx rfl (hb hby at_160) kz) ?_
            refine goS (n := 165) (Ls' := #[.val (.int p1), .val (.int p2), .val (.int p3), .val (.int p4), .val (.int p5), .val (.int p6), .val (.int r1), .val (.int r2), .val (.int i), .val (.int j), .val (.ref b3), .val (.ref b6), .val (.int (p5 &&& (3 : Int32))), .val (.ref (W k))]) (st' := [(.int (1 : Int32))]) (fun _ kz => XS.goto X16.here hx rfl (pc0 := 161) (pc' := 165) rfl (hb hby at_161) (by decide) (by decide) kz) ?_
            exact goRetZ X16 hx hlk Bd.returns (Or.inr rfl) (hb hby at_165) (by decide) (by decide) (by rw [e16]; exact ⟨rfl, N16⟩)
          · refine goS (n := 166) (Ls' := #[.val (.int p1), .val (.int p2), .val (.int p3), .val (.int p4), .val (.int p5), .val (.int p6), .val (.int r1), .val (.int r2), .val (.int i), .val (.int j), .val (.ref b3), .val (.ref b6), .val (.int (p5 &&& (3 : Int32))), .unset]) (st' := []) (fun _ kz => XS.icmpYes X8.here hx rfl (pc0 := 140) (pc' := 166) rfl (hb hby at_140) rfl (feq hc14).2 (by decide) (by decide) kz) ?_
            refine goS (n := 168) (Ls' := #[.val (.int p1), .val (.int p2), .val (.int p3), .val (.int p4), .val (.int p5), .val (.int p6), .val (.int r1), .val (.int r2), .val (.int i), .val (.int j), .val (.ref b3), .val (.ref b6), .val (.int (p5 &&& (3 : Int32))), .unset]) (st' := [(.int r1)]) (fun _ kz => XS.iload X8.here hx rfl (hb hby at_166) rfl kz) ?_
            refine goS (n := 170) (Ls' := #[.val (.int p1), .val (.int p2), .val (.int p3), .val (.int p4), .val (.int p5), .val (.int p6), .val (.int r1), .val (.int r2), .val (.int i), .val (.int j), .val (.ref b3), .val (.ref b6), .val (.int (p5 &&& (3 : Int32))), .unset]) (st' := [(.int r2), (.int r1)]) (fun _ kz => XS.iload X8.here hx rfl (hb hby at_168) rfl kz) ?_
            have jn17 : ∀ re : Int32, re = bi (r1 = r2 ∧ i = j) → Go p e below (PQ s room_1.cells room_1.slots (Q_law Z p1 p2 p3 p4 p5 p6 W cs h0 n0)) T8 (mkF m 185 #[.val (.int p1), .val (.int p2), .val (.int p3), .val (.int p4), .val (.int p5), .val (.int p6), .val (.int r1), .val (.int r2), .val (.int i), .val (.int j), .val (.ref b3), .val (.ref b6), .val (.int (p5 &&& (3 : Int32))), .unset] [(.int re)]) := by
              intro re h_re
              refine goS (n := 187) (Ls' := #[.val (.int p1), .val (.int p2), .val (.int p3), .val (.int p4), .val (.int p5), .val (.int p6), .val (.int r1), .val (.int r2), .val (.int i), .val (.int j), .val (.ref b3), .val (.ref b6), .val (.int (p5 &&& (3 : Int32))), .val (.int re)]) (st' := []) (fun _ kz => XS.istore X8.here hx rfl (hb hby at_185) rfl (l' := #[.val (.int p1), .val (.int p2), .val (.int p3), .val (.int p4), .val (.int p5), .val (.int p6), .val (.int r1), .val (.int r2), .val (.int i), .val (.int j), .val (.ref b3), .val (.ref b6), .val (.int (p5 &&& (3 : Int32))), .val (.int re)]) rfl kz) ?_
              refine goS (n := 189) (Ls' := #[.val (.int p1), .val (.int p2), .val (.int p3), .val (.int p4), .val (.int p5), .val (.int p6), .val (.int r1), .val (.int r2), .val (.int i), .val (.int j), .val (.ref b3), .val (.ref b6), .val (.int (p5 &&& (3 : Int32))), .val (.int re)]) (st' := [(.ref b3)]) (fun _ kz => XS.aload X8.here hx rfl (hb hby at_187) rfl rfl kz) ?_
              refine goS (n := 191) (Ls' := #[.val (.int p1), .val (.int p2), .val (.int p3), .val (.int p4), .val (.int p5), .val (.int p6), .val (.int r1), .val (.int r2), .val (.int i), .val (.int j), .val (.ref b3), .val (.ref b6), .val (.int (p5 &&& (3 : Int32))), .val (.int re)]) (st' := [(.ref b6), (.ref b3)]) (fun _ kz => XS.aload X8.here hx rfl (hb hby at_189) rfl rfl kz) ?_
              obtain ⟨cq18, kq18, q18a, q18b, q18c⟩ := isOf hZ e8 E_b3
              obtain ⟨_, _, ⟨T18, L18, k18, n18⟩, -, X18, ⟨Lc18, hQ18, l18, y18, z18⟩, st18⟩ := X8.virtualBack hx (y := (⟨"com/example/drain_warden/drainwarden/model/SaverState", "equals", "(Ljava/lang/Object;)Z"⟩ : MethodName)) (z := (⟨"com/example/drain_warden/drainwarden/model/SaverState", "equals", "(Ljava/lang/Object;)Z"⟩ : MethodName)) hown (mvT hZ (hw _ (List.mem_of_getElem? (i := 28) rfl))) (mvT hZ (hw _ (List.mem_of_getElem? (i := 29) rfl))) (notFace_of_selects (args := #[]) (mvT hZ (hw _ (List.mem_of_getElem? (i := 31) rfl)))) (mvT hZ (hw _ (List.mem_of_getElem? (i := 31) rfl))) (mvT hZ (hw _ (List.mem_of_getElem? (i := 30) rfl))) (by decide) (backOf (W := 0) (rm_eqM l Z a0 hw [] b3 b6 r1 (W n) r2 (W k) T8.heap n0 O8 F_on_b3 F_reason_b3 F_on_b6 F_reason_b6 E_b6) hZ (hw _ (List.mem_of_getElem? (i := 32) rfl)) (hw _ (List.mem_of_getElem? (i := 3) rfl)) (by decide) (by decide)) q18a q18c (g := (mkF m 191 #[.val (.int p1), .val (.int p2), .val (.int p3), .val (.int p4), .val (.int p5), .val (.int p6), .val (.int r1), .val (.int r2), .val (.int i), .val (.int j), .val (.ref b3), .val (.ref b6), .val (.int (p5 &&& (3 : Int32))), .val (.int re)] [(.ref b6), (.ref b3)])) rfl (by rw [hml]; rfl) (Steps.refl _) (argsL := [(.ref b6)]) (rest := []) (lenOf pd_6 rfl) rfl (by show 2 * 0 + _ ≤ _; exact Nat.le_of_eq rfl) (hb hby at_191) (fun _ _ => ⟨rfl, e8, (Nat.le_of_ble_eq_true rfl), (Nat.le_of_ble_eq_true rfl)⟩)
              dsimp only [Pt.U, Pt.locs, Pt.cells, Pt.slots] at X18 l18 y18 z18 st18 hQ18
              subst l18 y18 z18
              obtain ⟨v18, N18q, e18⟩ := hQ18
              obtain ⟨ab, qab⟩ : ∃ r, r = bi (r2 = r1 ∧ (W k) = (W n)) := ⟨_, rfl⟩
              rw [← qab] at v18
              subst v18
              have hab : ab = re := by rw [qab, h_re]; exact bi_iff ⟨fun q => ⟨q.1.symm, hij.mp q.2.symm⟩, fun q => ⟨q.1.symm, (hij.mpr q.2).symm⟩⟩
              have N18 := Fr.app N8 N18q
              refine goT (n := 194) (Ls' := #[.val (.int p1), .val (.int p2), .val (.int p3), .val (.int p4), .val (.int p5), .val (.int p6), .val (.int r1), .val (.int r2), .val (.int i), .val (.int j), .val (.ref b3), .val (.ref b6), .val (.int (p5 &&& (3 : Int32))), .val (.int re)]) (st' := [(.int ab)]) st18 ?_
              refine goS (n := 196) (Ls' := #[.val (.int p1), .val (.int p2), .val (.int p3), .val (.int p4), .val (.int p5), .val (.int p6), .val (.int r1), .val (.int r2), .val (.int i), .val (.int j), .val (.ref b3), .val (.ref b6), .val (.int (p5 &&& (3 : Int32))), .val (.int re)]) (st' := [(.int re), (.int ab)]) (fun _ kz => XS.iload X18.here hx rfl (hb hby at_194) rfl kz) ?_
              refine goS (n := 199) (Ls' := #[.val (.int p1), .val (.int p2), .val (.int p3), .val (.int p4), .val (.int p5), .val (.int p6), .val (.int r1), .val (.int r2), .val (.int i), .val (.int j), .val (.ref b3), .val (.ref b6), .val (.int (p5 &&& (3 : Int32))), .val (.int re)]) (st' := []) (fun _ kz => XS.icmpNo X18.here hx rfl (hb hby at_196) rfl (teq hab).2 kz) ?_
              refine goS (n := 201) (Ls' := #[.val (.int p1), .val (.int p2), .val (.int p3), .val (.int p4), .val (.int p5), .val (.int p6), .val (.int r1), .val (.int r2), .val (.int i), .val (.int j), .val (.ref b3), .val (.ref b6), .val (.int (p5 &&& (3 : Int32))), .val (.int re)]) (st' := [(.ref b6)]) (fun _ kz => XS.aload X18.here hx rfl (hb hby at_199) rfl rfl kz) ?_
              refine goS (n := 203) (Ls' := #[.val (.int p1), .val (.int p2), .val (.int p3), .val (.int p4), .val (.int p5), .val (.int p6), .val (.int r1), .val (.int r2), .val (.int i), .val (.int j), .val (.ref b3), .val (.ref b6), .val (.int (p5 &&& (3 : Int32))), .val (.int re)]) (st' := [(.ref b3), (.ref b6)]) (fun _ kz => XS.aload X18.here hx rfl (hb hby at_201) rfl rfl kz) ?_
              obtain ⟨cq19, kq19, q19a, q19b, q19c⟩ := isOf hZ e18 E_b6
              obtain ⟨_, _, ⟨T19, L19, k19, n19⟩, -, X19, ⟨Lc19, hQ19, l19, y19, z19⟩, st19⟩ := X18.virtualBack hx (y := (⟨"com/example/drain_warden/drainwarden/model/SaverState", "equals", "(Ljava/lang/Object;)Z"⟩ : MethodName)) (z := (⟨"com/example/drain_warden/drainwarden/model/SaverState", "equals", "(Ljava/lang/Object;)Z"⟩ : MethodName)) hown (mvT hZ (hw _ (List.mem_of_getElem? (i := 28) rfl))) (mvT hZ (hw _ (List.mem_of_getElem? (i := 29) rfl))) (notFace_of_selects (args := #[]) (mvT hZ (hw _ (List.mem_of_getElem? (i := 31) rfl)))) (mvT hZ (hw _ (List.mem_of_getElem? (i := 31) rfl))) (mvT hZ (hw _ (List.mem_of_getElem? (i := 30) rfl))) (by decide) (backOf (W := 0) (rm_eqM l Z a0 hw [] b6 b3 r2 (W k) r1 (W n) T8.heap n0 O8 F_on_b6 F_reason_b6 F_on_b3 F_reason_b3 E_b3) hZ (hw _ (List.mem_of_getElem? (i := 32) rfl)) (hw _ (List.mem_of_getElem? (i := 3) rfl)) (by decide) (by decide)) q19a q19c (g := (mkF m 203 #[.val (.int p1), .val (.int p2), .val (.int p3), .val (.int p4), .val (.int p5), .val (.int p6), .val (.int r1), .val (.int r2), .val (.int i), .val (.int j), .val (.ref b3), .val (.ref b6), .val (.int (p5 &&& (3 : Int32))), .val (.int re)] [(.ref b3), (.ref b6)])) rfl (by rw [hml]; rfl) (Steps.refl _) (argsL := [(.ref b3)]) (rest := []) (lenOf pd_6 rfl) rfl (by show 2 * 0 + _ ≤ _; exact Nat.le_of_eq rfl) (hb hby at_203) (fun _ _ => ⟨rfl, e18, (Nat.le_of_ble_eq_true rfl), (Nat.le_of_ble_eq_true rfl)⟩)
              dsimp only [Pt.U, Pt.locs, Pt.cells, Pt.slots] at X19 l19 y19 z19 st19 hQ19
              subst l19 y19 z19
              obtain ⟨v19, N19q, e19⟩ := hQ19
              obtain ⟨ba, qba⟩ : ∃ r, r = bi (r1 = r2 ∧ (W n) = (W k)) := ⟨_, rfl⟩
              rw [← qba] at v19
              subst v19
              have hba : ba = re := by rw [qba, h_re]; exact bi_iff ⟨fun q => ⟨q.1, hij.mp q.2⟩, fun q => ⟨q.1, hij.mpr q.2⟩⟩
              have N19 := Fr.app N18 N19q
              refine goT (n := 206) (Ls' := #[.val (.int p1), .val (.int p2), .val (.int p3), .val (.int p4), .val (.int p5), .val (.int p6), .val (.int r1), .val (.int r2), .val (.int i), .val (.int j), .val (.ref b3), .val (.ref b6), .val (.int (p5 &&& (3 : Int32))), .val (.int re)]) (st' := [(.int ba)]) st19 ?_
              refine goS (n := 208) (Ls' := #[.val (.int p1), .val (.int p2), .val (.int p3), .val (.int p4), .val (.int p5), .val (.int p6), .val (.int r1), .val (.int r2), .val (.int i), .val (.int j), .val (.ref b3), .val (.ref b6), .val (.int (p5 &&& (3 : Int32))), .val (.int re)]) (st' := [(.int re), (.int ba)]) (fun _ kz => XS.iload X19.here hx rfl (hb hby at_206) rfl kz) ?_
              refine goS (n := 211) (Ls' := #[.val (.int p1), .val (.int p2), .val (.int p3), .val (.int p4), .val (.int p5), .val (.int p6), .val (.int r1), .val (.int r2), .val (.int i), .val (.int j), .val (.ref b3), .val (.ref b6), .val (.int (p5 &&& (3 : Int32))), .val (.int re)]) (st' := []) (fun _ kz => XS.icmpNo X19.here hx rfl (hb hby at_208) rfl (teq hba).2 kz) ?_
              refine goS (n := 212) (Ls' := #[.val (.int p1), .val (.int p2), .val (.int p3), .val (.int p4), .val (.int p5), .val (.int p6), .val (.int r1), .val (.int r2), .val (.int i), .val (.int j), .val (.ref b3), .val (.ref b6), .val (.int (p5 &&& (3 : Int32))), .val (.int re)]) (st' := [(.int (1 : Int32))]) (fun _ kz => XS.iconst X19.here hx rfl (hb hby at_211) kz) ?_
              refine goS (n := 216) (Ls' := #[.val (.int p1), .val (.int p2), .val (.int p3), .val (.int p4), .val (.int p5), .val (.int p6), .val (.int r1), .val (.int r2), .val (.int i), .val (.int j), .val (.ref b3), .val (.ref b6), .val (.int (p5 &&& (3 : Int32))), .val (.int re)]) (st' := [(.int (1 : Int32))]) (fun _ kz => XS.goto X19.here hx rfl (pc0 := 212) (pc' := 216) rfl (hb hby at_212) (by decide) (by decide) kz) ?_
              exact goRetZ X19 hx hlk Bd.returns (Or.inr rfl) (hb hby at_216) (by decide) (by decide) (by rw [e19]; exact ⟨rfl, N19⟩)
            by_cases hc20 : r1 = r2
            · refine goS (n := 173) (Ls' := #[.val (.int p1), .val (.int p2), .val (.int p3), .val (.int p4), .val (.int p5), .val (.int p6), .val (.int r1), .val (.int r2), .val (.int i), .val (.int j), .val (.ref b3), .val (.ref b6), .val (.int (p5 &&& (3 : Int32))), .unset]) (st' := []) (fun _ kz => XS.icmpNo X8.here hx rfl (hb hby at_170) rfl (teq hc20).2 kz) ?_
              refine goS (n := 175) (Ls' := #[.val (.int p1), .val (.int p2), .val (.int p3), .val (.int p4), .val (.int p5), .val (.int p6), .val (.int r1), .val (.int r2), .val (.int i), .val (.int j), .val (.ref b3), .val (.ref b6), .val (.int (p5 &&& (3 : Int32))), .unset]) (st' := [(.int i)]) (fun _ kz => XS.iload X8.here hx rfl (hb hby at_173) rfl kz) ?_
              refine goS (n := 177) (Ls' := #[.val (.int p1), .val (.int p2), .val (.int p3), .val (.int p4), .val (.int p5), .val (.int p6), .val (.int r1), .val (.int r2), .val (.int i), .val (.int j), .val (.ref b3), .val (.ref b6), .val (.int (p5 &&& (3 : Int32))), .unset]) (st' := [(.int j), (.int i)]) (fun _ kz => XS.iload X8.here hx rfl (hb hby at_175) rfl kz) ?_
              by_cases hc21 : i = j
              · refine goS (n := 180) (Ls' := #[.val (.int p1), .val (.int p2), .val (.int p3), .val (.int p4), .val (.int p5), .val (.int p6), .val (.int r1), .val (.int r2), .val (.int i), .val (.int j), .val (.ref b3), .val (.ref b6), .val (.int (p5 &&& (3 : Int32))), .unset]) (st' := []) (fun _ kz => XS.icmpNo X8.here hx rfl (hb hby at_177) rfl (teq hc21).2 kz) ?_
                refine goS (n := 181) (Ls' := #[.val (.int p1), .val (.int p2), .val (.int p3), .val (.int p4), .val (.int p5), .val (.int p6), .val (.int r1), .val (.int r2), .val (.int i), .val (.int j), .val (.ref b3), .val (.ref b6), .val (.int (p5 &&& (3 : Int32))), .unset]) (st' := [(.int (1 : Int32))]) (fun _ kz => XS.iconst X8.here hx rfl (hb hby at_180) kz) ?_
                refine goS (n := 185) (Ls' := #[.val (.int p1), .val (.int p2), .val (.int p3), .val (.int p4), .val (.int p5), .val (.int p6), .val (.int r1), .val (.int r2), .val (.int i), .val (.int j), .val (.ref b3), .val (.ref b6), .val (.int (p5 &&& (3 : Int32))), .unset]) (st' := [(.int (1 : Int32))]) (fun _ kz => XS.goto X8.here hx rfl (pc0 := 181) (pc' := 185) rfl (hb hby at_181) (by decide) (by decide) kz) ?_
                exact jn17 _ (by simp [bi, hc20, hc21])
              · refine goS (n := 184) (Ls' := #[.val (.int p1), .val (.int p2), .val (.int p3), .val (.int p4), .val (.int p5), .val (.int p6), .val (.int r1), .val (.int r2), .val (.int i), .val (.int j), .val (.ref b3), .val (.ref b6), .val (.int (p5 &&& (3 : Int32))), .unset]) (st' := []) (fun _ kz => XS.icmpYes X8.here hx rfl (pc0 := 177) (pc' := 184) rfl (hb hby at_177) rfl (feq hc21).2 (by decide) (by decide) kz) ?_
                refine goS (n := 185) (Ls' := #[.val (.int p1), .val (.int p2), .val (.int p3), .val (.int p4), .val (.int p5), .val (.int p6), .val (.int r1), .val (.int r2), .val (.int i), .val (.int j), .val (.ref b3), .val (.ref b6), .val (.int (p5 &&& (3 : Int32))), .unset]) (st' := [(.int (0 : Int32))]) (fun _ kz => XS.iconst X8.here hx rfl (hb hby at_184) kz) ?_
                exact jn17 _ (by simp [bi, hc20, hc21])
            · refine goS (n := 184) (Ls' := #[.val (.int p1), .val (.int p2), .val (.int p3), .val (.int p4), .val (.int p5), .val (.int p6), .val (.int r1), .val (.int r2), .val (.int i), .val (.int j), .val (.ref b3), .val (.ref b6), .val (.int (p5 &&& (3 : Int32))), .unset]) (st' := []) (fun _ kz => XS.icmpYes X8.here hx rfl (pc0 := 170) (pc' := 184) rfl (hb hby at_170) rfl (feq hc20).2 (by decide) (by decide) kz) ?_
              refine goS (n := 185) (Ls' := #[.val (.int p1), .val (.int p2), .val (.int p3), .val (.int p4), .val (.int p5), .val (.int p6), .val (.int r1), .val (.int r2), .val (.int i), .val (.int j), .val (.ref b3), .val (.ref b6), .val (.int (p5 &&& (3 : Int32))), .unset]) (st' := [(.int (0 : Int32))]) (fun _ kz => XS.iconst X8.here hx rfl (hb hby at_184) kz) ?_
              exact jn17 _ (by simp [bi, hc20])
    by_cases hc22 : (p3 &&& (1 : Int32)) = (0 : Int32)
    · refine goS (n := 23) (Ls' := #[.val (.int p1), .val (.int p2), .val (.int p3), .val (.int p4), .val (.int p5), .val (.int p6), .val (.int r1), .unset, .unset, .unset, .unset, .unset, .unset, .unset]) (st' := []) (fun _ kz => XS.ifYes X0.here hx rfl (pc0 := 16) (pc' := 23) rfl (hb hby at_16) rfl ((if0 _ _).trans (teq hc22).1) (by decide) (by decide) kz) ?_
      refine goS (n := 24) (Ls' := #[.val (.int p1), .val (.int p2), .val (.int p3), .val (.int p4), .val (.int p5), .val (.int p6), .val (.int r1), .unset, .unset, .unset, .unset, .unset, .unset, .unset]) (st' := [(.int (0 : Int32))]) (fun _ kz => XS.iconst X0.here hx rfl (hb hby at_23) kz) ?_
      exact jn2 _ (bi_f (fun q => q hc22)).symm
    · refine goS (n := 19) (Ls' := #[.val (.int p1), .val (.int p2), .val (.int p3), .val (.int p4), .val (.int p5), .val (.int p6), .val (.int r1), .unset, .unset, .unset, .unset, .unset, .unset, .unset]) (st' := []) (fun _ kz => XS.ifNo X0.here hx rfl (hb hby at_16) rfl ((if0 _ _).trans (feq hc22).1) kz) ?_
      refine goS (n := 20) (Ls' := #[.val (.int p1), .val (.int p2), .val (.int p3), .val (.int p4), .val (.int p5), .val (.int p6), .val (.int r1), .unset, .unset, .unset, .unset, .unset, .unset, .unset]) (st' := [(.int (1 : Int32))]) (fun _ kz => XS.iconst X0.here hx rfl (hb hby at_19) kz) ?_
      refine goS (n := 24) (Ls' := #[.val (.int p1), .val (.int p2), .val (.int p3), .val (.int p4), .val (.int p5), .val (.int p6), .val (.int r1), .unset, .unset, .unset, .unset, .unset, .unset, .unset]) (st' := [(.int (1 : Int32))]) (fun _ kz => XS.goto X0.here hx rfl (pc0 := 20) (pc' := 24) rfl (hb hby at_20) (by decide) (by decide) kz) ?_
      exact jn2 _ (bi_t hc22).symm
  by_cases hc23 : (p1 &&& (1 : Int32)) = (0 : Int32)
  · refine goS (n := 10) (Ls' := #[.val (.int p1), .val (.int p2), .val (.int p3), .val (.int p4), .val (.int p5), .val (.int p6), .unset, .unset, .unset, .unset, .unset, .unset, .unset, .unset]) (st' := []) (fun _ kz => XS.ifYes X0.here hx rfl (pc0 := 3) (pc' := 10) rfl (hb hby at_3) rfl ((if0 _ _).trans (teq hc23).1) (by decide) (by decide) kz) ?_
    refine goS (n := 11) (Ls' := #[.val (.int p1), .val (.int p2), .val (.int p3), .val (.int p4), .val (.int p5), .val (.int p6), .unset, .unset, .unset, .unset, .unset, .unset, .unset, .unset]) (st' := [(.int (0 : Int32))]) (fun _ kz => XS.iconst X0.here hx rfl (hb hby at_10) kz) ?_
    exact jn1 _ (bi_f (fun q => q hc23)).symm
  · refine goS (n := 6) (Ls' := #[.val (.int p1), .val (.int p2), .val (.int p3), .val (.int p4), .val (.int p5), .val (.int p6), .unset, .unset, .unset, .unset, .unset, .unset, .unset, .unset]) (st' := []) (fun _ kz => XS.ifNo X0.here hx rfl (hb hby at_3) rfl ((if0 _ _).trans (feq hc23).1) kz) ?_
    refine goS (n := 7) (Ls' := #[.val (.int p1), .val (.int p2), .val (.int p3), .val (.int p4), .val (.int p5), .val (.int p6), .unset, .unset, .unset, .unset, .unset, .unset, .unset, .unset]) (st' := [(.int (1 : Int32))]) (fun _ kz => XS.iconst X0.here hx rfl (hb hby at_6) kz) ?_
    refine goS (n := 11) (Ls' := #[.val (.int p1), .val (.int p2), .val (.int p3), .val (.int p4), .val (.int p5), .val (.int p6), .unset, .unset, .unset, .unset, .unset, .unset, .unset, .unset]) (st' := [(.int (1 : Int32))]) (fun _ kz => XS.goto X0.here hx rfl (pc0 := 7) (pc' := 11) rfl (hb hby at_7) (by decide) (by decide) kz) ?_
    exact jn1 _ (bi_t hc23).symm
set_option maxRecDepth 65536 in
set_option maxHeartbeats 40000000 in
theorem comes_1 {Post : Tables → Env → Array Value → State → Outcome → State → Prop} (hpost : ∀ tb e args s v u, (limb_1_1.after args s (.returned v) u = true ∧ limb_1_2.after args s (.returned v) u = true ∧ True) → FrameEnd s (.returned v) u (Jvm.fieldLocs frame_1_writes args s ++ Jvm.arrayLocs frame_1_arrays args s ++ Jvm.staticLocs frame_1_statics s) 16 128 → Post tb e args s (.returned v) u) :
    ArmFor flags0 classFile x code maxLocals ret World_1 tables_1 room_1 Calls_1 rest_1 Pre_1 Post := by
  intro l hfl _ _ p e ha hc hk s m args below hf hA hF happ hP
  obtain ⟨hcalls, hrest, hpre⟩ := hP
  obtain ⟨-, -, -, hnamed, -, -, -, hat⟩ := (Spec.applies_iff hf).mp happ
  obtain ⟨hg, hn⟩ := and_e (Cond.before_iff.mp (show (Jvm.Cond.and given_1 narrow_1).before args s = true from hpre))
  obtain ⟨g1, g2⟩ := and_e hg
  obtain ⟨g3, g4⟩ := and_e g2
  obtain ⟨g5, g6⟩ := and_e g4
  obtain ⟨g7, g8⟩ := and_e g6
  obtain ⟨g9, g10⟩ := and_e g8
  obtain ⟨g11, g12⟩ := and_e g10
  obtain ⟨w0, w1, w2, w3, w4, w5, rfl⟩ : ∃ w0 w1 w2 w3 w4 w5 : Value, args = #[w0, w1, w2, w3, w4, w5] := by
    have hs : args.size = 6 := by simpa [Cond.value, given_1] using g1
    obtain ⟨L⟩ := args
    match L, hs with
    | [w0, w1, w2, w3, w4, w5], _ => exact ⟨w0, w1, w2, w3, w4, w5, rfl⟩
  have hw := fun d (hd : d ∈ tables_1) => atoms_spec (ws := Jvm.Cond.code x code maxLocals ret :: tables_1) hat d (List.mem_cons_of_mem _ hd)
  have hfit : Fit s := fun {y c} hc i hi => by
    obtain ⟨ha, rfl⟩ := Array.getElem?_eq_some_iff.mp hc
    have q := List.all_eq_true.mp ((Array.all_eq_true_iff_forall_mem.mp hF) _ (Array.getElem_mem ha)) i (List.mem_range.mpr hi)
    simpa [Array.getElem?_eq_getElem hi] using q
  obtain ⟨hsets, hown0⟩ := atoms_of _ (rest_1_c_eq ▸ (show rest_1_c.before _ s = true from hrest))
  have hr0 := Cond.before_iff.mp hown0
  obtain ⟨i0, ei0⟩ := is_v g3
  obtain rfl : w0 = (.int i0) := Option.some.inj ei0
  obtain ⟨i1, ei1⟩ := is_v g5
  obtain rfl : w1 = (.int i1) := Option.some.inj ei1
  obtain ⟨i2, ei2⟩ := is_v g7
  obtain rfl : w2 = (.int i2) := Option.some.inj ei2
  obtain ⟨i3, ei3⟩ := is_v g9
  obtain rfl : w3 = (.int i3) := Option.some.inj ei3
  obtain ⟨i4, ei4⟩ := is_v g11
  obtain rfl : w4 = (.int i4) := Option.some.inj ei4
  obtain ⟨i5, ei5⟩ := is_v g12
  obtain rfl : w5 = (.int i5) := Option.some.inj ei5
  obtain ⟨nr1, nr2⟩ := and_e hn
  obtain ⟨nr3, nr4⟩ := and_e nr2
  obtain ⟨nr5, nr6⟩ := and_e nr4
  obtain ⟨nr7, nr8⟩ := and_e nr6
  obtain ⟨nr9, nr10⟩ := and_e nr8
  obtain ⟨nr11, nr12⟩ := and_e nr10
  obtain ⟨nr13, nr14⟩ := and_e nr12
  obtain ⟨nr15, nr16⟩ := and_e nr14
  obtain ⟨nr17, nr18⟩ := and_e nr16
  obtain ⟨nr19, nr20⟩ := and_e nr18
  obtain ⟨nr21, nr22⟩ := and_e nr20
  obtain ⟨nr23, nr24⟩ := and_e nr22
  obtain ⟨nr25, nr26⟩ := and_e nr24
  obtain ⟨w_AUTO_ON, ev_AUTO_ON⟩ := exa_v nr1
  have EX_AUTO_ON : Exa s s.heap w_AUTO_ON "com/example/drain_warden/drainwarden/model/SaverState$Reason" := Exa.start ev_AUTO_ON nr1
  have ST_AUTO_ON : Sta s s.heap "com/example/drain_warden/drainwarden/model/SaverState$Reason" "AUTO_ON" "Lcom/example/drain_warden/drainwarden/model/SaverState$Reason;" (.ref w_AUTO_ON) := Sta.start ev_AUTO_ON (Or.inr ⟨(hw _ (List.mem_of_getElem? (i := 9) rfl)), (hw _ (List.mem_of_getElem? (i := 10) rfl))⟩)
  obtain ⟨w_MANUAL_ON, ev_MANUAL_ON⟩ := exa_v nr3
  have EX_MANUAL_ON : Exa s s.heap w_MANUAL_ON "com/example/drain_warden/drainwarden/model/SaverState$Reason" := Exa.start ev_MANUAL_ON nr3
  have ST_MANUAL_ON : Sta s s.heap "com/example/drain_warden/drainwarden/model/SaverState$Reason" "MANUAL_ON" "Lcom/example/drain_warden/drainwarden/model/SaverState$Reason;" (.ref w_MANUAL_ON) := Sta.start ev_MANUAL_ON (Or.inr ⟨(hw _ (List.mem_of_getElem? (i := 9) rfl)), (hw _ (List.mem_of_getElem? (i := 27) rfl))⟩)
  obtain ⟨w_NONE, ev_NONE⟩ := exa_v nr9
  have EX_NONE : Exa s s.heap w_NONE "com/example/drain_warden/drainwarden/model/SaverState$Reason" := Exa.start ev_NONE nr9
  have ST_NONE : Sta s s.heap "com/example/drain_warden/drainwarden/model/SaverState$Reason" "NONE" "Lcom/example/drain_warden/drainwarden/model/SaverState$Reason;" (.ref w_NONE) := Sta.start ev_NONE (Or.inr ⟨(hw _ (List.mem_of_getElem? (i := 9) rfl)), (hw _ (List.mem_of_getElem? (i := 36) rfl))⟩)
  obtain ⟨w_MANUAL_OFF, ev_MANUAL_OFF⟩ := exa_v nr11
  have EX_MANUAL_OFF : Exa s s.heap w_MANUAL_OFF "com/example/drain_warden/drainwarden/model/SaverState$Reason" := Exa.start ev_MANUAL_OFF nr11
  have ST_MANUAL_OFF : Sta s s.heap "com/example/drain_warden/drainwarden/model/SaverState$Reason" "MANUAL_OFF" "Lcom/example/drain_warden/drainwarden/model/SaverState$Reason;" (.ref w_MANUAL_OFF) := Sta.start ev_MANUAL_OFF (Or.inr ⟨(hw _ (List.mem_of_getElem? (i := 9) rfl)), (hw _ (List.mem_of_getElem? (i := 38) rfl))⟩)
  obtain ⟨w_STICKY_ON, ev_STICKY_ON⟩ := exa_v nr13
  have EX_STICKY_ON : Exa s s.heap w_STICKY_ON "com/example/drain_warden/drainwarden/model/SaverState$Reason" := Exa.start ev_STICKY_ON nr13
  have ST_STICKY_ON : Sta s s.heap "com/example/drain_warden/drainwarden/model/SaverState$Reason" "STICKY_ON" "Lcom/example/drain_warden/drainwarden/model/SaverState$Reason;" (.ref w_STICKY_ON) := Sta.start ev_STICKY_ON (Or.inr ⟨(hw _ (List.mem_of_getElem? (i := 9) rfl)), (hw _ (List.mem_of_getElem? (i := 43) rfl))⟩)
  obtain ⟨w_POWER_CONNECTED, ev_POWER_CONNECTED⟩ := exa_v nr15
  have EX_POWER_CONNECTED : Exa s s.heap w_POWER_CONNECTED "com/example/drain_warden/drainwarden/model/SaverState$Reason" := Exa.start ev_POWER_CONNECTED nr15
  have ST_POWER_CONNECTED : Sta s s.heap "com/example/drain_warden/drainwarden/model/SaverState$Reason" "POWER_CONNECTED" "Lcom/example/drain_warden/drainwarden/model/SaverState$Reason;" (.ref w_POWER_CONNECTED) := Sta.start ev_POWER_CONNECTED (Or.inr ⟨(hw _ (List.mem_of_getElem? (i := 9) rfl)), (hw _ (List.mem_of_getElem? (i := 45) rfl))⟩)
  obtain ⟨w_WRITE_FAILED, ev_WRITE_FAILED⟩ := exa_v nr17
  have EX_WRITE_FAILED : Exa s s.heap w_WRITE_FAILED "com/example/drain_warden/drainwarden/model/SaverState$Reason" := Exa.start ev_WRITE_FAILED nr17
  have ST_WRITE_FAILED : Sta s s.heap "com/example/drain_warden/drainwarden/model/SaverState$Reason" "WRITE_FAILED" "Lcom/example/drain_warden/drainwarden/model/SaverState$Reason;" (.ref w_WRITE_FAILED) := Sta.start ev_WRITE_FAILED (Or.inr ⟨(hw _ (List.mem_of_getElem? (i := 9) rfl)), (hw _ (List.mem_of_getElem? (i := 72) rfl))⟩)
  have FL_MANUAL_ON_ordinal : Fld s s.heap w_MANUAL_ON "java/lang/Enum" "ordinal" "I" (.int (1 : Int32)) := fldStart ev_MANUAL_ON nr5
  have FL_AUTO_ON_ordinal : Fld s s.heap w_AUTO_ON "java/lang/Enum" "ordinal" "I" (.int (3 : Int32)) := fldStart ev_AUTO_ON nr7
  have FL_POWER_CONNECTED_ordinal : Fld s s.heap w_POWER_CONNECTED "java/lang/Enum" "ordinal" "I" (.int (4 : Int32)) := fldStart ev_POWER_CONNECTED nr19
  have FL_STICKY_ON_ordinal : Fld s s.heap w_STICKY_ON "java/lang/Enum" "ordinal" "I" (.int (5 : Int32)) := fldStart ev_STICKY_ON nr21
  have FL_NONE_ordinal : Fld s s.heap w_NONE "java/lang/Enum" "ordinal" "I" (.int (0 : Int32)) := fldStart ev_NONE nr23
  have FL_MANUAL_OFF_ordinal : Fld s s.heap w_MANUAL_OFF "java/lang/Enum" "ordinal" "I" (.int (2 : Int32)) := fldStart ev_MANUAL_OFF nr25
  have FL_WRITE_FAILED_ordinal : Fld s s.heap w_WRITE_FAILED "java/lang/Enum" "ordinal" "I" (.int (6 : Int32)) := fldStart ev_WRITE_FAILED nr26
  let W : Nat → Addr := fun n => [w_NONE, w_MANUAL_ON, w_MANUAL_OFF, w_AUTO_ON, w_POWER_CONNECTED, w_STICKY_ON, w_WRITE_FAILED].getD n 0
  have EX : ∀ n, n < 7 → Exa s s.heap (W n) "com/example/drain_warden/drainwarden/model/SaverState$Reason" := by
    intro n hn
    rcases n with _ | n; · exact EX_NONE
    rcases n with _ | n; · exact EX_MANUAL_ON
    rcases n with _ | n; · exact EX_MANUAL_OFF
    rcases n with _ | n; · exact EX_AUTO_ON
    rcases n with _ | n; · exact EX_POWER_CONNECTED
    rcases n with _ | n; · exact EX_STICKY_ON
    rcases n with _ | n; · exact EX_WRITE_FAILED
    omega
  have OR : ∀ n, n < 7 → Fld s s.heap (W n) "java/lang/Enum" "ordinal" "I" (.int (Int32.ofNat n)) := by
    intro n hn
    rcases n with _ | n; · exact FL_NONE_ordinal
    rcases n with _ | n; · exact FL_MANUAL_ON_ordinal
    rcases n with _ | n; · exact FL_MANUAL_OFF_ordinal
    rcases n with _ | n; · exact FL_AUTO_ON_ordinal
    rcases n with _ | n; · exact FL_POWER_CONNECTED_ordinal
    rcases n with _ | n; · exact FL_STICKY_ON_ordinal
    rcases n with _ | n; · exact FL_WRITE_FAILED_ordinal
    omega
  have INJ : ∀ i j, i < 7 → j < 7 → W i = W j → i = j := by
    intro i j hi hj q
    refine Decidable.byContradiction fun hne => Fld.ne (OR i hi) (OR j hj) (fun z => ?_) q
    have z1 : (Int32.ofNat i).toInt = (Int32.ofNat j).toInt := by rw [Value.int.inj z]
    rw [Int32.toInt_ofNat_small (by omega), Int32.toInt_ofNat_small (by omega)] at z1
    omega
  obtain ⟨cs, ecs⟩ := is_v (Cond.before_iff.mp (hsets _ (List.mem_of_getElem? (i := 1) rfl)))
  have S_CS : Sta s s.heap "java/lang/String" "COMPACT_STRINGS" "Z" (.int cs) := Sta.start ecs (Or.inl (hsets _ (List.mem_of_getElem? (i := 0) rfl)))
  have hcs : ¬ cs = (0 : Int32) := gotF (Cond.eq_ints ecs (Term.int_eval _)) (not_v (Cond.before_iff.mp (hsets _ (List.mem_of_getElem? (i := 2) rfl))))
  obtain ⟨n, o, h1, h2, h3, _, L, rfl, ⟨rfl, N⟩, hq⟩ := rm_law l s _ hw tables_1 i0 i1 i2 i3 i4 i5 W cs s.heap s.heap.size (Old.start s) ST_NONE ST_MANUAL_ON ST_MANUAL_OFF ST_AUTO_ON ST_POWER_CONNECTED ST_STICKY_ON ST_WRITE_FAILED EX INJ S_CS hcs p e ha hc hk s m _ below hf ((Spec.applies_iff_loose hf).mp happ).1 ⟨rfl, State.Warmed39.refl s, rfl⟩ trivial
  refine ⟨n, _, h1, h2, h3, hpost _ _ _ _ _ _ ⟨Cond.after_iff.mpr rfl, Cond.after_iff.mpr (eq_i res_at (Term.int_eval (1)) rfl), trivial⟩ ⟨hq.1, hq.2.1, (hq.2.2.sift fun y hy => Or.inr (N y hy)).mono (by decide) (by decide)⟩⟩
theorem main_1_1 : Claimed_1_1 := comes_1 fun _ _ _ _ _ _ h hF => ⟨h.1, hF⟩
theorem main_1_2 : Claimed_1_2 := comes_1 fun _ _ _ _ _ _ h hF => ⟨h.2.1, hF⟩
end Jvm.Pilot.@@N@@
namespace Jvm.Pilot.@@N@@
open Jvm Jvm.ClassFile Sem Op Lib Jvm.Free Jvm.Stand Jvm.Pilot.@@N@@.Jvm.D
/-! MADE BY PROGRAM (witnessworld.py) out of the Statement's table words and the real class files: 21 classes; the members and pool entries that the words name. The judged class is class 1, her method 2. -/
namespace start1
open Jvm.ClassFile
def u (s : String) : CpInfo := .utf8 (stringToUtf16 s)
/-- a pool by its gaps: so many unusable entries, then the entry; so many at the end -/
def gap : Nat → List CpInfo → List CpInfo
  | 0, r => r
  | n + 1, r => .unusable :: gap n r
def poolList (es : List (Nat × CpInfo)) (last : Nat) : List CpInfo := es.foldr (fun e r => gap e.1 (e.2 :: r)) (gap last [])
def pool (es : List (Nat × CpInfo)) (last : Nat) : Array CpInfo := ⟨poolList es last⟩
def fileOf (pool : Array CpInfo) (this : Nat) (attrs : Array Attribute := #[]) (ms : Array MethodInfo := #[]) (fl : Nat := 33) (sup : Nat := 0) (ifs : Array Nat := #[]) (fds : Array FieldInfo := #[]) : ClassFile where
  minorVersion := 0
  majorVersion := 65
  constantPool := pool
  accessFlags := fl
  thisClass := this
  superClass := sup
  interfaces := ifs
  fields := fds
  methods := ms
  attributes := attrs
def plain (name : String) (sup : Option ClassId) : Class where
  name := name
  kind := .ordinary
  loader := none
  accessFlags := 33
  super := sup
  interfaces := #[]
  cf := none
  fields := #[]
  methods := #[]
  instanceTypes := #[]
  staticTypes := #[]
  resolved := #[]
  callSites := []
  init := .initialized
  statics := none
  mirror := none

def pool0 : Array CpInfo := pool [(5, u "<init>"), (0, u "()V"), (1, .class_ 10), (1, u "java/lang/Object")] 113

def k0c0 : Code := { maxStack := 0, maxLocals := 1, code := object_method_1_code, exceptionTable := #[], attributes := #[] }
def k0m0 : Method := { name := "<init>", desc := "()V", sig := { parameters := [], returnType := none }, accessFlags := 1, code := some k0c0 }
/-- java/lang/Object -/
def k0 : Class := { plain "java/lang/Object" none with
  accessFlags := 33
  interfaces := #[]
  cf := some (fileOf pool0 8 #[] #[{ accessFlags := 1, nameIndex := 5, descriptorIndex := 6, attributes := #[] }] 33 0 #[] #[])
  fields := #[]
  methods := #[k0m0]
  instanceTypes := #[]
  staticTypes := #[]
  resolved := Array.replicate 124 none
  statics := none }

def pool1 : Array CpInfo := pool [(2, .class_ 4), (1, u "java/lang/Object"), (0, u "<init>"), (0, u "()V"), (0, .fieldref 8 9), (0, .class_ 10), (0, .nameAndType 11 12), (0, u "com/example/drain_warden/drainwarden/model/SaverState$Reason"), (0, u "NONE"), (0, u "Lcom/example/drain_warden/drainwarden/model/SaverState$Reason;"), (0, .fieldref 8 14), (0, .nameAndType 15 12), (0, u "MANUAL_ON"), (0, .fieldref 8 17), (0, .nameAndType 18 12), (0, u "MANUAL_OFF"), (0, .fieldref 8 20), (0, .nameAndType 21 12), (0, u "AUTO_ON"), (0, .fieldref 8 23), (0, .nameAndType 24 12), (0, u "POWER_CONNECTED"), (0, .fieldref 8 26), (0, .nameAndType 27 12), (0, u "STICKY_ON"), (0, .fieldref 8 29), (0, .nameAndType 30 12), (0, u "WRITE_FAILED"), (0, .integer 2147483647), (0, .class_ 33), (0, u "com/example/drain_warden/drainwarden/model/SaverState"), (0, .methodref 35 36), (0, .class_ 37), (0, .nameAndType 38 39), (0, u "com/example/drain_warden/drainwarden/model/SaverStateEqualsPinLaw"), (0, u "reason"), (0, u "(I)Lcom/example/drain_warden/drainwarden/model/SaverState$Reason;"), (0, .methodref 32 41), (0, .nameAndType 5 42), (0, u "(ZLcom/example/drain_warden/drainwarden/model/SaverState$Reason;)V"), (0, .methodref 32 44), (0, .nameAndType 45 46), (0, u "equals"), (0, u "(Ljava/lang/Object;)Z"), (0, .methodref 48 49), (0, .class_ 50), (0, .nameAndType 51 52), (0, u "java/lang/String"), (0, u "valueOf"), (0, u "(C)Ljava/lang/String;"), (3, u "law"), (0, u "(IIIIII)Z")] 4

def k1m0 : Method := { name := "<init>", desc := "()V", sig := { parameters := [], returnType := none }, accessFlags := 1, code := none }
def k1c1 : Code := { maxStack := 2, maxLocals := 1, code := method_2_code, exceptionTable := #[], attributes := #[] }
def k1m1 : Method := { name := "reason", desc := "(I)Lcom/example/drain_warden/drainwarden/model/SaverState$Reason;", sig := { parameters := [.int], returnType := some (.object "com/example/drain_warden/drainwarden/model/SaverState$Reason") }, accessFlags := 10, code := some k1c1 }
def k1c2 : Code := { maxStack := 4, maxLocals := 14, code := code, exceptionTable := #[], attributes := #[] }
def k1m2 : Method := { name := "law", desc := "(IIIIII)Z", sig := { parameters := [.int, .int, .int, .int, .int, .int], returnType := some .boolean }, accessFlags := 9, code := some k1c2 }
/-- com/example/drain_warden/drainwarden/model/SaverStateEqualsPinLaw -/
def k1 : Class := { plain "com/example/drain_warden/drainwarden/model/SaverStateEqualsPinLaw" (some 0) with
  accessFlags := 49
  interfaces := #[]
  cf := some (fileOf pool1 35 #[] #[{ accessFlags := 1, nameIndex := 5, descriptorIndex := 6, attributes := #[] }, { accessFlags := 10, nameIndex := 38, descriptorIndex := 39, attributes := #[] }, { accessFlags := 9, nameIndex := 56, descriptorIndex := 57, attributes := #[] }] 49 2 #[] #[])
  fields := #[]
  methods := #[k1m0, k1m1, k1m2]
  instanceTypes := #[]
  staticTypes := #[]
  resolved := Array.replicate 62 none
  statics := none }

def pool2 : Array CpInfo := pool [(1, .methodref 2 3), (0, .class_ 4), (0, .nameAndType 5 6), (0, u "java/lang/Object"), (0, u "<init>"), (0, u "()V"), (0, .class_ 8), (0, u "java/lang/Record")] 13

def k2c0 : Code := { maxStack := 1, maxLocals := 1, code := jdk_30_method_1_code, exceptionTable := #[], attributes := #[] }
def k2m0 : Method := { name := "<init>", desc := "()V", sig := { parameters := [], returnType := none }, accessFlags := 4, code := some k2c0 }
/-- java/lang/Record -/
def k2 : Class := { plain "java/lang/Record" (some 0) with
  accessFlags := 1057
  interfaces := #[]
  cf := some (fileOf pool2 7 #[] #[{ accessFlags := 4, nameIndex := 5, descriptorIndex := 6, attributes := #[] }] 1057 2 #[] #[])
  fields := #[]
  methods := #[k2m0]
  instanceTypes := #[]
  staticTypes := #[]
  resolved := Array.replicate 22 none
  statics := none }

def pool3 : Array CpInfo := pool [(1, .methodref 2 3), (0, .class_ 4), (0, .nameAndType 5 6), (0, u "java/lang/Record"), (0, u "<init>"), (0, u "()V"), (0, .fieldref 8 9), (0, .class_ 10), (0, .nameAndType 11 12), (0, u "com/example/drain_warden/drainwarden/model/SaverState"), (0, u "on"), (0, u "Z"), (0, .fieldref 8 14), (0, .nameAndType 15 16), (0, u "reason"), (0, u "Lcom/example/drain_warden/drainwarden/model/SaverState$Reason;"), (7, .class_ 26), (1, u "com/example/drain_warden/drainwarden/model/SaverState$Reason"), (10, u "(ZLcom/example/drain_warden/drainwarden/model/SaverState$Reason;)V"), (2, u "NEVER_SWITCHED"), (0, u "Lcom/example/drain_warden/drainwarden/model/SaverState;"), (3, u "equals"), (0, u "(Ljava/lang/Object;)Z")] 28

def k3c0 : Code := { maxStack := 2, maxLocals := 3, code := prog_32_method_1_code, exceptionTable := #[], attributes := #[] }
def k3m0 : Method := { name := "<init>", desc := "(ZLcom/example/drain_warden/drainwarden/model/SaverState$Reason;)V", sig := { parameters := [.boolean, (.object "com/example/drain_warden/drainwarden/model/SaverState$Reason")], returnType := none }, accessFlags := 1, code := some k3c0 }
def k3c1 : Code := { maxStack := 2, maxLocals := 3, code := prog_32_method_2_code, exceptionTable := #[], attributes := #[] }
def k3m1 : Method := { name := "equals", desc := "(Ljava/lang/Object;)Z", sig := { parameters := [(.object "java/lang/Object")], returnType := some .boolean }, accessFlags := 1, code := some k3c1 }
/-- com/example/drain_warden/drainwarden/model/SaverState -/
def k3 : Class := { plain "com/example/drain_warden/drainwarden/model/SaverState" (some 2) with
  accessFlags := 49
  interfaces := #[]
  cf := some (fileOf pool3 8 #[.nestMembers #[24]] #[{ accessFlags := 1, nameIndex := 5, descriptorIndex := 37, attributes := #[] }, { accessFlags := 1, nameIndex := 45, descriptorIndex := 46, attributes := #[] }] 49 2 #[] #[{ accessFlags := 18, nameIndex := 11, descriptorIndex := 12, attributes := #[] }, { accessFlags := 18, nameIndex := 15, descriptorIndex := 16, attributes := #[] }, { accessFlags := 25, nameIndex := 40, descriptorIndex := 41, attributes := #[] }])
  fields := #[{ name := "on", type := .boolean, accessFlags := 18, slot := 0, constantValue := 0 }, { name := "reason", type := (.object "com/example/drain_warden/drainwarden/model/SaverState$Reason"), accessFlags := 18, slot := 1, constantValue := 0 }, { name := "NEVER_SWITCHED", type := (.object "com/example/drain_warden/drainwarden/model/SaverState"), accessFlags := 25, slot := 0, constantValue := 0 }]
  methods := #[k3m0, k3m1]
  instanceTypes := #[.boolean, (.object "com/example/drain_warden/drainwarden/model/SaverState$Reason")]
  staticTypes := #[(.object "com/example/drain_warden/drainwarden/model/SaverState")]
  resolved := Array.replicate 75 none
  statics := none }

def pool4 : Array CpInfo := pool [(1, .class_ 2), (0, u "java/lang/constant/Constable"), (0, .class_ 4), (0, u "java/lang/Object")] 6

/-- java/lang/constant/Constable -/
def k4 : Class := { plain "java/lang/constant/Constable" (some 0) with
  accessFlags := 1537
  interfaces := #[]
  cf := some (fileOf pool4 1 #[] #[] 1537 3 #[] #[])
  fields := #[]
  methods := #[]
  instanceTypes := #[]
  staticTypes := #[]
  resolved := Array.replicate 11 none
  statics := none }

def pool5 : Array CpInfo := pool [(1, .class_ 2), (0, u "java/lang/Comparable"), (0, .class_ 4), (0, u "java/lang/Object")] 7

/-- java/lang/Comparable -/
def k5 : Class := { plain "java/lang/Comparable" (some 0) with
  accessFlags := 1537
  interfaces := #[]
  cf := some (fileOf pool5 1 #[] #[] 1537 3 #[] #[])
  fields := #[]
  methods := #[]
  instanceTypes := #[]
  staticTypes := #[]
  resolved := Array.replicate 12 none
  statics := none }

def pool6 : Array CpInfo := pool [(1, .class_ 2), (0, u "java/io/Serializable"), (0, .class_ 4), (0, u "java/lang/Object")] 2

/-- java/io/Serializable -/
def k6 : Class := { plain "java/io/Serializable" (some 0) with
  accessFlags := 1537
  interfaces := #[]
  cf := some (fileOf pool6 1 #[] #[] 1537 3 #[] #[])
  fields := #[]
  methods := #[]
  instanceTypes := #[]
  staticTypes := #[]
  resolved := Array.replicate 7 none
  statics := none }

def pool7 : Array CpInfo := pool [(2, .class_ 4), (1, u "java/lang/Enum"), (0, u "name"), (0, u "Ljava/lang/String;"), (2, u "ordinal"), (0, u "I"), (1, .class_ 14), (1, u "java/lang/Object"), (4, u "hash"), (86, .class_ 108), (1, u "java/lang/Enum$EnumDesc"), (2, .class_ 112), (0, u "java/lang/constant/Constable"), (0, .class_ 114), (0, u "java/lang/Comparable"), (0, .class_ 116), (0, u "java/io/Serializable")] 87

/-- java/lang/Enum -/
def k7 : Class := { plain "java/lang/Enum" (some 0) with
  accessFlags := 1057
  interfaces := #[4, 5, 6]
  cf := some (fileOf pool7 2 #[.nestMembers #[106]] #[] 1057 12 #[111, 113, 115] #[{ accessFlags := 18, nameIndex := 5, descriptorIndex := 6, attributes := #[] }, { accessFlags := 18, nameIndex := 9, descriptorIndex := 10, attributes := #[] }, { accessFlags := 2, nameIndex := 19, descriptorIndex := 10, attributes := #[] }])
  fields := #[{ name := "name", type := (.object "java/lang/String"), accessFlags := 18, slot := 0, constantValue := 0 }, { name := "ordinal", type := .int, accessFlags := 18, slot := 1, constantValue := 0 }, { name := "hash", type := .int, accessFlags := 2, slot := 2, constantValue := 0 }]
  methods := #[]
  instanceTypes := #[(.object "java/lang/String"), .int, .int]
  staticTypes := #[]
  resolved := Array.replicate 204 none
  statics := none }

def pool8 : Array CpInfo := pool [(8, .class_ 10), (1, u "com/example/drain_warden/drainwarden/model/Named"), (12, .class_ 24), (0, u "java/lang/Object")] 11

/-- com/example/drain_warden/drainwarden/model/Named -/
def k8 : Class := { plain "com/example/drain_warden/drainwarden/model/Named" (some 0) with
  accessFlags := 1537
  interfaces := #[]
  cf := some (fileOf pool8 8 #[] #[] 1537 23 #[] #[])
  fields := #[]
  methods := #[]
  instanceTypes := #[]
  staticTypes := #[]
  resolved := Array.replicate 36 none
  statics := none }

def pool9 : Array CpInfo := pool [(1, .class_ 2), (0, u "com/example/drain_warden/drainwarden/model/SaverState$Reason"), (2, u "NONE"), (0, u "Lcom/example/drain_warden/drainwarden/model/SaverState$Reason;"), (2, u "MANUAL_ON"), (2, u "MANUAL_OFF"), (2, u "AUTO_ON"), (2, u "POWER_CONNECTED"), (2, u "STICKY_ON"), (2, u "WRITE_FAILED"), (2, u "$VALUES"), (0, u "[Lcom/example/drain_warden/drainwarden/model/SaverState$Reason;"), (6, .class_ 37), (1, u "java/lang/Enum"), (8, u "text"), (0, u "Ljava/lang/String;"), (5, .class_ 55), (1, u "com/example/drain_warden/drainwarden/model/Named"), (45, .class_ 102), (0, u "com/example/drain_warden/drainwarden/model/SaverState")] 2

/-- com/example/drain_warden/drainwarden/model/SaverState$Reason -/
def k9 : Class := { plain "com/example/drain_warden/drainwarden/model/SaverState$Reason" (some 7) with
  accessFlags := 16433
  interfaces := #[8]
  cf := some (fileOf pool9 1 #[.nestHost 101] #[] 16433 35 #[53] #[{ accessFlags := 16409, nameIndex := 5, descriptorIndex := 6, attributes := #[] }, { accessFlags := 16409, nameIndex := 9, descriptorIndex := 6, attributes := #[] }, { accessFlags := 16409, nameIndex := 12, descriptorIndex := 6, attributes := #[] }, { accessFlags := 16409, nameIndex := 15, descriptorIndex := 6, attributes := #[] }, { accessFlags := 16409, nameIndex := 18, descriptorIndex := 6, attributes := #[] }, { accessFlags := 16409, nameIndex := 21, descriptorIndex := 6, attributes := #[] }, { accessFlags := 16409, nameIndex := 24, descriptorIndex := 6, attributes := #[] }, { accessFlags := 18, nameIndex := 46, descriptorIndex := 47, attributes := #[] }, { accessFlags := 4122, nameIndex := 27, descriptorIndex := 28, attributes := #[] }])
  fields := #[{ name := "NONE", type := (.object "com/example/drain_warden/drainwarden/model/SaverState$Reason"), accessFlags := 16409, slot := 0, constantValue := 0 }, { name := "MANUAL_ON", type := (.object "com/example/drain_warden/drainwarden/model/SaverState$Reason"), accessFlags := 16409, slot := 1, constantValue := 0 }, { name := "MANUAL_OFF", type := (.object "com/example/drain_warden/drainwarden/model/SaverState$Reason"), accessFlags := 16409, slot := 2, constantValue := 0 }, { name := "AUTO_ON", type := (.object "com/example/drain_warden/drainwarden/model/SaverState$Reason"), accessFlags := 16409, slot := 3, constantValue := 0 }, { name := "POWER_CONNECTED", type := (.object "com/example/drain_warden/drainwarden/model/SaverState$Reason"), accessFlags := 16409, slot := 4, constantValue := 0 }, { name := "STICKY_ON", type := (.object "com/example/drain_warden/drainwarden/model/SaverState$Reason"), accessFlags := 16409, slot := 5, constantValue := 0 }, { name := "WRITE_FAILED", type := (.object "com/example/drain_warden/drainwarden/model/SaverState$Reason"), accessFlags := 16409, slot := 6, constantValue := 0 }, { name := "text", type := (.object "java/lang/String"), accessFlags := 18, slot := 3, constantValue := 0 }, { name := "$VALUES", type := (.array (.object "com/example/drain_warden/drainwarden/model/SaverState$Reason")), accessFlags := 4122, slot := 7, constantValue := 0 }]
  methods := #[]
  instanceTypes := #[(.object "java/lang/String"), .int, .int, (.object "java/lang/String")]
  staticTypes := #[(.object "com/example/drain_warden/drainwarden/model/SaverState$Reason"), (.object "com/example/drain_warden/drainwarden/model/SaverState$Reason"), (.object "com/example/drain_warden/drainwarden/model/SaverState$Reason"), (.object "com/example/drain_warden/drainwarden/model/SaverState$Reason"), (.object "com/example/drain_warden/drainwarden/model/SaverState$Reason"), (.object "com/example/drain_warden/drainwarden/model/SaverState$Reason"), (.object "com/example/drain_warden/drainwarden/model/SaverState$Reason"), (.array (.object "com/example/drain_warden/drainwarden/model/SaverState$Reason"))]
  resolved := Array.replicate 105 none
  statics := some 0 }

def pool10 : Array CpInfo := pool [(2, .class_ 4), (1, u "java/lang/CharSequence"), (42, .class_ 48), (0, u "java/lang/CharSequence$1CodePointIterator"), (10, .class_ 60), (0, u "java/lang/CharSequence$1CharIterator"), (5, .class_ 67), (0, u "java/lang/Object")] 63

/-- java/lang/CharSequence -/
def k10 : Class := { plain "java/lang/CharSequence" (some 0) with
  accessFlags := 1537
  interfaces := #[]
  cf := some (fileOf pool10 2 #[.nestMembers #[47, 59]] #[] 1537 66 #[] #[])
  fields := #[]
  methods := #[]
  instanceTypes := #[]
  staticTypes := #[]
  resolved := Array.replicate 131 none
  statics := none }

def pool11 : Array CpInfo := pool [(1, .class_ 2), (0, u "java/lang/constant/ConstantDesc"), (0, .class_ 4), (0, u "java/lang/Object")] 32

/-- java/lang/constant/ConstantDesc -/
def k11 : Class := { plain "java/lang/constant/ConstantDesc" (some 0) with
  accessFlags := 1537
  interfaces := #[]
  cf := some (fileOf pool11 1 #[] #[] 1537 3 #[] #[])
  fields := #[]
  methods := #[]
  instanceTypes := #[]
  staticTypes := #[]
  resolved := Array.replicate 37 none
  statics := none }

def pool12 : Array CpInfo := pool [(1, .methodref 2 3), (0, .class_ 4), (0, .nameAndType 5 6), (0, u "java/lang/Object"), (0, u "<init>"), (0, u "()V"), (2, .fieldref 10 11), (0, .class_ 12), (0, .nameAndType 13 14), (0, u "java/lang/String"), (0, u "value"), (0, u "[B"), (0, .fieldref 10 16), (0, .nameAndType 17 18), (0, u "coder"), (0, u "B"), (2, u "hash"), (0, u "I"), (2, u "hashIsZero"), (0, u "Z"), (11, .fieldref 10 39), (0, .nameAndType 40 26), (0, u "COMPACT_STRINGS"), (12, u "toBytes"), (53, .class_ 109), (1, u "java/lang/StringLatin1"), (99, .methodref 10 210), (0, .nameAndType 5 211), (0, u "([BB)V"), (157, u "(C)Z"), (205, .class_ 576), (0, u "java/lang/CharSequence"), (22, u "CASE_INSENSITIVE_ORDER"), (0, u "Ljava/util/Comparator;"), (181, u "valueOf"), (0, u "(C)Ljava/lang/String;"), (231, .methodref 107 1016), (0, .nameAndType 1017 369), (0, u "canEncode"), (0, .methodref 107 1019), (0, .nameAndType 53 1020), (0, u "(C)[B"), (80, u "serialPersistentFields"), (0, u "[Ljava/io/ObjectStreamField;"), (0, .class_ 1104), (0, u "java/lang/String$CaseInsensitiveComparator"), (1, .class_ 1107), (0, u "java/io/Serializable"), (0, .class_ 1109), (0, u "java/lang/Comparable"), (0, .class_ 1111), (0, u "java/lang/constant/Constable"), (0, .class_ 1113), (0, u "java/lang/constant/ConstantDesc"), (2, u "serialVersionUID"), (0, u "J"), (3, u "REPL"), (0, u "C"), (2, u "LATIN1"), (1, u "UTF16")] 323

def k12m0 : Method := { name := "<init>", desc := "()V", sig := { parameters := [], returnType := none }, accessFlags := 1, code := none }
def k12c1 : Code := { maxStack := 4, maxLocals := 1, code := jdk_42_method_139_code, exceptionTable := #[], attributes := #[] }
def k12m1 : Method := { name := "valueOf", desc := "(C)Ljava/lang/String;", sig := { parameters := [.char], returnType := some (.object "java/lang/String") }, accessFlags := 9, code := some k12c1 }
def k12c2 : Code := { maxStack := 2, maxLocals := 3, code := jdk_42_method_151_code, exceptionTable := #[], attributes := #[] }
def k12m2 : Method := { name := "<init>", desc := "([BB)V", sig := { parameters := [(.array .byte), .byte], returnType := none }, accessFlags := 0, code := some k12c2 }
/-- java/lang/String -/
def k12 : Class := { plain "java/lang/String" (some 0) with
  accessFlags := 49
  interfaces := #[6, 5, 10, 4, 11]
  cf := some (fileOf pool12 10 #[.nestMembers #[1103]] #[{ accessFlags := 1, nameIndex := 5, descriptorIndex := 6, attributes := #[] }, { accessFlags := 9, nameIndex := 782, descriptorIndex := 783, attributes := #[] }, { accessFlags := 0, nameIndex := 5, descriptorIndex := 211, attributes := #[] }] 49 2 #[1106, 1108, 575, 1110, 1112] #[{ accessFlags := 18, nameIndex := 13, descriptorIndex := 14, attributes := #[] }, { accessFlags := 18, nameIndex := 17, descriptorIndex := 18, attributes := #[] }, { accessFlags := 2, nameIndex := 21, descriptorIndex := 22, attributes := #[] }, { accessFlags := 2, nameIndex := 25, descriptorIndex := 26, attributes := #[] }, { accessFlags := 26, nameIndex := 1116, descriptorIndex := 1117, attributes := #[] }, { accessFlags := 24, nameIndex := 40, descriptorIndex := 26, attributes := #[] }, { accessFlags := 26, nameIndex := 1101, descriptorIndex := 1102, attributes := #[] }, { accessFlags := 26, nameIndex := 1121, descriptorIndex := 1122, attributes := #[] }, { accessFlags := 25, nameIndex := 599, descriptorIndex := 600, attributes := #[] }, { accessFlags := 24, nameIndex := 1125, descriptorIndex := 18, attributes := #[] }, { accessFlags := 24, nameIndex := 1127, descriptorIndex := 18, attributes := #[] }])
  fields := #[{ name := "value", type := (.array .byte), accessFlags := 18, slot := 0, constantValue := 0 }, { name := "coder", type := .byte, accessFlags := 18, slot := 1, constantValue := 0 }, { name := "hash", type := .int, accessFlags := 2, slot := 2, constantValue := 0 }, { name := "hashIsZero", type := .boolean, accessFlags := 2, slot := 3, constantValue := 0 }, { name := "serialVersionUID", type := .long, accessFlags := 26, slot := 0, constantValue := 0 }, { name := "COMPACT_STRINGS", type := .boolean, accessFlags := 24, slot := 1, constantValue := 0 }, { name := "serialPersistentFields", type := (.array (.object "java/io/ObjectStreamField")), accessFlags := 26, slot := 2, constantValue := 0 }, { name := "REPL", type := .char, accessFlags := 26, slot := 3, constantValue := 0 }, { name := "CASE_INSENSITIVE_ORDER", type := (.object "java/util/Comparator"), accessFlags := 25, slot := 4, constantValue := 0 }, { name := "LATIN1", type := .byte, accessFlags := 24, slot := 5, constantValue := 0 }, { name := "UTF16", type := .byte, accessFlags := 24, slot := 6, constantValue := 0 }]
  methods := #[k12m0, k12m1, k12m2]
  instanceTypes := #[(.array .byte), .byte, .int, .boolean]
  staticTypes := #[.long, .boolean, (.array (.object "java/io/ObjectStreamField")), .char, (.object "java/util/Comparator"), .byte, .byte]
  resolved := Array.replicate 1451 none
  statics := some 1 }

def pool13 : Array CpInfo := pool [(4, .class_ 6), (1, u "java/lang/Object"), (0, u "<init>"), (0, u "()V"), (5, .class_ 16), (1, u "java/lang/StringLatin1"), (73, u "canEncode"), (14, u "(C)Z"), (15, u "$assertionsDisabled"), (0, u "Z"), (98, .class_ 223), (1, u "java/lang/StringLatin1$LinesSpliterator"), (156, u "toBytes"), (1, u "(C)[B"), (7, .class_ 391), (0, u "java/lang/StringLatin1$CharsSpliterator")] 3

def k13m0 : Method := { name := "<init>", desc := "()V", sig := { parameters := [], returnType := none }, accessFlags := 0, code := none }
def k13c1 : Code := { maxStack := 2, maxLocals := 1, code := jdk_43_method_3_code, exceptionTable := #[], attributes := #[] }
def k13m1 : Method := { name := "canEncode", desc := "(C)Z", sig := { parameters := [.char], returnType := some .boolean }, accessFlags := 9, code := some k13c1 }
def k13c2 : Code := { maxStack := 4, maxLocals := 1, code := jdk_43_method_46_code, exceptionTable := #[], attributes := #[] }
def k13m2 : Method := { name := "toBytes", desc := "(C)[B", sig := { parameters := [.char], returnType := some (.array .byte) }, accessFlags := 9, code := some k13c2 }
/-- java/lang/StringLatin1 -/
def k13 : Class := { plain "java/lang/StringLatin1" (some 0) with
  accessFlags := 48
  interfaces := #[]
  cf := some (fileOf pool13 14 #[.nestMembers #[390, 221]] #[{ accessFlags := 0, nameIndex := 7, descriptorIndex := 8, attributes := #[] }, { accessFlags := 9, nameIndex := 90, descriptorIndex := 105, attributes := #[] }, { accessFlags := 9, nameIndex := 380, descriptorIndex := 382, attributes := #[] }] 48 4 #[] #[{ accessFlags := 4120, nameIndex := 121, descriptorIndex := 122, attributes := #[] }])
  fields := #[{ name := "$assertionsDisabled", type := .boolean, accessFlags := 4120, slot := 0, constantValue := 0 }]
  methods := #[k13m0, k13m1, k13m2]
  instanceTypes := #[]
  staticTypes := #[.boolean]
  resolved := Array.replicate 395 none
  statics := none }

def pool14 : Array CpInfo := pool [(2, .class_ 4), (1, u "java/lang/Object"), (0, u "<init>"), (0, u "()V"), (17, .class_ 26), (1, u "jdk/internal/util/Preconditions"), (28, .class_ 56), (0, u "jdk/internal/util/Preconditions$4"), (57, .class_ 115), (0, u "jdk/internal/util/Preconditions$1"), (7, u "SIOOBE_FORMATTER"), (0, u "Ljava/util/function/BiFunction;"), (0, .class_ 126), (0, u "jdk/internal/util/Preconditions$2"), (3, u "AIOOBE_FORMATTER"), (0, .class_ 132), (0, u "jdk/internal/util/Preconditions$3"), (3, u "IOOBE_FORMATTER")] 57

def k14m0 : Method := { name := "<init>", desc := "()V", sig := { parameters := [], returnType := none }, accessFlags := 1, code := none }
/-- jdk/internal/util/Preconditions -/
def k14 : Class := { plain "jdk/internal/util/Preconditions" (some 0) with
  accessFlags := 33
  interfaces := #[]
  cf := some (fileOf pool14 24 #[.nestMembers #[55, 131, 125, 114]] #[{ accessFlags := 1, nameIndex := 5, descriptorIndex := 6, attributes := #[] }] 33 2 #[] #[{ accessFlags := 25, nameIndex := 123, descriptorIndex := 124, attributes := #[] }, { accessFlags := 25, nameIndex := 130, descriptorIndex := 124, attributes := #[] }, { accessFlags := 25, nameIndex := 136, descriptorIndex := 124, attributes := #[] }])
  fields := #[{ name := "SIOOBE_FORMATTER", type := (.object "java/util/function/BiFunction"), accessFlags := 25, slot := 0, constantValue := 0 }, { name := "AIOOBE_FORMATTER", type := (.object "java/util/function/BiFunction"), accessFlags := 25, slot := 1, constantValue := 0 }, { name := "IOOBE_FORMATTER", type := (.object "java/util/function/BiFunction"), accessFlags := 25, slot := 2, constantValue := 0 }]
  methods := #[k14m0]
  instanceTypes := #[]
  staticTypes := #[(.object "java/util/function/BiFunction"), (.object "java/util/function/BiFunction"), (.object "java/util/function/BiFunction")]
  resolved := Array.replicate 194 none
  statics := some 2 }

def pool15 : Array CpInfo := pool [(9, u "<init>"), (6, .class_ 18), (1, u "java/lang/Object"), (0, u "()V"), (1, .class_ 23), (1, u "jdk/internal/util/ArraysSupport"), (0, u "LOG2_ARRAY_LONG_INDEX_SCALE"), (0, u "I"), (2, u "U"), (0, u "Ljdk/internal/misc/Unsafe;"), (8, u "BIG_ENDIAN"), (0, u "Z"), (8, u "LOG2_BYTE_BIT_SIZE"), (4, u "LOG2_ARRAY_INT_INDEX_SCALE"), (54, u "JLA"), (0, u "Ljdk/internal/access/JavaLangAccess;"), (11, u "LOG2_ARRAY_BOOLEAN_INDEX_SCALE"), (9, u "LOG2_ARRAY_BYTE_INDEX_SCALE"), (5, u "LOG2_ARRAY_CHAR_INDEX_SCALE"), (5, u "LOG2_ARRAY_SHORT_INDEX_SCALE"), (18, u "LOG2_ARRAY_FLOAT_INDEX_SCALE"), (24, u "LOG2_ARRAY_DOUBLE_INDEX_SCALE"), (89, u "T_BOOLEAN"), (2, u "T_CHAR"), (1, u "T_FLOAT"), (1, u "T_DOUBLE"), (1, u "T_BYTE"), (1, u "T_SHORT"), (1, u "T_INT"), (1, u "T_LONG"), (1, u "SOFT_MAX_ARRAY_LENGTH")] 83

def k15m0 : Method := { name := "<init>", desc := "()V", sig := { parameters := [], returnType := none }, accessFlags := 2, code := none }
/-- jdk/internal/util/ArraysSupport -/
def k15 : Class := { plain "jdk/internal/util/ArraysSupport" (some 0) with
  accessFlags := 33
  interfaces := #[]
  cf := some (fileOf pool15 21 #[] #[{ accessFlags := 2, nameIndex := 9, descriptorIndex := 19, attributes := #[] }] 33 16 #[] #[{ accessFlags := 24, nameIndex := 28, descriptorIndex := 29, attributes := #[] }, { accessFlags := 26, nameIndex := 38, descriptorIndex := 39, attributes := #[] }, { accessFlags := 25, nameIndex := 121, descriptorIndex := 25, attributes := #[] }, { accessFlags := 25, nameIndex := 131, descriptorIndex := 25, attributes := #[] }, { accessFlags := 25, nameIndex := 137, descriptorIndex := 25, attributes := #[] }, { accessFlags := 25, nameIndex := 143, descriptorIndex := 25, attributes := #[] }, { accessFlags := 25, nameIndex := 53, descriptorIndex := 25, attributes := #[] }, { accessFlags := 25, nameIndex := 24, descriptorIndex := 25, attributes := #[] }, { accessFlags := 25, nameIndex := 162, descriptorIndex := 25, attributes := #[] }, { accessFlags := 25, nameIndex := 187, descriptorIndex := 25, attributes := #[] }, { accessFlags := 26, nameIndex := 48, descriptorIndex := 25, attributes := #[] }, { accessFlags := 25, nameIndex := 277, descriptorIndex := 25, attributes := #[] }, { accessFlags := 25, nameIndex := 280, descriptorIndex := 25, attributes := #[] }, { accessFlags := 25, nameIndex := 282, descriptorIndex := 25, attributes := #[] }, { accessFlags := 25, nameIndex := 284, descriptorIndex := 25, attributes := #[] }, { accessFlags := 25, nameIndex := 286, descriptorIndex := 25, attributes := #[] }, { accessFlags := 25, nameIndex := 288, descriptorIndex := 25, attributes := #[] }, { accessFlags := 25, nameIndex := 290, descriptorIndex := 25, attributes := #[] }, { accessFlags := 25, nameIndex := 292, descriptorIndex := 25, attributes := #[] }, { accessFlags := 26, nameIndex := 108, descriptorIndex := 109, attributes := #[] }, { accessFlags := 25, nameIndex := 294, descriptorIndex := 25, attributes := #[] }])
  fields := #[{ name := "U", type := (.object "jdk/internal/misc/Unsafe"), accessFlags := 24, slot := 0, constantValue := 0 }, { name := "BIG_ENDIAN", type := .boolean, accessFlags := 26, slot := 1, constantValue := 0 }, { name := "LOG2_ARRAY_BOOLEAN_INDEX_SCALE", type := .int, accessFlags := 25, slot := 2, constantValue := 0 }, { name := "LOG2_ARRAY_BYTE_INDEX_SCALE", type := .int, accessFlags := 25, slot := 3, constantValue := 0 }, { name := "LOG2_ARRAY_CHAR_INDEX_SCALE", type := .int, accessFlags := 25, slot := 4, constantValue := 0 }, { name := "LOG2_ARRAY_SHORT_INDEX_SCALE", type := .int, accessFlags := 25, slot := 5, constantValue := 0 }, { name := "LOG2_ARRAY_INT_INDEX_SCALE", type := .int, accessFlags := 25, slot := 6, constantValue := 0 }, { name := "LOG2_ARRAY_LONG_INDEX_SCALE", type := .int, accessFlags := 25, slot := 7, constantValue := 0 }, { name := "LOG2_ARRAY_FLOAT_INDEX_SCALE", type := .int, accessFlags := 25, slot := 8, constantValue := 0 }, { name := "LOG2_ARRAY_DOUBLE_INDEX_SCALE", type := .int, accessFlags := 25, slot := 9, constantValue := 0 }, { name := "LOG2_BYTE_BIT_SIZE", type := .int, accessFlags := 26, slot := 10, constantValue := 0 }, { name := "T_BOOLEAN", type := .int, accessFlags := 25, slot := 11, constantValue := 0 }, { name := "T_CHAR", type := .int, accessFlags := 25, slot := 12, constantValue := 0 }, { name := "T_FLOAT", type := .int, accessFlags := 25, slot := 13, constantValue := 0 }, { name := "T_DOUBLE", type := .int, accessFlags := 25, slot := 14, constantValue := 0 }, { name := "T_BYTE", type := .int, accessFlags := 25, slot := 15, constantValue := 0 }, { name := "T_SHORT", type := .int, accessFlags := 25, slot := 16, constantValue := 0 }, { name := "T_INT", type := .int, accessFlags := 25, slot := 17, constantValue := 0 }, { name := "T_LONG", type := .int, accessFlags := 25, slot := 18, constantValue := 0 }, { name := "JLA", type := (.object "jdk/internal/access/JavaLangAccess"), accessFlags := 26, slot := 19, constantValue := 0 }, { name := "SOFT_MAX_ARRAY_LENGTH", type := .int, accessFlags := 25, slot := 20, constantValue := 0 }]
  methods := #[k15m0]
  instanceTypes := #[]
  staticTypes := #[(.object "jdk/internal/misc/Unsafe"), .boolean, .int, .int, .int, .int, .int, .int, .int, .int, .int, .int, .int, .int, .int, .int, .int, .int, .int, (.object "jdk/internal/access/JavaLangAccess"), .int]
  resolved := Array.replicate 378 none
  statics := none }

def pool16 : Array CpInfo := pool [(1, u "java/lang/Cloneable"), (0, .class_ 1), (0, u "java/lang/Object"), (0, .class_ 3)] 3

/-- java/lang/Cloneable -/
def k16 : Class := { plain "java/lang/Cloneable" (some 0) with
  accessFlags := 1537
  interfaces := #[]
  cf := some (fileOf pool16 2 #[] #[] 1537 4 #[] #[])
  fields := #[]
  methods := #[]
  instanceTypes := #[]
  staticTypes := #[]
  resolved := Array.replicate 8 none
  statics := none }

/-- the primitive byte -/
def k17 : Class := { plain "byte" none with kind := .primitive 'B', accessFlags := 0x411 }
/-- [B -/
def k18 : Class := { plain "[B" (some 0) with kind := .array 17 .byte, interfaces := #[16, 6], accessFlags := 1041 }

/-- the primitive int -/
def k19 : Class := { plain "int" none with kind := .primitive 'I', accessFlags := 0x411 }
/-- [I -/
def k20 : Class := { plain "[I" (some 0) with kind := .array 19 .int, interfaces := #[16, 6], accessFlags := 1041 }

def heap : Heap := #[{ cls := 9, slots := #[.ref 5, .ref 4, .ref 6, .ref 3, .ref 8, .ref 7, .ref 9, .null], vm := .statics 9 },
  { cls := 12, slots := #[.long 0, .int 1, .null, .int 0, .null, .int 0, .int 0], vm := .statics 12 },
  { cls := 14, slots := #[.null, .null, .null], vm := .statics 14 },
  { cls := 9, slots := #[.null, .int 3, .int 0, .null], vm := .none },
  { cls := 9, slots := #[.null, .int 1, .int 0, .null], vm := .none },
  { cls := 9, slots := #[.null, .int 0, .int 0, .null], vm := .none },
  { cls := 9, slots := #[.null, .int 2, .int 0, .null], vm := .none },
  { cls := 9, slots := #[.null, .int 5, .int 0, .null], vm := .none },
  { cls := 9, slots := #[.null, .int 4, .int 0, .null], vm := .none },
  { cls := 9, slots := #[.null, .int 6, .int 0, .null], vm := .none }]
def classes : Array Class := #[k0, k1, k2, k3, k4, k5, k6, k7, k8, k9, k10, k11, k12, k13, k14, k15, k16, k17, k18, k19, k20]
def interned : List (Array UInt16 × Addr) := []
def slotsUsed : Nat := 46
def theMethod : MethodId := ⟨1, 2⟩
def args0 : Array Value := #[.int 5, .int 9, .int 3, .int 7, .int 2, .int 6]
def aboutOver (below : List Frame) : State where
  vm := { classes := classes, interned := interned.toArray }
  heap := heap
  slotsUsed := slotsUsed
  threads := #[{ frames := .invoking theMethod args0 :: below }]
def below0 : List Frame := [.native { method := ⟨0, 0⟩, args := #[] }]
def about1 : State := aboutOver below0
def p0 : Program := .bare "" "" ""
def e0 : Env := launch0.env 0 0 0
theorem w_frames : about1.frames = Frame.invoking theMethod args0 :: below0 := rfl
set_option maxRecDepth 65536 in
theorem w_args : argsFit about1.vm theMethod args0 = true := by decide +kernel
set_option maxRecDepth 65536 in
theorem w_heap : heapFits about1 = true := by decide +kernel
set_option maxRecDepth 65536 in
theorem w_runnable : about1.curStatus? = some .runnable := by decide +kernel
set_option maxRecDepth 65536 in
theorem w_alone : about1.alone = true := by decide +kernel
set_option maxRecDepth 65536 in
theorem w_named : about1.methodNamed? x = some theMethod := by decide +kernel
set_option maxRecDepth 65536 in
theorem w_hears : about1.hears theMethod below0 = true := by decide +kernel
set_option maxRecDepth 65536 in
theorem w_ripe : about1.ripe theMethod args0 below0 = true := by decide +kernel
theorem w_running : about1.status = .running := rfl
set_option maxRecDepth 65536 in
theorem w_room : about1.hasRoom e0.platform room_1 = true :=
  launch0.hasRoom_least _ room_1 (by decide +kernel) (by decide +kernel) (by decide +kernel) (by decide +kernel) (by decide +kernel) (by decide +kernel)
theorem allAtoms_all (ts : List Jvm.Cond) (a : Array Jvm.Value) (st : Jvm.State) : (allAtoms ts).before a st = ts.all (fun c => c.before a st) := by
  induction ts with
  | nil => rfl
  | cons c t ih =>
    show (Jvm.Cond.and c (allAtoms t)).before a st = _
    rw [Jvm.Cond.before_and, ih, List.all_cons]
def words1 : List Jvm.Cond := Jvm.Cond.code x code maxLocals ret :: tables_1
/-- a 'code' word, met by the world's own term for the bytes: nothing is compared byte by byte -/
theorem code_word {y : MethodName} {bytes : ByteArray} {mx : Nat} {rt : Option FieldType} {a : Array Value} {s : State} {m : MethodId} {meth : Method} {c : Code} (h1 : s.methodNamed? y = some m) (h2 : s.vm.method? m = some meth) (h3 : meth.code = some c) (h4 : c.code = bytes)
    (h5 : (c.maxLocals == mx && c.exceptionTable.isEmpty && decide (c.maxStack ≤ mostOperands) && decide (meth.sig.returnType = rt) && !meth.locks && decide (parseMethodDescriptor y.desc = some meth.sig)) = true) : (Jvm.Cond.code y bytes mx rt).before a s = true := by
  simp only [Bool.and_eq_true, beq_iff_eq, Bool.not_eq_true', decide_eq_true_eq] at h5
  obtain ⟨⟨⟨⟨⟨g1, g2⟩, g3⟩, g4⟩, g5⟩, g6⟩ := h5
  simp [Cond.before, Cond.holds, Cond.value, h1, h2, h3, h4, g1, g2, g3, g4, g5, g6]
def isCode : Jvm.Cond → Bool
  | .code _ _ _ _ => true
  | _ => false
theorem all_split {L : List Jvm.Cond} {P : Jvm.Cond → Bool} (h1 : L.all (fun c => isCode c || P c) = true) (h2 : ∀ c ∈ L.filter isCode, P c = true) : L.all P = true := by
  refine List.all_eq_true.mpr fun c hc => ?_
  have h := List.all_eq_true.mp h1 c hc
  rcases Bool.eq_false_or_eq_true (isCode c) with hi | hi
  · exact h2 c (List.mem_filter.mpr ⟨hc, hi⟩)
  · simpa [hi] using h
set_option maxRecDepth 65536 in
theorem w_c0 : (Jvm.Cond.code x code maxLocals ret).before args0 about1 = true := code_word (m := ⟨1, 2⟩) (meth := k1m2) (c := k1c2) (by decide +kernel) rfl rfl rfl (by decide +kernel)
set_option maxRecDepth 65536 in
theorem w_c1 : (Jvm.Cond.code ({ cls := "com/example/drain_warden/drainwarden/model/SaverStateEqualsPinLaw", name := "reason", desc := "(I)Lcom/example/drain_warden/drainwarden/model/SaverState$Reason;" } : Jvm.MethodName) method_2_code (1 : Nat) (Option.some (Jvm.ClassFile.FieldType.object "com/example/drain_warden/drainwarden/model/SaverState$Reason"))).before args0 about1 = true := code_word (m := ⟨1, 1⟩) (meth := k1m1) (c := k1c1) (by decide +kernel) rfl rfl rfl (by decide +kernel)
set_option maxRecDepth 65536 in
theorem w_c2 : (Jvm.Cond.code ({ cls := "com/example/drain_warden/drainwarden/model/SaverState", name := "<init>", desc := "(ZLcom/example/drain_warden/drainwarden/model/SaverState$Reason;)V" } : Jvm.MethodName) prog_32_method_1_code (3 : Nat) (Option.none : Option Jvm.ClassFile.FieldType)).before args0 about1 = true := code_word (m := ⟨3, 0⟩) (meth := k3m0) (c := k3c0) (by decide +kernel) rfl rfl rfl (by decide +kernel)
set_option maxRecDepth 65536 in
theorem w_c3 : (Jvm.Cond.code ({ cls := "java/lang/Record", name := "<init>", desc := "()V" } : Jvm.MethodName) jdk_30_method_1_code (1 : Nat) (Option.none : Option Jvm.ClassFile.FieldType)).before args0 about1 = true := code_word (m := ⟨2, 0⟩) (meth := k2m0) (c := k2c0) (by decide +kernel) rfl rfl rfl (by decide +kernel)
set_option maxRecDepth 65536 in
theorem w_c4 : (Jvm.Cond.code ({ cls := "java/lang/Object", name := "<init>", desc := "()V" } : Jvm.MethodName) object_method_1_code (1 : Nat) (Option.none : Option Jvm.ClassFile.FieldType)).before args0 about1 = true := code_word (m := ⟨0, 0⟩) (meth := k0m0) (c := k0c0) (by decide +kernel) rfl rfl rfl (by decide +kernel)
set_option maxRecDepth 65536 in
theorem w_c5 : (Jvm.Cond.code ({ cls := "com/example/drain_warden/drainwarden/model/SaverState", name := "equals", desc := "(Ljava/lang/Object;)Z" } : Jvm.MethodName) prog_32_method_2_code (3 : Nat) (Option.some Jvm.ClassFile.FieldType.boolean)).before args0 about1 = true := code_word (m := ⟨3, 1⟩) (meth := k3m1) (c := k3c1) (by decide +kernel) rfl rfl rfl (by decide +kernel)
set_option maxRecDepth 65536 in
theorem w_c6 : (Jvm.Cond.code ({ cls := "java/lang/String", name := "valueOf", desc := "(C)Ljava/lang/String;" } : Jvm.MethodName) jdk_42_method_139_code (1 : Nat) (Option.some (Jvm.ClassFile.FieldType.object "java/lang/String"))).before args0 about1 = true := code_word (m := ⟨12, 1⟩) (meth := k12m1) (c := k12c1) (by decide +kernel) rfl rfl rfl (by decide +kernel)
set_option maxRecDepth 65536 in
theorem w_c7 : (Jvm.Cond.code ({ cls := "java/lang/StringLatin1", name := "canEncode", desc := "(C)Z" } : Jvm.MethodName) jdk_43_method_3_code (1 : Nat) (Option.some Jvm.ClassFile.FieldType.boolean)).before args0 about1 = true := code_word (m := ⟨13, 1⟩) (meth := k13m1) (c := k13c1) (by decide +kernel) rfl rfl rfl (by decide +kernel)
set_option maxRecDepth 65536 in
theorem w_c8 : (Jvm.Cond.code ({ cls := "java/lang/StringLatin1", name := "toBytes", desc := "(C)[B" } : Jvm.MethodName) jdk_43_method_46_code (1 : Nat) (Option.some (Jvm.ClassFile.FieldType.array Jvm.ClassFile.FieldType.byte))).before args0 about1 = true := code_word (m := ⟨13, 2⟩) (meth := k13m2) (c := k13c2) (by decide +kernel) rfl rfl rfl (by decide +kernel)
set_option maxRecDepth 65536 in
theorem w_c9 : (Jvm.Cond.code ({ cls := "java/lang/String", name := "<init>", desc := "([BB)V" } : Jvm.MethodName) jdk_42_method_151_code (3 : Nat) (Option.none : Option Jvm.ClassFile.FieldType)).before args0 about1 = true := code_word (m := ⟨12, 2⟩) (meth := k12m2) (c := k12c2) (by decide +kernel) rfl rfl rfl (by decide +kernel)
def codes1 : List Jvm.Cond := [Jvm.Cond.code x code maxLocals ret, Jvm.Cond.code ({ cls := "com/example/drain_warden/drainwarden/model/SaverStateEqualsPinLaw", name := "reason", desc := "(I)Lcom/example/drain_warden/drainwarden/model/SaverState$Reason;" } : Jvm.MethodName) method_2_code (1 : Nat) (Option.some (Jvm.ClassFile.FieldType.object "com/example/drain_warden/drainwarden/model/SaverState$Reason")), Jvm.Cond.code ({ cls := "com/example/drain_warden/drainwarden/model/SaverState", name := "<init>", desc := "(ZLcom/example/drain_warden/drainwarden/model/SaverState$Reason;)V" } : Jvm.MethodName) prog_32_method_1_code (3 : Nat) (Option.none : Option Jvm.ClassFile.FieldType), Jvm.Cond.code ({ cls := "java/lang/Record", name := "<init>", desc := "()V" } : Jvm.MethodName) jdk_30_method_1_code (1 : Nat) (Option.none : Option Jvm.ClassFile.FieldType), Jvm.Cond.code ({ cls := "java/lang/Object", name := "<init>", desc := "()V" } : Jvm.MethodName) object_method_1_code (1 : Nat) (Option.none : Option Jvm.ClassFile.FieldType), Jvm.Cond.code ({ cls := "com/example/drain_warden/drainwarden/model/SaverState", name := "equals", desc := "(Ljava/lang/Object;)Z" } : Jvm.MethodName) prog_32_method_2_code (3 : Nat) (Option.some Jvm.ClassFile.FieldType.boolean), Jvm.Cond.code ({ cls := "java/lang/String", name := "valueOf", desc := "(C)Ljava/lang/String;" } : Jvm.MethodName) jdk_42_method_139_code (1 : Nat) (Option.some (Jvm.ClassFile.FieldType.object "java/lang/String")), Jvm.Cond.code ({ cls := "java/lang/StringLatin1", name := "canEncode", desc := "(C)Z" } : Jvm.MethodName) jdk_43_method_3_code (1 : Nat) (Option.some Jvm.ClassFile.FieldType.boolean), Jvm.Cond.code ({ cls := "java/lang/StringLatin1", name := "toBytes", desc := "(C)[B" } : Jvm.MethodName) jdk_43_method_46_code (1 : Nat) (Option.some (Jvm.ClassFile.FieldType.array Jvm.ClassFile.FieldType.byte)), Jvm.Cond.code ({ cls := "java/lang/String", name := "<init>", desc := "([BB)V" } : Jvm.MethodName) jdk_42_method_151_code (3 : Nat) (Option.none : Option Jvm.ClassFile.FieldType)]
set_option maxRecDepth 65536 in
theorem codes_eq : words1.filter isCode = codes1 := rfl
theorem w_codes : ∀ c ∈ words1.filter isCode, c.before args0 about1 = true := by
  rw [codes_eq]
  intro c hc
  simp only [codes1, List.mem_cons, List.not_mem_nil, or_false] at hc
  rcases hc with rfl | rfl | rfl | rfl | rfl | rfl | rfl | rfl | rfl | rfl
  · exact w_c0
  · exact w_c1
  · exact w_c2
  · exact w_c3
  · exact w_c4
  · exact w_c5
  · exact w_c6
  · exact w_c7
  · exact w_c8
  · exact w_c9
set_option maxRecDepth 65536 in
theorem w_t1 : (words1.take 24).all (fun c => isCode c || c.before args0 about1) = true := by decide +kernel
set_option maxRecDepth 65536 in
theorem w_t2 : ((words1.drop 24).take 24).all (fun c => isCode c || c.before args0 about1) = true := by decide +kernel
set_option maxRecDepth 65536 in
theorem w_t3 : (((words1.drop 24).drop 24).take 24).all (fun c => isCode c || c.before args0 about1) = true := by decide +kernel
set_option maxRecDepth 65536 in
theorem w_t4 : (((words1.drop 24).drop 24).drop 24).all (fun c => isCode c || c.before args0 about1) = true := by decide +kernel
theorem w_tables : (allAtoms (Jvm.Cond.code x code maxLocals ret :: tables_1)).before args0 about1 = true := by
  rw [allAtoms_all]
  show words1.all (fun c => c.before args0 about1) = true
  refine all_split ?_ w_codes
  rw [← List.take_append_drop 24 words1, List.all_append, w_t1, ← List.take_append_drop 24 (words1.drop 24), List.all_append, w_t2, ← List.take_append_drop 24 ((words1.drop 24).drop 24), List.all_append, w_t3, w_t4]
  rfl
set_option maxRecDepth 65536 in
theorem w_rest : rest_1_c.before args0 about1 = true := by decide +kernel
set_option maxRecDepth 65536 in
theorem w_case : (Jvm.Cond.and given_1 narrow_1).before args0 about1 = true := by decide +kernel
theorem w_applies : (headSpec (Jvm.Cond.code x code maxLocals ret :: tables_1) room_1).applies x e0.platform about1 = true :=
  (Spec.applies_iff w_frames).mpr ⟨w_running, w_runnable, w_alone, w_named, w_hears, w_ripe, w_room, w_tables⟩
theorem atStart : AtStart classFile x code maxLocals ret World_1 tables_1 room_1 Calls_1 rest_1 Pre_1 launch0 p0 e0 about1 theMethod args0 below0 :=
  ⟨lists_1, trivial, launch0.admits_env _ _ _, launch0.least_env, fairChoices_fair.cas, fairChoices_fair.clock, w_frames, w_args, w_heap, w_applies, trivial, w_rest, w_case⟩
end start1
theorem witness_1 : WitnessClaimed_1 := ⟨start1.p0, start1.e0, start1.about1, start1.theMethod, start1.args0, start1.below0, start1.atStart⟩
end Jvm.Pilot.@@N@@
