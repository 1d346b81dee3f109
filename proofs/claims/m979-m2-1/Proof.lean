import JvmDerived
import JvmDerived.Pilot.@@N@@Statement
import JvmDerived.Pilot.@@N@@Code
set_option linter.unusedVariables false
set_option linter.unusedSimpArgs false
namespace Jvm.OwnGo
open Sem ClassFile Op Lib Jvm.Stand Jvm.Free Jvm.LawKit Jvm.RoadKit
section Own
variable {p : Program} {l : Launch} {e : Env} {R : Room} {s : State} {m : MethodId} {args : Array Value} {below : List Frame} {meth : Method} {c : Code} {T T' : State} {locs : List Loc} {cells slots : Nat} {P : Outcome → State → Prop} {g g' : JFrame} {Z : State} {h : Heap}
/-- from where the walk stands (the state T, the frame g) it ends well -/
def Go (p : Program) (e : Env) (below : List Frame) (P : Outcome → State → Prop) (T : State) (g : JFrame) : Prop :=
  ∃ s₂ o, Steps p.tables e below (T.setTop g) s₂ ∧ s₂.status = .running ∧ Ended s₂ below o ∧ P o s₂
/-- what a contract asks of the end -/
abbrev PQ (s : State) (C S : Nat) (Q : Option Value → Heap → List Loc → Prop) : Outcome → State → Prop := fun o U' => ∃ v L, o = .returned v ∧ Q v U'.heap L ∧ FrameEnd s o U' L C S
theorem goS {n : Nat} {Ls' : Array Slot} {st' : List Value} (k : ∀ t, Steps p.tables e below (T'.setTop (mkF m n Ls' st')) t → Steps p.tables e below (T.setTop g) t) (h : Go p e below P T' (mkF m n Ls' st')) : Go p e below P T g := by
  obtain ⟨s2, o, h1, h2⟩ := h; exact ⟨s2, o, k _ h1, h2⟩
theorem goT {n : Nat} {Ls' : Array Slot} {st' : List Value} (k : Steps p.tables e below (T.setTop g) (T'.setTop (mkF m n Ls' st'))) (h : Go p e below P T' (mkF m n Ls' st')) : Go p e below P T g := by
  obtain ⟨s2, o, h1, h2⟩ := h; exact ⟨s2, o, k.trans h1, h2⟩
theorem enter (q : entryFrame m args n = g) (h : Go p e below P T g) : ∃ s₂ o, Steps p.tables e below (T.setTop (entryFrame m args n)) s₂ ∧ s₂.status = .running ∧ Ended s₂ below o ∧ P o s₂ := by
  rw [q]; exact h
theorem goRet {Q : Option Value → Heap → List Loc → Prop} {C S : Nat} (X : Stand p l e R s m args below meth c T locs cells slots) (hx : p.tables.exec = Jvm.exec) (hlk : meth.locks = false) {pc : Nat} {Ls : Array Slot} {w : Value} {t : FieldType} {i : Instr} {rest : List Value} (hret : meth.sig.returnType = some t) (hn : narrow t w = w)
    (hi : (i = .ireturn ∧ (t = .int ∨ t = .boolean ∨ t = .byte ∨ t = .char ∨ t = .short) ∧ ∃ z, w = .int z) ∨ (i = .lreturn ∧ t = .long ∧ ∃ z, w = .long z) ∨ (i = .dreturn ∧ t = .double ∧ ∃ z, w = .double z) ∨ (i = .freturn ∧ t = .float ∧ ∃ z, w = .float z) ∨ (i = .areturn ∧ t.isReference = true ∧ w.isRef = true))
    (hd : decode c.code pc = .ok (i, 1)) (hC : cells ≤ C) (hS : slots ≤ S) (hQ : Q (some w) T.heap locs) : Go p e below (PQ s C S Q) T (mkF m pc Ls (w :: rest)) := by
  obtain ⟨fs, hr, hrun, hended, hW, hsame⟩ := X.leave (v := some w) (fun h => by rw [hret] at h; cases h) hlk
  exact ⟨_, _, retOut X hx hret hn hi hd hr, hrun, hended, _, _, rfl, hQ, ⟨_, rfl⟩, hW, hsame.mono hC hS⟩
theorem goRetI {Q : Option Value → Heap → List Loc → Prop} {C S : Nat} (X : Stand p l e R s m args below meth c T locs cells slots) (hx : p.tables.exec = Jvm.exec) (hlk : meth.locks = false) {pc : Nat} {Ls : Array Slot} {z : Int32} {rest : List Value} (hret : meth.sig.returnType = some .int) (hd : decode c.code pc = .ok (.ireturn, 1)) (hC : cells ≤ C) (hS : slots ≤ S) (hQ : Q (some (.int z)) T.heap locs) : Go p e below (PQ s C S Q) T (mkF m pc Ls (.int z :: rest)) :=
  goRet X hx hlk hret rfl (Or.inl ⟨rfl, Or.inl rfl, _, rfl⟩) hd hC hS hQ
theorem goRetZ {Q : Option Value → Heap → List Loc → Prop} {C S : Nat} (X : Stand p l e R s m args below meth c T locs cells slots) (hx : p.tables.exec = Jvm.exec) (hlk : meth.locks = false) {pc : Nat} {Ls : Array Slot} {z : Int32} {rest : List Value} (hret : meth.sig.returnType = some .boolean) (hz : z = 0 ∨ z = 1) (hd : decode c.code pc = .ok (.ireturn, 1)) (hC : cells ≤ C) (hS : slots ≤ S) (hQ : Q (some (.int z)) T.heap locs) : Go p e below (PQ s C S Q) T (mkF m pc Ls (.int z :: rest)) :=
  goRet X hx hlk hret (by rcases hz with rfl | rfl <;> rfl) (Or.inl ⟨rfl, Or.inr (Or.inl rfl), _, rfl⟩) hd hC hS hQ
theorem goRetJ {Q : Option Value → Heap → List Loc → Prop} {C S : Nat} (X : Stand p l e R s m args below meth c T locs cells slots) (hx : p.tables.exec = Jvm.exec) (hlk : meth.locks = false) {pc : Nat} {Ls : Array Slot} {z : Int64} {rest : List Value} (hret : meth.sig.returnType = some .long) (hd : decode c.code pc = .ok (.lreturn, 1)) (hC : cells ≤ C) (hS : slots ≤ S) (hQ : Q (some (.long z)) T.heap locs) : Go p e below (PQ s C S Q) T (mkF m pc Ls (.long z :: rest)) :=
  goRet X hx hlk hret rfl (Or.inr (Or.inl ⟨rfl, rfl, _, rfl⟩)) hd hC hS hQ
theorem goRetA {Q : Option Value → Heap → List Loc → Prop} {C S : Nat} (X : Stand p l e R s m args below meth c T locs cells slots) (hx : p.tables.exec = Jvm.exec) (hlk : meth.locks = false) {pc : Nat} {Ls : Array Slot} {w : Value} {t : FieldType} {rest : List Value} (hret : meth.sig.returnType = some t) (ht : t.isReference = true) (hw : w.isRef = true) (hd : decode c.code pc = .ok (.areturn, 1)) (hC : cells ≤ C) (hS : slots ≤ S) (hQ : Q (some w) T.heap locs) : Go p e below (PQ s C S Q) T (mkF m pc Ls (w :: rest)) :=
  goRet X hx hlk hret (by cases t <;> first | rfl | cases ht) (Or.inr (Or.inr (Or.inr (Or.inr ⟨rfl, ht, hw⟩)))) hd hC hS hQ
theorem goRetV {Q : Option Value → Heap → List Loc → Prop} {C S : Nat} (X : Stand p l e R s m args below meth c T locs cells slots) (hx : p.tables.exec = Jvm.exec) (hlk : meth.locks = false) {pc : Nat} {Ls : Array Slot} (hret : meth.sig.returnType = none) (hd : decode c.code pc = .ok (.return_, 1)) (hC : cells ≤ C) (hS : slots ≤ S) (hQ : Q none T.heap locs) : Go p e below (PQ s C S Q) T (mkF m pc Ls []) := by
  obtain ⟨fs, hr, hrun, hended, hW, hsame⟩ := X.leave (v := none) (fun _ => rfl) hlk
  exact ⟨_, _, X.returnOut hx hret hd hr, hrun, hended, _, _, rfl, hQ, ⟨_, rfl⟩, hW, hsame.mono hC hS⟩
abbrev PQW (s : State) (C S : Nat) (Q : Option Value → Heap → List Loc → Prop) : Outcome → State → Prop := fun o U' => ∃ v L, o = .returned v ∧ Q v U'.heap L ∧ ReturnedEndW s o U' L C S
theorem goRetW {Q : Option Value → Heap → List Loc → Prop} {C S : Nat} {vm₁ : Vm} (X : Stand p l e R (s.setVm vm₁) m args below meth c T locs cells slots) (hx : p.tables.exec = Jvm.exec) (hlk : meth.locks = false) {n : Nat} (hS : s.Since vm₁ n) (hn0 : n ≤ T.heap.size) {pc : Nat} {Ls : Array Slot} {w : Value} {t : FieldType} {i : Instr} {rest : List Value} (hret : meth.sig.returnType = some t) (hn : narrow t w = w)
    (hi : (i = .ireturn ∧ (t = .int ∨ t = .boolean ∨ t = .byte ∨ t = .char ∨ t = .short) ∧ ∃ z, w = .int z) ∨ (i = .lreturn ∧ t = .long ∧ ∃ z, w = .long z) ∨ (i = .dreturn ∧ t = .double ∧ ∃ z, w = .double z) ∨ (i = .freturn ∧ t = .float ∧ ∃ z, w = .float z) ∨ (i = .areturn ∧ t.isReference = true ∧ w.isRef = true))
    (hd : decode c.code pc = .ok (i, 1)) (hC : cells ≤ C) (hSl : slots ≤ S) (hQ : Q (some w) T.heap locs) : Go p e below (PQW s C S Q) T (mkF m pc Ls (w :: rest)) := by
  obtain ⟨fs, hr, hrun, hended, h1, h2, h3, h4⟩ := X.leaveW hS hn0 (v := some w) (fun h => by rw [hret] at h; cases h) hlk
  exact ⟨_, _, retOut X hx hret hn hi hd hr, hrun, hended, _, _, rfl, hQ, ⟨_, rfl⟩, h2, h3, h4.mono hC hSl⟩
theorem goRetVW {Q : Option Value → Heap → List Loc → Prop} {C S : Nat} {vm₁ : Vm} (X : Stand p l e R (s.setVm vm₁) m args below meth c T locs cells slots) (hx : p.tables.exec = Jvm.exec) (hlk : meth.locks = false) {n : Nat} (hS : s.Since vm₁ n) (hn0 : n ≤ T.heap.size) {pc : Nat} {Ls : Array Slot} (hret : meth.sig.returnType = none) (hd : decode c.code pc = .ok (.return_, 1)) (hC : cells ≤ C) (hSl : slots ≤ S) (hQ : Q none T.heap locs) : Go p e below (PQW s C S Q) T (mkF m pc Ls []) := by
  obtain ⟨fs, hr, hrun, hended, h1, h2, h3, h4⟩ := X.leaveW hS hn0 (v := none) (fun _ => rfl) hlk
  exact ⟨_, _, X.returnOut hx hret hd hr, hrun, hended, _, _, rfl, hQ, ⟨_, rfl⟩, h2, h3, h4.mono hC hSl⟩
abbrev PQH (Z : State) (EL : List (String × Nat)) (s : State) (C S : Nat) (Q : Option Value → Heap → List Loc → Prop) : Outcome → State → Prop := fun o U' => ∃ v L, o = .returned v ∧ Q v U'.heap L ∧ CHr Z EL s.vm s.heap U'.vm U'.heap ∧ ReturnedEndW s o U' L C S
theorem goRetH {Q : Option Value → Heap → List Loc → Prop} {C S : Nat} {vm₁ : Vm} {EL : List (String × Nat)} {a0 : Array Value} (X : Stand p l e R (s.setVm vm₁) m args below meth c T locs cells slots) (hx : p.tables.exec = Jvm.exec) (hlk : meth.locks = false) {n : Nat} (hS : s.Since vm₁ n) (hn0 : n ≤ T.heap.size) (hZ : Z.Warmed39 vm₁) (hEL : EW Z a0 EL) (hC' : CHr Z EL s.vm s.heap vm₁ T.heap) {pc : Nat} {Ls : Array Slot} {w : Value} {t : FieldType} {i : Instr} {rest : List Value} (hret : meth.sig.returnType = some t) (hn : narrow t w = w)
    (hi : (i = .ireturn ∧ (t = .int ∨ t = .boolean ∨ t = .byte ∨ t = .char ∨ t = .short) ∧ ∃ z, w = .int z) ∨ (i = .lreturn ∧ t = .long ∧ ∃ z, w = .long z) ∨ (i = .dreturn ∧ t = .double ∧ ∃ z, w = .double z) ∨ (i = .freturn ∧ t = .float ∧ ∃ z, w = .float z) ∨ (i = .areturn ∧ t.isReference = true ∧ w.isRef = true))
    (hd : decode c.code pc = .ok (i, 1)) (hC : cells ≤ C) (hSl : slots ≤ S) (hQ : Q (some w) T.heap locs) : Go p e below (PQH Z EL s C S Q) T (mkF m pc Ls (w :: rest)) := by
  obtain ⟨fs, hr, hrun, hended, h1, h2, h3, h4⟩ := X.leaveW hS hn0 (v := some w) (fun h => by rw [hret] at h; cases h) hlk
  have qC : CHr Z EL s.vm s.heap T.vm T.heap := hC'.trans (CHv.at X hZ hEL hC'.1)
  exact ⟨_, _, retOut X hx hret hn hi hd hr, hrun, hended, _, _, rfl, hQ, qC, ⟨_, rfl⟩, h2, h3, h4.mono hC hSl⟩
theorem goRetVH {Q : Option Value → Heap → List Loc → Prop} {C S : Nat} {vm₁ : Vm} {EL : List (String × Nat)} {a0 : Array Value} (X : Stand p l e R (s.setVm vm₁) m args below meth c T locs cells slots) (hx : p.tables.exec = Jvm.exec) (hlk : meth.locks = false) {n : Nat} (hS : s.Since vm₁ n) (hn0 : n ≤ T.heap.size) (hZ : Z.Warmed39 vm₁) (hEL : EW Z a0 EL) (hC' : CHr Z EL s.vm s.heap vm₁ T.heap) {pc : Nat} {Ls : Array Slot} (hret : meth.sig.returnType = none) (hd : decode c.code pc = .ok (.return_, 1)) (hC : cells ≤ C) (hSl : slots ≤ S) (hQ : Q none T.heap locs) : Go p e below (PQH Z EL s C S Q) T (mkF m pc Ls []) := by
  obtain ⟨fs, hr, hrun, hended, h1, h2, h3, h4⟩ := X.leaveW hS hn0 (v := none) (fun _ => rfl) hlk
  have qC : CHr Z EL s.vm s.heap T.vm T.heap := hC'.trans (CHv.at X hZ hEL hC'.1)
  exact ⟨_, _, X.returnOut hx hret hd hr, hrun, hended, _, _, rfl, hQ, qC, ⟨_, rfl⟩, h2, h3, h4.mono hC hSl⟩
/-- a String under construction (its value is null) is no booked one -/
theorem safeNull {vm : Vm} {EL : List (String × Nat)} {a : Addr} (hal : Z.vm.Alike vm) (E : Exa Z h a "java/lang/String") (F : Fld Z h a "java/lang/String" "value" "[B" .null) : Safe Z EL vm h a := fun B => by
  obtain ⟨cell, cf, k, i, f, f1, f2, f3, f4, f5, f6, f7⟩ := F
  obtain ⟨cell', k', e1, e2, e3, -, -⟩ := E
  cases f1.symm.trans e1
  obtain ⟨p, -, u, a', -, q, -, F', rfl | rfl⟩ := B
  · have ha := F'.ha
    cases (show h[q.sa]? = some q.sC from ha).symm.trans f1
    obtain ⟨cS, ⟨⟨-, -, -, ⟨cv, kv, iv, s4, -⟩, -, -, -, s8, -⟩, -⟩, -⟩ := F'
    obtain ⟨kv', z4⟩ := ff_back (U := Wst Z vm h) hal s4
    cases f2.symm.trans z4
    rw [f7] at s8
    cases s8
  · have hd := F'.hd
    cases (show h[q.sd]? = some q.SA from hd).symm.trans f1
    obtain ⟨cS, -, -, hB, -⟩ := F'
    have hB' : Z.vm.findClass "[B" = some q.SA.cls := by rw [← hal.findClass]; exact hB
    obtain ⟨k1, q1, q2⟩ := Vm.findClass_spec hB'
    obtain ⟨k2, q3, q4⟩ := Vm.findClass_spec e2
    cases q1.symm.trans q3
    exact absurd (q2.symm.trans q4) (by decide)
theorem mvMN {a0 args : Array Value} {own host : String} {y : MethodName} {index : Nat} (hZ : Z.Warmed39 s.vm) (w : (Cond.methodLinkNest own index y host).before a0 Z = true) : (Cond.methodLinkNest own index y host).before args s = true := (Cond.methodLinkNest_wide hZ w :)
theorem shr0 (z : Int32) : z >>> ((0 : Int32) &&& 31) = z := by
  have h := c_ishr z 0 0 (by decide)
  exact Int32.toInt_inj.mp (by rw [h]; omega)
theorem narZ {z : Int32} (hz : z = 0 ∨ z = 1) : narrow .boolean (.int z) = .int z := by rcases hz with rfl | rfl <;> rfl
theorem fldStart {args : Array Value} {t : Term} {C n d : String} {a : Addr} {k : Int32} (ht : t.eval args Z none [] Z = some (.ref a)) (h : (Cond.eq (Term.field t C n d) (.int k)).value args Z none Z [] = some true) : Fld Z Z.heap a C n d (.int k) := by
  obtain ⟨x, y, e1, e2, k1, k2⟩ := cmp_v (Or.inl h)
  rw [Term.int_eval] at e2
  cases e2
  obtain ⟨z, rfl⟩ := k2
  have e3 := e1
  rw [fld_at ht] at e3
  have q : z = k := by simpa [Cond.value, e1, Term.int_eval] using h
  subst q
  exact Fld.start e3
def bi (P : Prop) [Decidable P] : Int32 := if P then 1 else 0
theorem bi_t {P : Prop} [Decidable P] (h : P) : bi P = 1 := if_pos h
theorem bi_f {P : Prop} [Decidable P] (h : ¬ P) : bi P = 0 := if_neg h
theorem bi01 (P : Prop) [Decidable P] : bi P = 0 ∨ bi P = 1 := by unfold bi; split <;> simp
theorem modk (x k : Int32) (K : Int) (hk : k.toInt = K) : 0 < K → 0 ≤ ((x &&& 2147483647) % k).toInt ∧ ((x &&& 2147483647) % k).toInt < K := by
  intro h0
  have h1 := c_mask x 2147483647 31 (by decide) (by decide)
  have h2 : 0 ≤ (x &&& 2147483647).toInt := by rw [h1]; omega
  have h3 := (c_irem (x &&& 2147483647) k K hk).1 h2
  rw [h3]
  exact ⟨Int.emod_nonneg _ (by omega), Int.emod_lt_of_pos _ h0⟩
/-- an index: a natural below n -/
theorem idx {i : Int32} {n : Nat} (h : 0 ≤ i.toInt ∧ i.toInt < (n : Int)) : ∃ k : Nat, k < n ∧ i.toInt = (k : Int) ∧ i.toNatClampNeg = k ∧ ¬ i < 0 := by
  have h0 : ¬ i < 0 := by rw [Int32.lt_iff_toInt_lt]; show ¬ i.toInt < 0; omega
  have h1 := nat_of h0
  exact ⟨i.toNatClampNeg, by omega, h1, rfl, h0⟩
theorem lsw {target : State} (X : Stand p l e R s m args below meth c T locs cells slots) (hx : p.tables.exec = Jvm.exec) (hg : g.method = m) {dflt : Int} {pairs : Array (Int × Int)} {len pc0 pc' : Nat} (hpc : g.pc = pc0) {o : Int} {i : Int32} {rest : List Value} (hd : decode c.code g.pc = .ok (.lookupswitch dflt pairs, len)) (hs : g.stack = .int i :: rest)
    (hord : ∀ (a b a_1 b_1 : Int), ((a, b), a_1, b_1) ∈ pairs.toList.zip pairs.toList.tail → a < a_1) (hf : (∃ kk, pairs.find? (·.1 == i.toInt) = some (kk, o)) ∨ (pairs.find? (·.1 == i.toInt) = none ∧ o = dflt)) (h0 : 0 ≤ (pc0 : Int) + o) (hp : ((pc0 : Int) + o).toNat = pc')
    (hr : Steps p.tables e below (T.setTop { g with pc := pc', stack := rest }) target) : Steps p.tables e below (T.setTop g) target := by
  subst hg hpc hp
  rcases hf with ⟨kk, hf⟩ | ⟨hf, rfl⟩
  · jvm_step X.here [X.here.top, hx, hd, hs, hf, h0, lookupswitch.wp_whole]
    exact ⟨hord, hr⟩
  · jvm_step X.here [X.here.top, hx, hd, hs, hf, h0, lookupswitch.wp_whole]
    exact ⟨hord, hr⟩
theorem ieq {x k : Int32} {n K : Nat} (hx : x.toInt = (n : Int)) (hk : k.toInt = (K : Int)) : x = k ↔ n = K := by rw [← Int32.toInt_inj, hx, hk]; omega
theorem lenStart {args : Array Value} {t : Term} {a : Addr} {cl : Cell} {ty : FieldType} {z : Int32} (ht : t.eval args Z none [] Z = some (.ref a)) (A : Arr Z Z.heap a cl ty) (h : (Term.length t).eval args Z none [] Z = some (.int z)) : cl.slots.size < 2 ^ 31 ∧ cl.slots.size.toInt32 = z := by
  have ha := A.fin (U := Z) (Vm.Alike.refl _)
  by_cases q : cl.slots.size < 2 ^ 31
  · refine ⟨q, ?_⟩
    rw [len_f ht ha q] at h
    exact Value.int.inj (Option.some.inj h)
  · simp [Term.eval, ht, ha, q] at h
theorem subIdx {args : Array Value} {j : Int32} (hj : ¬ j < 0) (k : Int32) : (Term.sub (.index 0) (.int k)).eval args Z none [j.toNatClampNeg] Z = some (.int (j - k)) := Term.sub_int (idx_at hj) (Term.int_eval _)
theorem bi_iff {P Q : Prop} [Decidable P] [Decidable Q] (h : P ↔ Q) : bi P = bi Q := by unfold bi; simp only [h]
theorem cacheIdx {x : Int32} {n : Nat} (h1 : ¬ x < (-128 : Int32)) (h2 : ¬ (127 : Int32) < x) (hn : n = (256 : Int32).toNatClampNeg) : ¬ (x + (128 : Int32) < 0 ∨ n ≤ (x + (128 : Int32)).toNatClampNeg) := by
  rw [Int32.lt_iff_toInt_lt] at h1 h2
  have a1 : ¬ x.toInt < -128 := h1
  have a2 : ¬ (127 : Int) < x.toInt := h2
  have q0 : (128 : Int32).toInt = 128 := rfl
  have q := c_iadd x 128
  have r := rng32 (x + 128)
  rw [q0] at q
  have e1 : (x + (128 : Int32)).toInt = x.toInt + 128 := by omega
  have e2 : ¬ x + (128 : Int32) < 0 := by rw [Int32.lt_iff_toInt_lt]; show ¬ _ < (0 : Int); omega
  have e3 := nat_of e2
  have e4 : n = 256 := hn
  rintro (h | h)
  · exact e2 h
  · omega
theorem nsRoot {a0 : Array Value} {O K : String} {n : Nat} (w : (Cond.noSuperclass O).before a0 Z = true) (wk : (Cond.instantiable K n).before a0 Z = true) (hn : O ≠ K) : NS Z O K := by
  obtain ⟨c, k, h1, h2, h3, -, -⟩ := Cond.noSuperclass_spec w
  obtain ⟨t, kt, g1, -⟩ := Cond.instantiable_spec wk
  have ne := ids_ne h1 g1 hn
  refine ⟨c, t, h1, g1, fun fuel => ?_⟩
  cases fuel with
  | zero => rfl
  | succ f => simp [Vm.isSubclassAux, ne, h2, h3]
theorem nsNo {a0 : Array Value} {C S K : String} {n : Nat} (w : (Cond.superclass C S).before a0 Z = true) (wk : (Cond.instantiable K n).before a0 Z = true) (q : NS Z C K) (hn : C ≠ K) : ∃ c t, Z.vm.findClass C = some c ∧ Z.vm.findClass K = some t ∧ Z.vm.assignable c t = false := by
  obtain ⟨c, t, h0, g0, n3⟩ := q
  obtain ⟨p, k, kp, h1, h2, h3, h4, h5, -, h7⟩ := Cond.superclass_spec h0 w
  obtain ⟨t', k', g1, g2, g5, g7, -⟩ := Cond.instantiable_spec wk
  cases g0.symm.trans g1
  have g8 := (Bool.or_eq_false_iff.mp g7).1
  have ne := ids_ne h0 g0 hn
  refine ⟨c, t, h0, g0, ?_⟩
  show Z.vm.assignableAux (255 + 1) c t = false
  simp [Vm.assignableAux, ne, h2, g2, h5, g5, g8, Vm.isSubclass, n3]
theorem ne_key {x k : Int32} {K : Int} (h : ¬ x = k) (hk : k.toInt = K) : K ≠ x.toInt := fun q => h (Int32.toInt_inj.mp (by rw [hk]; exact q.symm))
end Own
end Jvm.OwnGo

namespace Jvm.Pilot.@@N@@
open Jvm Jvm.ClassFile Sem Op Lib Jvm.Free Jvm.Stand Jvm.LawKit Jvm.RoadKit Jvm.OwnGo Bundle Jvm.Pilot.@@N@@.Jvm.D
theorem d3_0 : decode prog_14_method_1_code 0 = .ok (.getstatic 19, 3) := by decide +kernel
theorem d3_3 : decode prog_14_method_1_code 3 = .ok (.invokevirtual 23, 3) := by decide +kernel
theorem d3_6 : decode prog_14_method_1_code 6 = .ok (.checkcast 24, 3) := by decide +kernel
theorem d3_9 : decode prog_14_method_1_code 9 = .ok (.areturn, 1) := by decide +kernel
theorem pn_0 : plainName "com/example/lampwright/lampwright/game/Kind" = true := by first | (simp [plainName, overriddenIn]; done) | decide +kernel
theorem ef_values (m : MethodId) : entryFrame m #[] 0 = mkF m 0 #[] [] := by first | (simp [entryFrame, mkF, argsToLocals, Value.category]; done) | rfl
abbrev R_values : Room := { frames := 1, cells := 1, slots := 5, locals := 14 }
def Q_values (Z : State) (va : Addr) (vc : Cell) (h0 : Heap) (n0 : Nat) (v : Option Value) (h : Heap) (L : List Loc) : Prop := ∃ (a : Addr) (cl : Cell), v = some (.ref a) ∧ Fr n0 L ∧ Keep h0 h [] ∧ Arr Z h a cl (.object "com/example/lampwright/lampwright/game/Kind") ∧ cl.slots.size = 5
set_option maxRecDepth 65536 in
set_option maxHeartbeats 40000000 in
theorem rm_values (l : Launch) (Z : State) (a0 : Array Value) (hw : ∀ d ∈ tables_1, d.before a0 Z = true) (ws : List Jvm.Cond) (va : Addr) (vc : Cell) (h0 : Heap) (n0 : Nat) (O0 : Old Z n0 h0) (S_V : Sta Z Z.heap "com/example/lampwright/lampwright/game/Kind" "$VALUES" "[Lcom/example/lampwright/lampwright/game/Kind;" (.ref va)) (AV : Arr Z Z.heap va vc (.object "com/example/lampwright/lampwright/game/Kind")) (EV : Exa Z Z.heap va "[Lcom/example/lampwright/lampwright/game/Kind;") (FV : FitC Z vc) (SV : vc.slots.size = 5) :
    MetFree l (⟨"com/example/lampwright/lampwright/game/Kind", "values", "()[Lcom/example/lampwright/lampwright/game/Kind;"⟩ : MethodName) (head1 (Jvm.Cond.code (⟨"com/example/lampwright/lampwright/game/Kind", "values", "()[Lcom/example/lampwright/lampwright/game/Kind;"⟩ : MethodName) prog_14_method_1_code 0 (some (.array (.object "com/example/lampwright/lampwright/game/Kind"))) :: ws) R_values) (fun as_ U => as_ = #[] ∧ Z.Warmed39 U.vm ∧ U.heap = h0) (fun _ _ _ _ _ => True) (fun _ U o U' => ∃ v L, o = .returned v ∧ Q_values Z va vc h0 n0 v U'.heap L ∧ FrameEnd U o U' L R_values.cells R_values.slots) := by
  refine MetFree.of_bodySF (plainFor_of_name pn_0) hisR ?_
  intro p e s m args below meth c s₁ Bd hml0 hP hK
  obtain ⟨rfl, hZ, hh⟩ := hP
  have hx := Bd.exec
  have hby := Bd.bytes
  have hml : c.maxLocals = 0 := hml0
  have hown : s.vm.findClass "com/example/lampwright/lampwright/game/Kind" = some m.cls := findClass_of_methodNamed Bd.named
  have hnm := (name_of_methodNamed Bd.named Bd.method).1
  have hlk : meth.locks = false := BodyLoose.notSynchronized Bd
  have X0 : Stand p l e R_values s m #[] below meth c s₁ [] 0 0 := Stand.of_body Bd
  have e0 : s₁.heap = h0 := by rw [← hh, Bd.state]; rfl
  have N0 := Fr.nil n0
  refine enter (P := PQ s R_values.cells R_values.slots (Q_values Z va vc h0 n0)) (ef_values m) ?_
  obtain ⟨T1, X1, e1, st1⟩ := getS2 X0 hx hZ hown (host := "") (Or.inl (hw _ (List.mem_of_getElem? (i := 13) rfl))) Via.refl e0 (S_V.ext O0.2) (g := (mkF m 0 #[] [])) rfl (hb hby d3_0)
  refine goS (n := 3) (Ls' := #[]) (st' := [(.ref va)]) st1 ?_
  obtain ⟨T2, h2, X2, e2, E2, A2, Ex2, st2⟩ := cloneA X1 hx hZ hown (hw _ (List.mem_of_getElem? (i := 15) rfl)) (hw _ (List.mem_of_getElem? (i := 16) rfl)) (hw _ (List.mem_of_getElem? (i := 20) rfl)) (hw _ (List.mem_of_getElem? (i := 18) rfl)) (hw _ (List.mem_of_getElem? (i := 19) rfl)) (hw _ (List.mem_of_getElem? (i := 21) rfl)) e1 (AV.ext O0.2) (EV.ext O0.2) FV (g := (mkF m 3 #[] [(.ref va)])) rfl (by rw [hml]; rfl) rfl (hb hby d3_3) (by decide) (W := 0) (cap := 5) (by show 2 * 0 + _ ≤ _; exact Nat.le_of_eq rfl) (by decide) (Nat.le_of_eq SV) (by decide) (by decide)
  obtain ⟨b2, g2⟩ : ∃ z, z = h0.size := ⟨_, rfl⟩
  rw [← g2] at A2 st2 Ex2
  have g_b2 : n0 ≤ b2 := Nat.le_trans (O0.1 ▸ O0.2.1) (Nat.le_of_eq g2.symm)
  have z_b2 : h0.size ≤ b2 := Nat.le_trans (Keep.refl h0 []).1 (Nat.le_of_eq g2.symm)
  have O2 := O0.ext E2
  have KK2 : Keep h0 h2 [] := (Keep.refl h0 []).ext E2
  refine goS (n := 6) (Ls' := #[]) (st' := [(.ref b2)]) st2 ?_
  obtain ⟨T3, X3, e3, st3⟩ := castY X2 hx hZ hown (hw _ (List.mem_of_getElem? (i := 28) rfl)) e2 (Ins.self Ex2) (g := (mkF m 6 #[] [(.ref b2)])) rfl rfl (hb hby d3_6)
  refine goS (n := 9) (Ls' := #[]) (st' := [(.ref b2)]) st3 ?_
  exact goRetA X3 hx hlk Bd.returns rfl rfl (hb hby d3_9) (by decide) (by decide) (by rw [e3]; exact ⟨b2, _, rfl, N0, KK2, A2, SV⟩)
theorem d1_0 : decode prog_51_method_1_code 0 = .ok (.aload_n 0, 1) := by decide +kernel
theorem d1_1 : decode prog_51_method_1_code 1 = .ok (.invokespecial 1, 3) := by decide +kernel
theorem d1_4 : decode prog_51_method_1_code 4 = .ok (.aload_n 0, 1) := by decide +kernel
theorem d1_5 : decode prog_51_method_1_code 5 = .ok (.invokestatic 7, 3) := by decide +kernel
theorem pd_0 : parseMethodDescriptor "()[Lcom/example/lampwright/lampwright/game/Kind;" = some ⟨[], some (.array (.object "com/example/lampwright/lampwright/game/Kind"))⟩ := by decide +kernel
theorem d1_8 : decode prog_51_method_1_code 8 = .ok (.arraylength, 1) := by decide +kernel
theorem d1_9 : decode prog_51_method_1_code 9 = .ok (.newarray .int, 2) := by decide +kernel
theorem d1_11 : decode prog_51_method_1_code 11 = .ok (.putfield 13, 3) := by decide +kernel
theorem d1_14 : decode prog_51_method_1_code 14 = .ok (.return_, 1) := by decide +kernel
theorem pn_1 : plainName "com/example/lampwright/lampwright/game/Treasure" = true := by first | (simp [plainName, overriddenIn]; done) | decide +kernel
theorem ef_init (m : MethodId) (a : Addr) : entryFrame m #[(.ref a)] 1 = mkF m 0 #[.val (.ref a)] [] := by first | (simp [entryFrame, mkF, argsToLocals, Value.category]; done) | rfl
abbrev R_init : Room := { frames := 2, cells := 2, slots := 10, locals := 26 }
def Q_init (Z : State) (a : Addr) (va : Addr) (vc : Cell) (h0 : Heap) (n0 : Nat) (v : Option Value) (h : Heap) (L : List Loc) : Prop := v = none ∧ ∃ (u : Addr) (k : ClassId), Fr n0 L ∧ Keep h0 h [a] ∧ Fld Z h a "com/example/lampwright/lampwright/game/Treasure" "units" "[I" (.ref u) ∧ n0 ≤ u ∧ h0.size ≤ u ∧ Arv Z h u k .int (5 : Int32) [(.int (0 : Int32)), (.int (0 : Int32)), (.int (0 : Int32)), (.int (0 : Int32)), (.int (0 : Int32))] (.int (0 : Int32))
set_option maxRecDepth 65536 in
set_option maxHeartbeats 40000000 in
theorem rm_init (l : Launch) (Z : State) (a0 : Array Value) (hw : ∀ d ∈ tables_1, d.before a0 Z = true) (ws : List Jvm.Cond) (a : Addr) (va : Addr) (vc : Cell) (h0 : Heap) (n0 : Nat) (O0 : Old Z n0 h0) (S_V : Sta Z Z.heap "com/example/lampwright/lampwright/game/Kind" "$VALUES" "[Lcom/example/lampwright/lampwright/game/Kind;" (.ref va)) (AV : Arr Z Z.heap va vc (.object "com/example/lampwright/lampwright/game/Kind")) (EV : Exa Z Z.heap va "[Lcom/example/lampwright/lampwright/game/Kind;") (FV : FitC Z vc) (SV : vc.slots.size = 5) (E_a : Exa Z h0 a "com/example/lampwright/lampwright/game/Treasure") (F_units_a : Fld Z h0 a "com/example/lampwright/lampwright/game/Treasure" "units" "[I" .null) (g_a : n0 ≤ a) :
    MetFree l (⟨"com/example/lampwright/lampwright/game/Treasure", "<init>", "()V"⟩ : MethodName) (head1 (Jvm.Cond.code (⟨"com/example/lampwright/lampwright/game/Treasure", "<init>", "()V"⟩ : MethodName) prog_51_method_1_code 1 none :: ws) R_init) (fun as_ U => as_ = #[(.ref a)] ∧ Z.Warmed39 U.vm ∧ U.heap = h0) (fun _ _ _ _ _ => True) (fun _ U o U' => ∃ v L, o = .returned v ∧ Q_init Z a va vc h0 n0 v U'.heap L ∧ FrameEnd U o U' L R_init.cells R_init.slots) := by
  refine MetFree.of_bodySF (plainFor_of_name pn_1) hisR ?_
  intro p e s m args below meth c s₁ Bd hml0 hP hK
  obtain ⟨rfl, hZ, hh⟩ := hP
  have hx := Bd.exec
  have hby := Bd.bytes
  have hml : c.maxLocals = 1 := hml0
  have hown : s.vm.findClass "com/example/lampwright/lampwright/game/Treasure" = some m.cls := findClass_of_methodNamed Bd.named
  have hnm := (name_of_methodNamed Bd.named Bd.method).1
  have hlk : meth.locks = false := BodyLoose.notSynchronized Bd
  have X0 : Stand p l e R_init s m #[(.ref a)] below meth c s₁ [] 0 0 := Stand.of_body Bd
  have e0 : s₁.heap = h0 := by rw [← hh, Bd.state]; rfl
  have N0 := Fr.nil n0
  refine enter (P := PQ s R_init.cells R_init.slots (Q_init Z a va vc h0 n0)) (ef_init m a) ?_
  refine goS (n := 1) (Ls' := #[.val (.ref a)]) (st' := [(.ref a)]) (fun _ kz => XS.aloadN X0.here hx rfl (hb hby d1_0) rfl rfl kz) ?_
  obtain ⟨T1, X1, e1, st1⟩ := initO X0 hx hZ hown (hw _ (List.mem_of_getElem? (i := 6) rfl)) (hw _ (List.mem_of_getElem? (i := 7) rfl)) (hw _ (List.mem_of_getElem? (i := 8) rfl)) e0 (g := (mkF m 1 #[.val (.ref a)] [(.ref a)])) rfl (by rw [hml]; rfl) rfl (hb hby d1_1) (by decide) (W := 0) (by show 2 * 0 + _ ≤ _; exact Nat.le_of_eq rfl) (by decide)
  refine goS (n := 4) (Ls' := #[.val (.ref a)]) (st' := []) st1 ?_
  refine goS (n := 5) (Ls' := #[.val (.ref a)]) (st' := [(.ref a)]) (fun _ kz => XS.aloadN X1.here hx rfl (hb hby d1_4) rfl rfl kz) ?_
  obtain ⟨_, _, ⟨T2, L2, k2, n2⟩, -, X2, ⟨Lc2, hQ2, l2, y2, z2⟩, st2⟩ := Jvm.LawKit.callS X1 hx (y := (⟨"com/example/lampwright/lampwright/game/Kind", "values", "()[Lcom/example/lampwright/lampwright/game/Kind;"⟩ : MethodName)) hown (mvT hZ (hw _ (List.mem_of_getElem? (i := 9) rfl))) (mvT hZ (hw _ (List.mem_of_getElem? (i := 10) rfl))) (mvT hZ (hw _ (List.mem_of_getElem? (i := 11) rfl))) (mvT hZ (hw _ (List.mem_of_getElem? (i := 12) rfl))) (by decide) (backOf (W := 1) (rm_values l Z a0 hw [] va vc h0 n0 O0 S_V AV EV FV SV) hZ (hw _ (List.mem_of_getElem? (i := 12) rfl)) (hw _ (List.mem_of_getElem? (i := 11) rfl)) (by decide) (by decide)) (g := (mkF m 5 #[.val (.ref a)] [(.ref a)])) rfl (by rw [hml]; rfl) (argsL := []) (rest := [(.ref a)]) (lenOf pd_0 rfl) rfl (by show 2 * 0 + _ ≤ _; exact Nat.le_of_eq rfl) (hb hby d1_5) (fun _ _ => ⟨rfl, e1, (Nat.le_of_ble_eq_true rfl), (Nat.le_of_ble_eq_true rfl)⟩)
  dsimp only [Pt.U, Pt.locs, Pt.cells, Pt.slots] at X2 l2 y2 z2 st2 hQ2
  subst l2 y2 z2
  obtain ⟨a2, cl2, rfl, N2q, K2, A2, sz2⟩ := hQ2
  have N2 := Fr.app N0 N2q
  have e2 : T2.heap = T2.heap := rfl
  have O2 := O0.keep K2 all0
  have KK2 : Keep h0 T2.heap [a] := (Keep.refl h0 [a]).trans K2 all0
  have E_a : Exa Z T2.heap a "com/example/lampwright/lampwright/game/Treasure" := E_a.keep K2
  have F_units_a : Fld Z T2.heap a "com/example/lampwright/lampwright/game/Treasure" "units" "[I" .null := F_units_a.keep K2 nin0
  refine goS (n := 8) (Ls' := #[.val (.ref a)]) (st' := [(.ref a2), (.ref a)]) st2 ?_
  refine goS (n := 9) (Ls' := #[.val (.ref a)]) (st' := [(.int (5 : Int32)), (.ref a)]) (fun tz kz => X2.arraylength hx (by rw [e2]; exact A2.1) (State.isArrayOf_alike hZ.alike A2.2.1) (g := (mkF m 8 #[.val (.ref a)] [(.ref a2), (.ref a)])) rfl rfl (hb hby d1_8) tz (by rw [sz2]; exact kz)) ?_
  obtain ⟨T3, h3, k3, X3, e3, E3, A3, Ex3, st3⟩ := newPE X2 hx hZ (hw _ (List.mem_of_getElem? (i := 30) rfl)) e2 (g := (mkF m 9 #[.val (.ref a)] [(.int (5 : Int32)), (.ref a)])) rfl (hb hby d1_9) rfl (by decide) (cap := 5) (by decide) (by decide) (by decide) (by decide) (ad := "[I") (by decide +kernel)
  obtain ⟨b3, g3⟩ : ∃ z, z = T2.heap.size := ⟨_, rfl⟩
  rw [← g3] at A3 st3 Ex3
  have g_b3 : n0 ≤ b3 := Nat.le_trans (O2.1 ▸ O2.2.1) (Nat.le_of_eq g3.symm)
  have z_b3 : h0.size ≤ b3 := Nat.le_trans KK2.1 (Nat.le_of_eq g3.symm)
  have ne_a_b3 : a ≠ b3 := Nat.ne_of_lt (Nat.lt_of_lt_of_le E_a.lt (Nat.le_of_eq g3.symm))
  have E_a : Exa Z h3 a "com/example/lampwright/lampwright/game/Treasure" := E_a.ext E3
  have F_units_a : Fld Z h3 a "com/example/lampwright/lampwright/game/Treasure" "units" "[I" .null := F_units_a.ext E3
  have E_b3 : Exa Z h3 b3 "[I" := Ex3
  have V_b3 : Arv Z h3 b3 k3 .int (5 : Int32) [(.int (0 : Int32)), (.int (0 : Int32)), (.int (0 : Int32)), (.int (0 : Int32)), (.int (0 : Int32))] (.int (0 : Int32)) := (Arv.new A3 (by decide)).pad (pad_rep [] (.int (0 : Int32)) 5)
  have O3 := O2.ext E3
  have KK3 : Keep h0 h3 [a] := KK2.ext E3
  refine goS (n := 11) (Ls' := #[.val (.ref a)]) (st' := [(.ref b3), (.ref a)]) st3 ?_
  obtain ⟨T4, h4, X4, e4, W4, st4⟩ := putF X3 hx hZ hown (host := "") (Or.inl (hw _ (List.mem_of_getElem? (i := 31) rfl))) Via.refl e3 F_units_a E_a (Or.inr ⟨(hw _ (List.mem_of_getElem? (i := 32) rfl)), rfl, hnm⟩) (hw _ (List.mem_of_getElem? (i := 1) rfl)) (ty := (.array .int)) (v := (.ref b3)) (by decide) rfl rfl (g := (mkF m 11 #[.val (.ref a)] [(.ref b3), (.ref a)])) rfl rfl (hb hby d1_11)
  have Fn4 : Fld Z h4 a "com/example/lampwright/lampwright/game/Treasure" "units" "[I" (.ref b3) := F_units_a.same W4
  have E_a : Exa Z h4 a "com/example/lampwright/lampwright/game/Treasure" := E_a.wr W4
  have E_b3 : Exa Z h4 b3 "[I" := E_b3.wr W4
  have V_b3 : Arv Z h4 b3 k3 .int (5 : Int32) [(.int (0 : Int32)), (.int (0 : Int32)), (.int (0 : Int32)), (.int (0 : Int32)), (.int (0 : Int32))] (.int (0 : Int32)) := V_b3.other W4 (Ne.symm ne_a_b3)
  have F_units_a := Fn4
  have N4 := Fr.snoc X4 N2 g_a
  have O4 := O3.wr W4 g_a
  have KK4 : Keep h0 h4 [a] := KK3.wr W4 (Or.inl (List.mem_of_getElem? (i := 0) rfl))
  refine goS (n := 14) (Ls' := #[.val (.ref a)]) (st' := []) st4 ?_
  exact goRetV X4 hx hlk Bd.returns (hb hby d1_14) (by decide) (by decide) (by rw [e4]; exact ⟨rfl, b3, _, N4, KK4, F_units_a, g_b3, z_b3, V_b3⟩)
theorem d5_0 : decode jdk_37_method_2_code 0 = .ok (.aload_n 0, 1) := by decide +kernel
theorem d5_1 : decode jdk_37_method_2_code 1 = .ok (.getfield 7, 3) := by decide +kernel
theorem d5_4 : decode jdk_37_method_2_code 4 = .ok (.ireturn, 1) := by decide +kernel
theorem pn_2 : plainName "java/lang/Enum" = true := by first | (simp [plainName, overriddenIn]; done) | decide +kernel
theorem ef_ord (m : MethodId) (a : Addr) : entryFrame m #[(.ref a)] 1 = mkF m 0 #[.val (.ref a)] [] := by first | (simp [entryFrame, mkF, argsToLocals, Value.category]; done) | rfl
abbrev R_ord : Room := { frames := 0, cells := 0, slots := 0, locals := 0 }
def Q_ord (Z : State) (a : Addr) (r : Int32) (h0 : Heap) (n0 : Nat) (v : Option Value) (h : Heap) (L : List Loc) : Prop := v = some (.int r) ∧ Fr n0 L ∧ h = h0
set_option maxRecDepth 65536 in
set_option maxHeartbeats 40000000 in
theorem rm_ord (l : Launch) (Z : State) (a0 : Array Value) (hw : ∀ d ∈ tables_1, d.before a0 Z = true) (ws : List Jvm.Cond) (a : Addr) (r : Int32) (h0 : Heap) (n0 : Nat) (O0 : Old Z n0 h0) (F0 : Fld Z Z.heap a "java/lang/Enum" "ordinal" "I" (.int r)) :
    MetFree l (⟨"java/lang/Enum", "ordinal", "()I"⟩ : MethodName) (head1 (Jvm.Cond.code (⟨"java/lang/Enum", "ordinal", "()I"⟩ : MethodName) jdk_37_method_2_code 1 (some .int) :: ws) R_ord) (fun as_ U => as_ = #[(.ref a)] ∧ Z.Warmed39 U.vm ∧ U.heap = h0) (fun _ _ _ _ _ => True) (fun _ U o U' => ∃ v L, o = .returned v ∧ Q_ord Z a r h0 n0 v U'.heap L ∧ FrameEnd U o U' L R_ord.cells R_ord.slots) := by
  refine MetFree.of_bodySF (plainFor_of_name pn_2) hisR ?_
  intro p e s m args below meth c s₁ Bd hml0 hP hK
  obtain ⟨rfl, hZ, hh⟩ := hP
  have hx := Bd.exec
  have hby := Bd.bytes
  have hml : c.maxLocals = 1 := hml0
  have hown : s.vm.findClass "java/lang/Enum" = some m.cls := findClass_of_methodNamed Bd.named
  have hnm := (name_of_methodNamed Bd.named Bd.method).1
  have hlk : meth.locks = false := BodyLoose.notSynchronized Bd
  have X0 : Stand p l e R_ord s m #[(.ref a)] below meth c s₁ [] 0 0 := Stand.of_body Bd
  have e0 : s₁.heap = h0 := by rw [← hh, Bd.state]; rfl
  have N0 := Fr.nil n0
  refine enter (P := PQ s R_ord.cells R_ord.slots (Q_ord Z a r h0 n0)) (ef_ord m a) ?_
  refine goS (n := 1) (Ls' := #[.val (.ref a)]) (st' := [(.ref a)]) (fun _ kz => XS.aloadN X0.here hx rfl (hb hby d5_0) rfl rfl kz) ?_
  obtain ⟨T1, X1, e1, st1⟩ := getF X0 hx hZ hown (host := "") (Or.inl (hw _ (List.mem_of_getElem? (i := 46) rfl))) Via.refl e0 (F0.ext O0.2) (g := (mkF m 1 #[.val (.ref a)] [(.ref a)])) rfl rfl (hb hby d5_1)
  refine goS (n := 4) (Ls' := #[.val (.ref a)]) (st' := [(.int r)]) st1 ?_
  exact goRetI X1 hx hlk Bd.returns (hb hby d5_4) (by decide) (by decide) (by rw [e1]; exact ⟨rfl, N0, rfl⟩)
theorem d4_0 : decode prog_51_method_9_code 0 = .ok (.aload_n 0, 1) := by decide +kernel
theorem d4_1 : decode prog_51_method_9_code 1 = .ok (.getfield 13, 3) := by decide +kernel
theorem d4_4 : decode prog_51_method_9_code 4 = .ok (.aload_n 1, 1) := by decide +kernel
theorem d4_5 : decode prog_51_method_9_code 5 = .ok (.invokevirtual 30, 3) := by decide +kernel
theorem pd_1 : parseMethodDescriptor "()I" = some ⟨[], some .int⟩ := by decide +kernel
theorem d4_8 : decode prog_51_method_9_code 8 = .ok (.dup2, 1) := by decide +kernel
theorem d4_9 : decode prog_51_method_9_code 9 = .ok (.iaload, 1) := by decide +kernel
theorem d4_10 : decode prog_51_method_9_code 10 = .ok (.iload_n 2, 1) := by decide +kernel
theorem d4_11 : decode prog_51_method_9_code 11 = .ok (.iadd, 1) := by decide +kernel
theorem d4_12 : decode prog_51_method_9_code 12 = .ok (.iastore, 1) := by decide +kernel
theorem d4_13 : decode prog_51_method_9_code 13 = .ok (.return_, 1) := by decide +kernel
theorem ef_add0 (m : MethodId) (a : Addr) (w : Addr) (x : Int32) : entryFrame m #[(.ref a), (.ref w), (.int x)] 3 = mkF m 0 #[.val (.ref a), .val (.ref w), .val (.int x)] [] := by first | (simp [entryFrame, mkF, argsToLocals, Value.category]; done) | rfl
abbrev R_add0 : Room := { frames := 1, cells := 0, slots := 0, locals := 13 }
def Q_add0 (Z : State) (a : Addr) (w : Addr) (x : Int32) (u : Addr) (k : ClassId) (y0 : Int32) (y1 : Int32) (y2 : Int32) (y3 : Int32) (y4 : Int32) (h0 : Heap) (n0 : Nat) (v : Option Value) (h : Heap) (L : List Loc) : Prop := v = none ∧ Fr n0 L ∧ Keep h0 h [u] ∧ Arv Z h u k .int (5 : Int32) [(.int (y0 + x)), (.int y1), (.int y2), (.int y3), (.int y4)] (.int (0 : Int32))
set_option maxRecDepth 65536 in
set_option maxHeartbeats 40000000 in
theorem rm_add0 (l : Launch) (Z : State) (a0 : Array Value) (hw : ∀ d ∈ tables_1, d.before a0 Z = true) (ws : List Jvm.Cond) (a : Addr) (w : Addr) (x : Int32) (u : Addr) (k : ClassId) (y0 : Int32) (y1 : Int32) (y2 : Int32) (y3 : Int32) (y4 : Int32) (h0 : Heap) (n0 : Nat) (O0 : Old Z n0 h0) (F_units_a : Fld Z h0 a "com/example/lampwright/lampwright/game/Treasure" "units" "[I" (.ref u)) (F0 : Fld Z Z.heap w "java/lang/Enum" "ordinal" "I" (.int (0 : Int32))) (EXw : Exa Z Z.heap w "com/example/lampwright/lampwright/game/Kind") (g_u : n0 ≤ u) (V_u : Arv Z h0 u k .int (5 : Int32) [(.int y0), (.int y1), (.int y2), (.int y3), (.int y4)] (.int (0 : Int32))) :
    MetFree l (⟨"com/example/lampwright/lampwright/game/Treasure", "add", "(Lcom/example/lampwright/lampwright/game/Kind;I)V"⟩ : MethodName) (head1 (Jvm.Cond.code (⟨"com/example/lampwright/lampwright/game/Treasure", "add", "(Lcom/example/lampwright/lampwright/game/Kind;I)V"⟩ : MethodName) prog_51_method_9_code 3 none :: ws) R_add0) (fun as_ U => as_ = #[(.ref a), (.ref w), (.int x)] ∧ Z.Warmed39 U.vm ∧ U.heap = h0) (fun _ _ _ _ _ => True) (fun _ U o U' => ∃ v L, o = .returned v ∧ Q_add0 Z a w x u k y0 y1 y2 y3 y4 h0 n0 v U'.heap L ∧ FrameEnd U o U' L R_add0.cells R_add0.slots) := by
  refine MetFree.of_bodySF (plainFor_of_name pn_1) hisR ?_
  intro p e s m args below meth c s₁ Bd hml0 hP hK
  obtain ⟨rfl, hZ, hh⟩ := hP
  have hx := Bd.exec
  have hby := Bd.bytes
  have hml : c.maxLocals = 3 := hml0
  have hown : s.vm.findClass "com/example/lampwright/lampwright/game/Treasure" = some m.cls := findClass_of_methodNamed Bd.named
  have hnm := (name_of_methodNamed Bd.named Bd.method).1
  have hlk : meth.locks = false := BodyLoose.notSynchronized Bd
  have X0 : Stand p l e R_add0 s m #[(.ref a), (.ref w), (.int x)] below meth c s₁ [] 0 0 := Stand.of_body Bd
  have e0 : s₁.heap = h0 := by rw [← hh, Bd.state]; rfl
  have N0 := Fr.nil n0
  refine enter (P := PQ s R_add0.cells R_add0.slots (Q_add0 Z a w x u k y0 y1 y2 y3 y4 h0 n0)) (ef_add0 m a w x) ?_
  refine goS (n := 1) (Ls' := #[.val (.ref a), .val (.ref w), .val (.int x)]) (st' := [(.ref a)]) (fun _ kz => XS.aloadN X0.here hx rfl (hb hby d4_0) rfl rfl kz) ?_
  obtain ⟨T1, X1, e1, st1⟩ := getF X0 hx hZ hown (host := "") (Or.inl (hw _ (List.mem_of_getElem? (i := 31) rfl))) Via.refl e0 F_units_a (g := (mkF m 1 #[.val (.ref a), .val (.ref w), .val (.int x)] [(.ref a)])) rfl rfl (hb hby d4_1)
  refine goS (n := 4) (Ls' := #[.val (.ref a), .val (.ref w), .val (.int x)]) (st' := [(.ref u)]) st1 ?_
  refine goS (n := 5) (Ls' := #[.val (.ref a), .val (.ref w), .val (.int x)]) (st' := [(.ref w), (.ref u)]) (fun _ kz => XS.aloadN X1.here hx rfl (hb hby d4_4) rfl rfl kz) ?_
  obtain ⟨cq2, kq2, q2a, q2b, q2c⟩ := isOf hZ e1 (EXw.ext O0.2)
  obtain ⟨_, _, ⟨T2, L2, k2, n2⟩, -, X2, ⟨Lc2, hQ2, l2, y2, z2⟩, st2⟩ := X1.virtualBackUp hx (x := (⟨"com/example/lampwright/lampwright/game/Kind", "ordinal", "()I"⟩ : MethodName)) (y := (⟨"java/lang/Enum", "ordinal", "()I"⟩ : MethodName)) (owner := "java/lang/Enum") hown (mvT hZ (hw _ (List.mem_of_getElem? (i := 39) rfl))) (mvT hZ (hw _ (List.mem_of_getElem? (i := 40) rfl))) (mvT hZ (hw _ (List.mem_of_getElem? (i := 41) rfl))) (by decide) (mvT hZ (hw _ (List.mem_of_getElem? (i := 43) rfl))) (mvT hZ (hw _ (List.mem_of_getElem? (i := 42) rfl))) (backOf (W := 1) (rm_ord l Z a0 hw [] w (0 : Int32) h0 n0 O0 F0) hZ (hw _ (List.mem_of_getElem? (i := 45) rfl)) (hw _ (List.mem_of_getElem? (i := 44) rfl)) (by decide) (by decide)) q2a q2c (g := (mkF m 5 #[.val (.ref a), .val (.ref w), .val (.int x)] [(.ref w), (.ref u)])) rfl (by rw [hml]; rfl) (Steps.refl _) (argsL := []) (rest := [(.ref u)]) (lenOf pd_1 rfl) rfl (by show 2 * 0 + _ ≤ _; exact Nat.le_of_eq rfl) (hb hby d4_5) (fun _ _ => ⟨rfl, e1, (Nat.le_of_ble_eq_true rfl), (Nat.le_of_ble_eq_true rfl)⟩)
  dsimp only [Pt.U, Pt.locs, Pt.cells, Pt.slots] at X2 l2 y2 z2 st2 hQ2
  subst l2 y2 z2
  obtain ⟨rfl, N2q, e2⟩ := hQ2
  have N2 := Fr.app N0 N2q
  refine goT (n := 8) (Ls' := #[.val (.ref a), .val (.ref w), .val (.int x)]) (st' := [(.int (0 : Int32)), (.ref u)]) st2 ?_
  refine goS (n := 9) (Ls' := #[.val (.ref a), .val (.ref w), .val (.int x)]) (st' := [(.int (0 : Int32)), (.ref u), (.int (0 : Int32)), (.ref u)]) (fun _ kz => XT.dup2 X2.here hx rfl (hb hby d4_8) rfl rfl rfl kz) ?_
  have vv3 := V_u
  obtain ⟨cl3, Ar3, q3, S3, Nn3, H3, G3⟩ := vv3
  have hin3 : ¬ ((0 : Int32) < 0 ∨ cl3.slots.size ≤ ((0 : Int32)).toNatClampNeg) := inb_of S3 ⟨by decide, by decide⟩
  have hat3 : cl3.slots[((0 : Int32)).toNatClampNeg]? = some (.int y0) := Has.at H3 hin3 rfl
  refine goS (n := 10) (Ls' := #[.val (.ref a), .val (.ref w), .val (.int x)]) (st' := [(.int y0), (.int (0 : Int32)), (.ref u)]) (fun tz kz => X2.iaload hx (j := (0 : Int32)) (v := (.int y0)) (by rw [e2]; exact Ar3.1) (State.isArrayOf_alike hZ.alike Ar3.2.1) Ar3.2.2 hin3 hat3 (g := (mkF m 9 #[.val (.ref a), .val (.ref w), .val (.int x)] [(.int (0 : Int32)), (.ref u), (.int (0 : Int32)), (.ref u)])) rfl rfl (hb hby d4_9) tz kz) ?_
  refine goS (n := 11) (Ls' := #[.val (.ref a), .val (.ref w), .val (.int x)]) (st' := [(.int x), (.int y0), (.int (0 : Int32)), (.ref u)]) (fun _ kz => XS.iloadN X2.here hx rfl (hb hby d4_10) rfl kz) ?_
  refine goS (n := 12) (Ls' := #[.val (.ref a), .val (.ref w), .val (.int x)]) (st' := [(.int (y0 + x)), (.int (0 : Int32)), (.ref u)]) (fun _ kz => XS.iadd X2.here hx rfl (hb hby d4_11) rfl kz) ?_
  obtain ⟨cl4, Ar4, q4, S4, Nn4, H4, G4⟩ := V_u
  have hin4 : ¬ ((0 : Int32) < 0 ∨ cl4.slots.size ≤ ((0 : Int32)).toNatClampNeg) := inb_of S4 ⟨by decide, by decide⟩
  obtain ⟨T5, h5, X5, e5, W5, st5⟩ := stI X2 hx hZ e2 Ar4 (j := (0 : Int32)) hin4 (g := (mkF m 12 #[.val (.ref a), .val (.ref w), .val (.int x)] [(.int (y0 + x)), (.int (0 : Int32)), (.ref u)])) rfl rfl (hb hby d4_12)
  have V_u : Arv Z h5 u k .int (5 : Int32) [(.int (y0 + x)), (.int y1), (.int y2), (.int y3), (.int y4)] (.int (0 : Int32)) := Arv.set Ar4 q4 S4 Nn4 H4 G4 rfl W5 0 rfl (Nat.le_of_ble_eq_true rfl)
  have N5 := Fr.snoc X5 N2 g_u
  have O5 := O0.wr W5 g_u
  have KK5 : Keep h0 h5 [u] := (Keep.refl h0 [u]).wr W5 (Or.inl (List.mem_of_getElem? (i := 0) rfl))
  refine goS (n := 13) (Ls' := #[.val (.ref a), .val (.ref w), .val (.int x)]) (st' := []) st5 ?_
  exact goRetV X5 hx hlk Bd.returns (hb hby d4_13) (by decide) (by decide) (by rw [e5]; exact ⟨rfl, N5, KK5, V_u⟩)
theorem ef_add1 (m : MethodId) (a : Addr) (w : Addr) (x : Int32) : entryFrame m #[(.ref a), (.ref w), (.int x)] 3 = mkF m 0 #[.val (.ref a), .val (.ref w), .val (.int x)] [] := by first | (simp [entryFrame, mkF, argsToLocals, Value.category]; done) | rfl
abbrev R_add1 : Room := { frames := 1, cells := 0, slots := 0, locals := 13 }
def Q_add1 (Z : State) (a : Addr) (w : Addr) (x : Int32) (u : Addr) (k : ClassId) (y0 : Int32) (y1 : Int32) (y2 : Int32) (y3 : Int32) (y4 : Int32) (h0 : Heap) (n0 : Nat) (v : Option Value) (h : Heap) (L : List Loc) : Prop := v = none ∧ Fr n0 L ∧ Keep h0 h [u] ∧ Arv Z h u k .int (5 : Int32) [(.int y0), (.int (y1 + x)), (.int y2), (.int y3), (.int y4)] (.int (0 : Int32))
set_option maxRecDepth 65536 in
set_option maxHeartbeats 40000000 in
theorem rm_add1 (l : Launch) (Z : State) (a0 : Array Value) (hw : ∀ d ∈ tables_1, d.before a0 Z = true) (ws : List Jvm.Cond) (a : Addr) (w : Addr) (x : Int32) (u : Addr) (k : ClassId) (y0 : Int32) (y1 : Int32) (y2 : Int32) (y3 : Int32) (y4 : Int32) (h0 : Heap) (n0 : Nat) (O0 : Old Z n0 h0) (F_units_a : Fld Z h0 a "com/example/lampwright/lampwright/game/Treasure" "units" "[I" (.ref u)) (F0 : Fld Z Z.heap w "java/lang/Enum" "ordinal" "I" (.int (1 : Int32))) (EXw : Exa Z Z.heap w "com/example/lampwright/lampwright/game/Kind") (g_u : n0 ≤ u) (V_u : Arv Z h0 u k .int (5 : Int32) [(.int y0), (.int y1), (.int y2), (.int y3), (.int y4)] (.int (0 : Int32))) :
    MetFree l (⟨"com/example/lampwright/lampwright/game/Treasure", "add", "(Lcom/example/lampwright/lampwright/game/Kind;I)V"⟩ : MethodName) (head1 (Jvm.Cond.code (⟨"com/example/lampwright/lampwright/game/Treasure", "add", "(Lcom/example/lampwright/lampwright/game/Kind;I)V"⟩ : MethodName) prog_51_method_9_code 3 none :: ws) R_add1) (fun as_ U => as_ = #[(.ref a), (.ref w), (.int x)] ∧ Z.Warmed39 U.vm ∧ U.heap = h0) (fun _ _ _ _ _ => True) (fun _ U o U' => ∃ v L, o = .returned v ∧ Q_add1 Z a w x u k y0 y1 y2 y3 y4 h0 n0 v U'.heap L ∧ FrameEnd U o U' L R_add1.cells R_add1.slots) := by
  refine MetFree.of_bodySF (plainFor_of_name pn_1) hisR ?_
  intro p e s m args below meth c s₁ Bd hml0 hP hK
  obtain ⟨rfl, hZ, hh⟩ := hP
  have hx := Bd.exec
  have hby := Bd.bytes
  have hml : c.maxLocals = 3 := hml0
  have hown : s.vm.findClass "com/example/lampwright/lampwright/game/Treasure" = some m.cls := findClass_of_methodNamed Bd.named
  have hnm := (name_of_methodNamed Bd.named Bd.method).1
  have hlk : meth.locks = false := BodyLoose.notSynchronized Bd
  have X0 : Stand p l e R_add1 s m #[(.ref a), (.ref w), (.int x)] below meth c s₁ [] 0 0 := Stand.of_body Bd
  have e0 : s₁.heap = h0 := by rw [← hh, Bd.state]; rfl
  have N0 := Fr.nil n0
  refine enter (P := PQ s R_add1.cells R_add1.slots (Q_add1 Z a w x u k y0 y1 y2 y3 y4 h0 n0)) (ef_add1 m a w x) ?_
  refine goS (n := 1) (Ls' := #[.val (.ref a), .val (.ref w), .val (.int x)]) (st' := [(.ref a)]) (fun _ kz => XS.aloadN X0.here hx rfl (hb hby d4_0) rfl rfl kz) ?_
  obtain ⟨T1, X1, e1, st1⟩ := getF X0 hx hZ hown (host := "") (Or.inl (hw _ (List.mem_of_getElem? (i := 31) rfl))) Via.refl e0 F_units_a (g := (mkF m 1 #[.val (.ref a), .val (.ref w), .val (.int x)] [(.ref a)])) rfl rfl (hb hby d4_1)
  refine goS (n := 4) (Ls' := #[.val (.ref a), .val (.ref w), .val (.int x)]) (st' := [(.ref u)]) st1 ?_
  refine goS (n := 5) (Ls' := #[.val (.ref a), .val (.ref w), .val (.int x)]) (st' := [(.ref w), (.ref u)]) (fun _ kz => XS.aloadN X1.here hx rfl (hb hby d4_4) rfl rfl kz) ?_
  obtain ⟨cq2, kq2, q2a, q2b, q2c⟩ := isOf hZ e1 (EXw.ext O0.2)
  obtain ⟨_, _, ⟨T2, L2, k2, n2⟩, -, X2, ⟨Lc2, hQ2, l2, y2, z2⟩, st2⟩ := X1.virtualBackUp hx (x := (⟨"com/example/lampwright/lampwright/game/Kind", "ordinal", "()I"⟩ : MethodName)) (y := (⟨"java/lang/Enum", "ordinal", "()I"⟩ : MethodName)) (owner := "java/lang/Enum") hown (mvT hZ (hw _ (List.mem_of_getElem? (i := 39) rfl))) (mvT hZ (hw _ (List.mem_of_getElem? (i := 40) rfl))) (mvT hZ (hw _ (List.mem_of_getElem? (i := 41) rfl))) (by decide) (mvT hZ (hw _ (List.mem_of_getElem? (i := 43) rfl))) (mvT hZ (hw _ (List.mem_of_getElem? (i := 42) rfl))) (backOf (W := 1) (rm_ord l Z a0 hw [] w (1 : Int32) h0 n0 O0 F0) hZ (hw _ (List.mem_of_getElem? (i := 45) rfl)) (hw _ (List.mem_of_getElem? (i := 44) rfl)) (by decide) (by decide)) q2a q2c (g := (mkF m 5 #[.val (.ref a), .val (.ref w), .val (.int x)] [(.ref w), (.ref u)])) rfl (by rw [hml]; rfl) (Steps.refl _) (argsL := []) (rest := [(.ref u)]) (lenOf pd_1 rfl) rfl (by show 2 * 0 + _ ≤ _; exact Nat.le_of_eq rfl) (hb hby d4_5) (fun _ _ => ⟨rfl, e1, (Nat.le_of_ble_eq_true rfl), (Nat.le_of_ble_eq_true rfl)⟩)
  dsimp only [Pt.U, Pt.locs, Pt.cells, Pt.slots] at X2 l2 y2 z2 st2 hQ2
  subst l2 y2 z2
  obtain ⟨rfl, N2q, e2⟩ := hQ2
  have N2 := Fr.app N0 N2q
  refine goT (n := 8) (Ls' := #[.val (.ref a), .val (.ref w), .val (.int x)]) (st' := [(.int (1 : Int32)), (.ref u)]) st2 ?_
  refine goS (n := 9) (Ls' := #[.val (.ref a), .val (.ref w), .val (.int x)]) (st' := [(.int (1 : Int32)), (.ref u), (.int (1 : Int32)), (.ref u)]) (fun _ kz => XT.dup2 X2.here hx rfl (hb hby d4_8) rfl rfl rfl kz) ?_
  have vv3 := V_u
  obtain ⟨cl3, Ar3, q3, S3, Nn3, H3, G3⟩ := vv3
  have hin3 : ¬ ((1 : Int32) < 0 ∨ cl3.slots.size ≤ ((1 : Int32)).toNatClampNeg) := inb_of S3 ⟨by decide, by decide⟩
  have hat3 : cl3.slots[((1 : Int32)).toNatClampNeg]? = some (.int y1) := Has.at H3 hin3 rfl
  refine goS (n := 10) (Ls' := #[.val (.ref a), .val (.ref w), .val (.int x)]) (st' := [(.int y1), (.int (1 : Int32)), (.ref u)]) (fun tz kz => X2.iaload hx (j := (1 : Int32)) (v := (.int y1)) (by rw [e2]; exact Ar3.1) (State.isArrayOf_alike hZ.alike Ar3.2.1) Ar3.2.2 hin3 hat3 (g := (mkF m 9 #[.val (.ref a), .val (.ref w), .val (.int x)] [(.int (1 : Int32)), (.ref u), (.int (1 : Int32)), (.ref u)])) rfl rfl (hb hby d4_9) tz kz) ?_
  refine goS (n := 11) (Ls' := #[.val (.ref a), .val (.ref w), .val (.int x)]) (st' := [(.int x), (.int y1), (.int (1 : Int32)), (.ref u)]) (fun _ kz => XS.iloadN X2.here hx rfl (hb hby d4_10) rfl kz) ?_
  refine goS (n := 12) (Ls' := #[.val (.ref a), .val (.ref w), .val (.int x)]) (st' := [(.int (y1 + x)), (.int (1 : Int32)), (.ref u)]) (fun _ kz => XS.iadd X2.here hx rfl (hb hby d4_11) rfl kz) ?_
  obtain ⟨cl4, Ar4, q4, S4, Nn4, H4, G4⟩ := V_u
  have hin4 : ¬ ((1 : Int32) < 0 ∨ cl4.slots.size ≤ ((1 : Int32)).toNatClampNeg) := inb_of S4 ⟨by decide, by decide⟩
  obtain ⟨T5, h5, X5, e5, W5, st5⟩ := stI X2 hx hZ e2 Ar4 (j := (1 : Int32)) hin4 (g := (mkF m 12 #[.val (.ref a), .val (.ref w), .val (.int x)] [(.int (y1 + x)), (.int (1 : Int32)), (.ref u)])) rfl rfl (hb hby d4_12)
  have V_u : Arv Z h5 u k .int (5 : Int32) [(.int y0), (.int (y1 + x)), (.int y2), (.int y3), (.int y4)] (.int (0 : Int32)) := Arv.set Ar4 q4 S4 Nn4 H4 G4 rfl W5 1 rfl (Nat.le_of_ble_eq_true rfl)
  have N5 := Fr.snoc X5 N2 g_u
  have O5 := O0.wr W5 g_u
  have KK5 : Keep h0 h5 [u] := (Keep.refl h0 [u]).wr W5 (Or.inl (List.mem_of_getElem? (i := 0) rfl))
  refine goS (n := 13) (Ls' := #[.val (.ref a), .val (.ref w), .val (.int x)]) (st' := []) st5 ?_
  exact goRetV X5 hx hlk Bd.returns (hb hby d4_13) (by decide) (by decide) (by rw [e5]; exact ⟨rfl, N5, KK5, V_u⟩)
theorem ef_add2 (m : MethodId) (a : Addr) (w : Addr) (x : Int32) : entryFrame m #[(.ref a), (.ref w), (.int x)] 3 = mkF m 0 #[.val (.ref a), .val (.ref w), .val (.int x)] [] := by first | (simp [entryFrame, mkF, argsToLocals, Value.category]; done) | rfl
abbrev R_add2 : Room := { frames := 1, cells := 0, slots := 0, locals := 13 }
def Q_add2 (Z : State) (a : Addr) (w : Addr) (x : Int32) (u : Addr) (k : ClassId) (y0 : Int32) (y1 : Int32) (y2 : Int32) (y3 : Int32) (y4 : Int32) (h0 : Heap) (n0 : Nat) (v : Option Value) (h : Heap) (L : List Loc) : Prop := v = none ∧ Fr n0 L ∧ Keep h0 h [u] ∧ Arv Z h u k .int (5 : Int32) [(.int y0), (.int y1), (.int (y2 + x)), (.int y3), (.int y4)] (.int (0 : Int32))
set_option maxRecDepth 65536 in
set_option maxHeartbeats 40000000 in
theorem rm_add2 (l : Launch) (Z : State) (a0 : Array Value) (hw : ∀ d ∈ tables_1, d.before a0 Z = true) (ws : List Jvm.Cond) (a : Addr) (w : Addr) (x : Int32) (u : Addr) (k : ClassId) (y0 : Int32) (y1 : Int32) (y2 : Int32) (y3 : Int32) (y4 : Int32) (h0 : Heap) (n0 : Nat) (O0 : Old Z n0 h0) (F_units_a : Fld Z h0 a "com/example/lampwright/lampwright/game/Treasure" "units" "[I" (.ref u)) (F0 : Fld Z Z.heap w "java/lang/Enum" "ordinal" "I" (.int (2 : Int32))) (EXw : Exa Z Z.heap w "com/example/lampwright/lampwright/game/Kind") (g_u : n0 ≤ u) (V_u : Arv Z h0 u k .int (5 : Int32) [(.int y0), (.int y1), (.int y2), (.int y3), (.int y4)] (.int (0 : Int32))) :
    MetFree l (⟨"com/example/lampwright/lampwright/game/Treasure", "add", "(Lcom/example/lampwright/lampwright/game/Kind;I)V"⟩ : MethodName) (head1 (Jvm.Cond.code (⟨"com/example/lampwright/lampwright/game/Treasure", "add", "(Lcom/example/lampwright/lampwright/game/Kind;I)V"⟩ : MethodName) prog_51_method_9_code 3 none :: ws) R_add2) (fun as_ U => as_ = #[(.ref a), (.ref w), (.int x)] ∧ Z.Warmed39 U.vm ∧ U.heap = h0) (fun _ _ _ _ _ => True) (fun _ U o U' => ∃ v L, o = .returned v ∧ Q_add2 Z a w x u k y0 y1 y2 y3 y4 h0 n0 v U'.heap L ∧ FrameEnd U o U' L R_add2.cells R_add2.slots) := by
  refine MetFree.of_bodySF (plainFor_of_name pn_1) hisR ?_
  intro p e s m args below meth c s₁ Bd hml0 hP hK
  obtain ⟨rfl, hZ, hh⟩ := hP
  have hx := Bd.exec
  have hby := Bd.bytes
  have hml : c.maxLocals = 3 := hml0
  have hown : s.vm.findClass "com/example/lampwright/lampwright/game/Treasure" = some m.cls := findClass_of_methodNamed Bd.named
  have hnm := (name_of_methodNamed Bd.named Bd.method).1
  have hlk : meth.locks = false := BodyLoose.notSynchronized Bd
  have X0 : Stand p l e R_add2 s m #[(.ref a), (.ref w), (.int x)] below meth c s₁ [] 0 0 := Stand.of_body Bd
  have e0 : s₁.heap = h0 := by rw [← hh, Bd.state]; rfl
  have N0 := Fr.nil n0
  refine enter (P := PQ s R_add2.cells R_add2.slots (Q_add2 Z a w x u k y0 y1 y2 y3 y4 h0 n0)) (ef_add2 m a w x) ?_
  refine goS (n := 1) (Ls' := #[.val (.ref a), .val (.ref w), .val (.int x)]) (st' := [(.ref a)]) (fun _ kz => XS.aloadN X0.here hx rfl (hb hby d4_0) rfl rfl kz) ?_
  obtain ⟨T1, X1, e1, st1⟩ := getF X0 hx hZ hown (host := "") (Or.inl (hw _ (List.mem_of_getElem? (i := 31) rfl))) Via.refl e0 F_units_a (g := (mkF m 1 #[.val (.ref a), .val (.ref w), .val (.int x)] [(.ref a)])) rfl rfl (hb hby d4_1)
  refine goS (n := 4) (Ls' := #[.val (.ref a), .val (.ref w), .val (.int x)]) (st' := [(.ref u)]) st1 ?_
  refine goS (n := 5) (Ls' := #[.val (.ref a), .val (.ref w), .val (.int x)]) (st' := [(.ref w), (.ref u)]) (fun _ kz => XS.aloadN X1.here hx rfl (hb hby d4_4) rfl rfl kz) ?_
  obtain ⟨cq2, kq2, q2a, q2b, q2c⟩ := isOf hZ e1 (EXw.ext O0.2)
  obtain ⟨_, _, ⟨T2, L2, k2, n2⟩, -, X2, ⟨Lc2, hQ2, l2, y2, z2⟩, st2⟩ := X1.virtualBackUp hx (x := (⟨"com/example/lampwright/lampwright/game/Kind", "ordinal", "()I"⟩ : MethodName)) (y := (⟨"java/lang/Enum", "ordinal", "()I"⟩ : MethodName)) (owner := "java/lang/Enum") hown (mvT hZ (hw _ (List.mem_of_getElem? (i := 39) rfl))) (mvT hZ (hw _ (List.mem_of_getElem? (i := 40) rfl))) (mvT hZ (hw _ (List.mem_of_getElem? (i := 41) rfl))) (by decide) (mvT hZ (hw _ (List.mem_of_getElem? (i := 43) rfl))) (mvT hZ (hw _ (List.mem_of_getElem? (i := 42) rfl))) (backOf (W := 1) (rm_ord l Z a0 hw [] w (2 : Int32) h0 n0 O0 F0) hZ (hw _ (List.mem_of_getElem? (i := 45) rfl)) (hw _ (List.mem_of_getElem? (i := 44) rfl)) (by decide) (by decide)) q2a q2c (g := (mkF m 5 #[.val (.ref a), .val (.ref w), .val (.int x)] [(.ref w), (.ref u)])) rfl (by rw [hml]; rfl) (Steps.refl _) (argsL := []) (rest := [(.ref u)]) (lenOf pd_1 rfl) rfl (by show 2 * 0 + _ ≤ _; exact Nat.le_of_eq rfl) (hb hby d4_5) (fun _ _ => ⟨rfl, e1, (Nat.le_of_ble_eq_true rfl), (Nat.le_of_ble_eq_true rfl)⟩)
  dsimp only [Pt.U, Pt.locs, Pt.cells, Pt.slots] at X2 l2 y2 z2 st2 hQ2
  subst l2 y2 z2
  obtain ⟨rfl, N2q, e2⟩ := hQ2
  have N2 := Fr.app N0 N2q
  refine goT (n := 8) (Ls' := #[.val (.ref a), .val (.ref w), .val (.int x)]) (st' := [(.int (2 : Int32)), (.ref u)]) st2 ?_
  refine goS (n := 9) (Ls' := #[.val (.ref a), .val (.ref w), .val (.int x)]) (st' := [(.int (2 : Int32)), (.ref u), (.int (2 : Int32)), (.ref u)]) (fun _ kz => XT.dup2 X2.here hx rfl (hb hby d4_8) rfl rfl rfl kz) ?_
  have vv3 := V_u
  obtain ⟨cl3, Ar3, q3, S3, Nn3, H3, G3⟩ := vv3
  have hin3 : ¬ ((2 : Int32) < 0 ∨ cl3.slots.size ≤ ((2 : Int32)).toNatClampNeg) := inb_of S3 ⟨by decide, by decide⟩
  have hat3 : cl3.slots[((2 : Int32)).toNatClampNeg]? = some (.int y2) := Has.at H3 hin3 rfl
  refine goS (n := 10) (Ls' := #[.val (.ref a), .val (.ref w), .val (.int x)]) (st' := [(.int y2), (.int (2 : Int32)), (.ref u)]) (fun tz kz => X2.iaload hx (j := (2 : Int32)) (v := (.int y2)) (by rw [e2]; exact Ar3.1) (State.isArrayOf_alike hZ.alike Ar3.2.1) Ar3.2.2 hin3 hat3 (g := (mkF m 9 #[.val (.ref a), .val (.ref w), .val (.int x)] [(.int (2 : Int32)), (.ref u), (.int (2 : Int32)), (.ref u)])) rfl rfl (hb hby d4_9) tz kz) ?_
  refine goS (n := 11) (Ls' := #[.val (.ref a), .val (.ref w), .val (.int x)]) (st' := [(.int x), (.int y2), (.int (2 : Int32)), (.ref u)]) (fun _ kz => XS.iloadN X2.here hx rfl (hb hby d4_10) rfl kz) ?_
  refine goS (n := 12) (Ls' := #[.val (.ref a), .val (.ref w), .val (.int x)]) (st' := [(.int (y2 + x)), (.int (2 : Int32)), (.ref u)]) (fun _ kz => XS.iadd X2.here hx rfl (hb hby d4_11) rfl kz) ?_
  obtain ⟨cl4, Ar4, q4, S4, Nn4, H4, G4⟩ := V_u
  have hin4 : ¬ ((2 : Int32) < 0 ∨ cl4.slots.size ≤ ((2 : Int32)).toNatClampNeg) := inb_of S4 ⟨by decide, by decide⟩
  obtain ⟨T5, h5, X5, e5, W5, st5⟩ := stI X2 hx hZ e2 Ar4 (j := (2 : Int32)) hin4 (g := (mkF m 12 #[.val (.ref a), .val (.ref w), .val (.int x)] [(.int (y2 + x)), (.int (2 : Int32)), (.ref u)])) rfl rfl (hb hby d4_12)
  have V_u : Arv Z h5 u k .int (5 : Int32) [(.int y0), (.int y1), (.int (y2 + x)), (.int y3), (.int y4)] (.int (0 : Int32)) := Arv.set Ar4 q4 S4 Nn4 H4 G4 rfl W5 2 rfl (Nat.le_of_ble_eq_true rfl)
  have N5 := Fr.snoc X5 N2 g_u
  have O5 := O0.wr W5 g_u
  have KK5 : Keep h0 h5 [u] := (Keep.refl h0 [u]).wr W5 (Or.inl (List.mem_of_getElem? (i := 0) rfl))
  refine goS (n := 13) (Ls' := #[.val (.ref a), .val (.ref w), .val (.int x)]) (st' := []) st5 ?_
  exact goRetV X5 hx hlk Bd.returns (hb hby d4_13) (by decide) (by decide) (by rw [e5]; exact ⟨rfl, N5, KK5, V_u⟩)
theorem ef_add3 (m : MethodId) (a : Addr) (w : Addr) (x : Int32) : entryFrame m #[(.ref a), (.ref w), (.int x)] 3 = mkF m 0 #[.val (.ref a), .val (.ref w), .val (.int x)] [] := by first | (simp [entryFrame, mkF, argsToLocals, Value.category]; done) | rfl
abbrev R_add3 : Room := { frames := 1, cells := 0, slots := 0, locals := 13 }
def Q_add3 (Z : State) (a : Addr) (w : Addr) (x : Int32) (u : Addr) (k : ClassId) (y0 : Int32) (y1 : Int32) (y2 : Int32) (y3 : Int32) (y4 : Int32) (h0 : Heap) (n0 : Nat) (v : Option Value) (h : Heap) (L : List Loc) : Prop := v = none ∧ Fr n0 L ∧ Keep h0 h [u] ∧ Arv Z h u k .int (5 : Int32) [(.int y0), (.int y1), (.int y2), (.int (y3 + x)), (.int y4)] (.int (0 : Int32))
set_option maxRecDepth 65536 in
set_option maxHeartbeats 40000000 in
theorem rm_add3 (l : Launch) (Z : State) (a0 : Array Value) (hw : ∀ d ∈ tables_1, d.before a0 Z = true) (ws : List Jvm.Cond) (a : Addr) (w : Addr) (x : Int32) (u : Addr) (k : ClassId) (y0 : Int32) (y1 : Int32) (y2 : Int32) (y3 : Int32) (y4 : Int32) (h0 : Heap) (n0 : Nat) (O0 : Old Z n0 h0) (F_units_a : Fld Z h0 a "com/example/lampwright/lampwright/game/Treasure" "units" "[I" (.ref u)) (F0 : Fld Z Z.heap w "java/lang/Enum" "ordinal" "I" (.int (3 : Int32))) (EXw : Exa Z Z.heap w "com/example/lampwright/lampwright/game/Kind") (g_u : n0 ≤ u) (V_u : Arv Z h0 u k .int (5 : Int32) [(.int y0), (.int y1), (.int y2), (.int y3), (.int y4)] (.int (0 : Int32))) :
    MetFree l (⟨"com/example/lampwright/lampwright/game/Treasure", "add", "(Lcom/example/lampwright/lampwright/game/Kind;I)V"⟩ : MethodName) (head1 (Jvm.Cond.code (⟨"com/example/lampwright/lampwright/game/Treasure", "add", "(Lcom/example/lampwright/lampwright/game/Kind;I)V"⟩ : MethodName) prog_51_method_9_code 3 none :: ws) R_add3) (fun as_ U => as_ = #[(.ref a), (.ref w), (.int x)] ∧ Z.Warmed39 U.vm ∧ U.heap = h0) (fun _ _ _ _ _ => True) (fun _ U o U' => ∃ v L, o = .returned v ∧ Q_add3 Z a w x u k y0 y1 y2 y3 y4 h0 n0 v U'.heap L ∧ FrameEnd U o U' L R_add3.cells R_add3.slots) := by
  refine MetFree.of_bodySF (plainFor_of_name pn_1) hisR ?_
  intro p e s m args below meth c s₁ Bd hml0 hP hK
  obtain ⟨rfl, hZ, hh⟩ := hP
  have hx := Bd.exec
  have hby := Bd.bytes
  have hml : c.maxLocals = 3 := hml0
  have hown : s.vm.findClass "com/example/lampwright/lampwright/game/Treasure" = some m.cls := findClass_of_methodNamed Bd.named
  have hnm := (name_of_methodNamed Bd.named Bd.method).1
  have hlk : meth.locks = false := BodyLoose.notSynchronized Bd
  have X0 : Stand p l e R_add3 s m #[(.ref a), (.ref w), (.int x)] below meth c s₁ [] 0 0 := Stand.of_body Bd
  have e0 : s₁.heap = h0 := by rw [← hh, Bd.state]; rfl
  have N0 := Fr.nil n0
  refine enter (P := PQ s R_add3.cells R_add3.slots (Q_add3 Z a w x u k y0 y1 y2 y3 y4 h0 n0)) (ef_add3 m a w x) ?_
  refine goS (n := 1) (Ls' := #[.val (.ref a), .val (.ref w), .val (.int x)]) (st' := [(.ref a)]) (fun _ kz => XS.aloadN X0.here hx rfl (hb hby d4_0) rfl rfl kz) ?_
  obtain ⟨T1, X1, e1, st1⟩ := getF X0 hx hZ hown (host := "") (Or.inl (hw _ (List.mem_of_getElem? (i := 31) rfl))) Via.refl e0 F_units_a (g := (mkF m 1 #[.val (.ref a), .val (.ref w), .val (.int x)] [(.ref a)])) rfl rfl (hb hby d4_1)
  refine goS (n := 4) (Ls' := #[.val (.ref a), .val (.ref w), .val (.int x)]) (st' := [(.ref u)]) st1 ?_
  refine goS (n := 5) (Ls' := #[.val (.ref a), .val (.ref w), .val (.int x)]) (st' := [(.ref w), (.ref u)]) (fun _ kz => XS.aloadN X1.here hx rfl (hb hby d4_4) rfl rfl kz) ?_
  obtain ⟨cq2, kq2, q2a, q2b, q2c⟩ := isOf hZ e1 (EXw.ext O0.2)
  obtain ⟨_, _, ⟨T2, L2, k2, n2⟩, -, X2, ⟨Lc2, hQ2, l2, y2, z2⟩, st2⟩ := X1.virtualBackUp hx (x := (⟨"com/example/lampwright/lampwright/game/Kind", "ordinal", "()I"⟩ : MethodName)) (y := (⟨"java/lang/Enum", "ordinal", "()I"⟩ : MethodName)) (owner := "java/lang/Enum") hown (mvT hZ (hw _ (List.mem_of_getElem? (i := 39) rfl))) (mvT hZ (hw _ (List.mem_of_getElem? (i := 40) rfl))) (mvT hZ (hw _ (List.mem_of_getElem? (i := 41) rfl))) (by decide) (mvT hZ (hw _ (List.mem_of_getElem? (i := 43) rfl))) (mvT hZ (hw _ (List.mem_of_getElem? (i := 42) rfl))) (backOf (W := 1) (rm_ord l Z a0 hw [] w (3 : Int32) h0 n0 O0 F0) hZ (hw _ (List.mem_of_getElem? (i := 45) rfl)) (hw _ (List.mem_of_getElem? (i := 44) rfl)) (by decide) (by decide)) q2a q2c (g := (mkF m 5 #[.val (.ref a), .val (.ref w), .val (.int x)] [(.ref w), (.ref u)])) rfl (by rw [hml]; rfl) (Steps.refl _) (argsL := []) (rest := [(.ref u)]) (lenOf pd_1 rfl) rfl (by show 2 * 0 + _ ≤ _; exact Nat.le_of_eq rfl) (hb hby d4_5) (fun _ _ => ⟨rfl, e1, (Nat.le_of_ble_eq_true rfl), (Nat.le_of_ble_eq_true rfl)⟩)
  dsimp only [Pt.U, Pt.locs, Pt.cells, Pt.slots] at X2 l2 y2 z2 st2 hQ2
  subst l2 y2 z2
  obtain ⟨rfl, N2q, e2⟩ := hQ2
  have N2 := Fr.app N0 N2q
  refine goT (n := 8) (Ls' := #[.val (.ref a), .val (.ref w), .val (.int x)]) (st' := [(.int (3 : Int32)), (.ref u)]) st2 ?_
  refine goS (n := 9) (Ls' := #[.val (.ref a), .val (.ref w), .val (.int x)]) (st' := [(.int (3 : Int32)), (.ref u), (.int (3 : Int32)), (.ref u)]) (fun _ kz => XT.dup2 X2.here hx rfl (hb hby d4_8) rfl rfl rfl kz) ?_
  have vv3 := V_u
  obtain ⟨cl3, Ar3, q3, S3, Nn3, H3, G3⟩ := vv3
  have hin3 : ¬ ((3 : Int32) < 0 ∨ cl3.slots.size ≤ ((3 : Int32)).toNatClampNeg) := inb_of S3 ⟨by decide, by decide⟩
  have hat3 : cl3.slots[((3 : Int32)).toNatClampNeg]? = some (.int y3) := Has.at H3 hin3 rfl
  refine goS (n := 10) (Ls' := #[.val (.ref a), .val (.ref w), .val (.int x)]) (st' := [(.int y3), (.int (3 : Int32)), (.ref u)]) (fun tz kz => X2.iaload hx (j := (3 : Int32)) (v := (.int y3)) (by rw [e2]; exact Ar3.1) (State.isArrayOf_alike hZ.alike Ar3.2.1) Ar3.2.2 hin3 hat3 (g := (mkF m 9 #[.val (.ref a), .val (.ref w), .val (.int x)] [(.int (3 : Int32)), (.ref u), (.int (3 : Int32)), (.ref u)])) rfl rfl (hb hby d4_9) tz kz) ?_
  refine goS (n := 11) (Ls' := #[.val (.ref a), .val (.ref w), .val (.int x)]) (st' := [(.int x), (.int y3), (.int (3 : Int32)), (.ref u)]) (fun _ kz => XS.iloadN X2.here hx rfl (hb hby d4_10) rfl kz) ?_
  refine goS (n := 12) (Ls' := #[.val (.ref a), .val (.ref w), .val (.int x)]) (st' := [(.int (y3 + x)), (.int (3 : Int32)), (.ref u)]) (fun _ kz => XS.iadd X2.here hx rfl (hb hby d4_11) rfl kz) ?_
  obtain ⟨cl4, Ar4, q4, S4, Nn4, H4, G4⟩ := V_u
  have hin4 : ¬ ((3 : Int32) < 0 ∨ cl4.slots.size ≤ ((3 : Int32)).toNatClampNeg) := inb_of S4 ⟨by decide, by decide⟩
  obtain ⟨T5, h5, X5, e5, W5, st5⟩ := stI X2 hx hZ e2 Ar4 (j := (3 : Int32)) hin4 (g := (mkF m 12 #[.val (.ref a), .val (.ref w), .val (.int x)] [(.int (y3 + x)), (.int (3 : Int32)), (.ref u)])) rfl rfl (hb hby d4_12)
  have V_u : Arv Z h5 u k .int (5 : Int32) [(.int y0), (.int y1), (.int y2), (.int (y3 + x)), (.int y4)] (.int (0 : Int32)) := Arv.set Ar4 q4 S4 Nn4 H4 G4 rfl W5 3 rfl (Nat.le_of_ble_eq_true rfl)
  have N5 := Fr.snoc X5 N2 g_u
  have O5 := O0.wr W5 g_u
  have KK5 : Keep h0 h5 [u] := (Keep.refl h0 [u]).wr W5 (Or.inl (List.mem_of_getElem? (i := 0) rfl))
  refine goS (n := 13) (Ls' := #[.val (.ref a), .val (.ref w), .val (.int x)]) (st' := []) st5 ?_
  exact goRetV X5 hx hlk Bd.returns (hb hby d4_13) (by decide) (by decide) (by rw [e5]; exact ⟨rfl, N5, KK5, V_u⟩)
theorem ef_add4 (m : MethodId) (a : Addr) (w : Addr) (x : Int32) : entryFrame m #[(.ref a), (.ref w), (.int x)] 3 = mkF m 0 #[.val (.ref a), .val (.ref w), .val (.int x)] [] := by first | (simp [entryFrame, mkF, argsToLocals, Value.category]; done) | rfl
abbrev R_add4 : Room := { frames := 1, cells := 0, slots := 0, locals := 13 }
def Q_add4 (Z : State) (a : Addr) (w : Addr) (x : Int32) (u : Addr) (k : ClassId) (y0 : Int32) (y1 : Int32) (y2 : Int32) (y3 : Int32) (y4 : Int32) (h0 : Heap) (n0 : Nat) (v : Option Value) (h : Heap) (L : List Loc) : Prop := v = none ∧ Fr n0 L ∧ Keep h0 h [u] ∧ Arv Z h u k .int (5 : Int32) [(.int y0), (.int y1), (.int y2), (.int y3), (.int (y4 + x))] (.int (0 : Int32))
set_option maxRecDepth 65536 in
set_option maxHeartbeats 40000000 in
theorem rm_add4 (l : Launch) (Z : State) (a0 : Array Value) (hw : ∀ d ∈ tables_1, d.before a0 Z = true) (ws : List Jvm.Cond) (a : Addr) (w : Addr) (x : Int32) (u : Addr) (k : ClassId) (y0 : Int32) (y1 : Int32) (y2 : Int32) (y3 : Int32) (y4 : Int32) (h0 : Heap) (n0 : Nat) (O0 : Old Z n0 h0) (F_units_a : Fld Z h0 a "com/example/lampwright/lampwright/game/Treasure" "units" "[I" (.ref u)) (F0 : Fld Z Z.heap w "java/lang/Enum" "ordinal" "I" (.int (4 : Int32))) (EXw : Exa Z Z.heap w "com/example/lampwright/lampwright/game/Kind") (g_u : n0 ≤ u) (V_u : Arv Z h0 u k .int (5 : Int32) [(.int y0), (.int y1), (.int y2), (.int y3), (.int y4)] (.int (0 : Int32))) :
    MetFree l (⟨"com/example/lampwright/lampwright/game/Treasure", "add", "(Lcom/example/lampwright/lampwright/game/Kind;I)V"⟩ : MethodName) (head1 (Jvm.Cond.code (⟨"com/example/lampwright/lampwright/game/Treasure", "add", "(Lcom/example/lampwright/lampwright/game/Kind;I)V"⟩ : MethodName) prog_51_method_9_code 3 none :: ws) R_add4) (fun as_ U => as_ = #[(.ref a), (.ref w), (.int x)] ∧ Z.Warmed39 U.vm ∧ U.heap = h0) (fun _ _ _ _ _ => True) (fun _ U o U' => ∃ v L, o = .returned v ∧ Q_add4 Z a w x u k y0 y1 y2 y3 y4 h0 n0 v U'.heap L ∧ FrameEnd U o U' L R_add4.cells R_add4.slots) := by
  refine MetFree.of_bodySF (plainFor_of_name pn_1) hisR ?_
  intro p e s m args below meth c s₁ Bd hml0 hP hK
  obtain ⟨rfl, hZ, hh⟩ := hP
  have hx := Bd.exec
  have hby := Bd.bytes
  have hml : c.maxLocals = 3 := hml0
  have hown : s.vm.findClass "com/example/lampwright/lampwright/game/Treasure" = some m.cls := findClass_of_methodNamed Bd.named
  have hnm := (name_of_methodNamed Bd.named Bd.method).1
  have hlk : meth.locks = false := BodyLoose.notSynchronized Bd
  have X0 : Stand p l e R_add4 s m #[(.ref a), (.ref w), (.int x)] below meth c s₁ [] 0 0 := Stand.of_body Bd
  have e0 : s₁.heap = h0 := by rw [← hh, Bd.state]; rfl
  have N0 := Fr.nil n0
  refine enter (P := PQ s R_add4.cells R_add4.slots (Q_add4 Z a w x u k y0 y1 y2 y3 y4 h0 n0)) (ef_add4 m a w x) ?_
  refine goS (n := 1) (Ls' := #[.val (.ref a), .val (.ref w), .val (.int x)]) (st' := [(.ref a)]) (fun _ kz => XS.aloadN X0.here hx rfl (hb hby d4_0) rfl rfl kz) ?_
  obtain ⟨T1, X1, e1, st1⟩ := getF X0 hx hZ hown (host := "") (Or.inl (hw _ (List.mem_of_getElem? (i := 31) rfl))) Via.refl e0 F_units_a (g := (mkF m 1 #[.val (.ref a), .val (.ref w), .val (.int x)] [(.ref a)])) rfl rfl (hb hby d4_1)
  refine goS (n := 4) (Ls' := #[.val (.ref a), .val (.ref w), .val (.int x)]) (st' := [(.ref u)]) st1 ?_
  refine goS (n := 5) (Ls' := #[.val (.ref a), .val (.ref w), .val (.int x)]) (st' := [(.ref w), (.ref u)]) (fun _ kz => XS.aloadN X1.here hx rfl (hb hby d4_4) rfl rfl kz) ?_
  obtain ⟨cq2, kq2, q2a, q2b, q2c⟩ := isOf hZ e1 (EXw.ext O0.2)
  obtain ⟨_, _, ⟨T2, L2, k2, n2⟩, -, X2, ⟨Lc2, hQ2, l2, y2, z2⟩, st2⟩ := X1.virtualBackUp hx (x := (⟨"com/example/lampwright/lampwright/game/Kind", "ordinal", "()I"⟩ : MethodName)) (y := (⟨"java/lang/Enum", "ordinal", "()I"⟩ : MethodName)) (owner := "java/lang/Enum") hown (mvT hZ (hw _ (List.mem_of_getElem? (i := 39) rfl))) (mvT hZ (hw _ (List.mem_of_getElem? (i := 40) rfl))) (mvT hZ (hw _ (List.mem_of_getElem? (i := 41) rfl))) (by decide) (mvT hZ (hw _ (List.mem_of_getElem? (i := 43) rfl))) (mvT hZ (hw _ (List.mem_of_getElem? (i := 42) rfl))) (backOf (W := 1) (rm_ord l Z a0 hw [] w (4 : Int32) h0 n0 O0 F0) hZ (hw _ (List.mem_of_getElem? (i := 45) rfl)) (hw _ (List.mem_of_getElem? (i := 44) rfl)) (by decide) (by decide)) q2a q2c (g := (mkF m 5 #[.val (.ref a), .val (.ref w), .val (.int x)] [(.ref w), (.ref u)])) rfl (by rw [hml]; rfl) (Steps.refl _) (argsL := []) (rest := [(.ref u)]) (lenOf pd_1 rfl) rfl (by show 2 * 0 + _ ≤ _; exact Nat.le_of_eq rfl) (hb hby d4_5) (fun _ _ => ⟨rfl, e1, (Nat.le_of_ble_eq_true rfl), (Nat.le_of_ble_eq_true rfl)⟩)
  dsimp only [Pt.U, Pt.locs, Pt.cells, Pt.slots] at X2 l2 y2 z2 st2 hQ2
  subst l2 y2 z2
  obtain ⟨rfl, N2q, e2⟩ := hQ2
  have N2 := Fr.app N0 N2q
  refine goT (n := 8) (Ls' := #[.val (.ref a), .val (.ref w), .val (.int x)]) (st' := [(.int (4 : Int32)), (.ref u)]) st2 ?_
  refine goS (n := 9) (Ls' := #[.val (.ref a), .val (.ref w), .val (.int x)]) (st' := [(.int (4 : Int32)), (.ref u), (.int (4 : Int32)), (.ref u)]) (fun _ kz => XT.dup2 X2.here hx rfl (hb hby d4_8) rfl rfl rfl kz) ?_
  have vv3 := V_u
  obtain ⟨cl3, Ar3, q3, S3, Nn3, H3, G3⟩ := vv3
  have hin3 : ¬ ((4 : Int32) < 0 ∨ cl3.slots.size ≤ ((4 : Int32)).toNatClampNeg) := inb_of S3 ⟨by decide, by decide⟩
  have hat3 : cl3.slots[((4 : Int32)).toNatClampNeg]? = some (.int y4) := Has.at H3 hin3 rfl
  refine goS (n := 10) (Ls' := #[.val (.ref a), .val (.ref w), .val (.int x)]) (st' := [(.int y4), (.int (4 : Int32)), (.ref u)]) (fun tz kz => X2.iaload hx (j := (4 : Int32)) (v := (.int y4)) (by rw [e2]; exact Ar3.1) (State.isArrayOf_alike hZ.alike Ar3.2.1) Ar3.2.2 hin3 hat3 (g := (mkF m 9 #[.val (.ref a), .val (.ref w), .val (.int x)] [(.int (4 : Int32)), (.ref u), (.int (4 : Int32)), (.ref u)])) rfl rfl (hb hby d4_9) tz kz) ?_
  refine goS (n := 11) (Ls' := #[.val (.ref a), .val (.ref w), .val (.int x)]) (st' := [(.int x), (.int y4), (.int (4 : Int32)), (.ref u)]) (fun _ kz => XS.iloadN X2.here hx rfl (hb hby d4_10) rfl kz) ?_
  refine goS (n := 12) (Ls' := #[.val (.ref a), .val (.ref w), .val (.int x)]) (st' := [(.int (y4 + x)), (.int (4 : Int32)), (.ref u)]) (fun _ kz => XS.iadd X2.here hx rfl (hb hby d4_11) rfl kz) ?_
  obtain ⟨cl4, Ar4, q4, S4, Nn4, H4, G4⟩ := V_u
  have hin4 : ¬ ((4 : Int32) < 0 ∨ cl4.slots.size ≤ ((4 : Int32)).toNatClampNeg) := inb_of S4 ⟨by decide, by decide⟩
  obtain ⟨T5, h5, X5, e5, W5, st5⟩ := stI X2 hx hZ e2 Ar4 (j := (4 : Int32)) hin4 (g := (mkF m 12 #[.val (.ref a), .val (.ref w), .val (.int x)] [(.int (y4 + x)), (.int (4 : Int32)), (.ref u)])) rfl rfl (hb hby d4_12)
  have V_u : Arv Z h5 u k .int (5 : Int32) [(.int y0), (.int y1), (.int y2), (.int y3), (.int (y4 + x))] (.int (0 : Int32)) := Arv.set Ar4 q4 S4 Nn4 H4 G4 rfl W5 4 rfl (Nat.le_of_ble_eq_true rfl)
  have N5 := Fr.snoc X5 N2 g_u
  have O5 := O0.wr W5 g_u
  have KK5 : Keep h0 h5 [u] := (Keep.refl h0 [u]).wr W5 (Or.inl (List.mem_of_getElem? (i := 0) rfl))
  refine goS (n := 13) (Ls' := #[.val (.ref a), .val (.ref w), .val (.int x)]) (st' := []) st5 ?_
  exact goRetV X5 hx hlk Bd.returns (hb hby d4_13) (by decide) (by decide) (by rw [e5]; exact ⟨rfl, N5, KK5, V_u⟩)
theorem d6_0 : decode prog_51_method_5_code 0 = .ok (.iconst 0, 1) := by decide +kernel
theorem d6_1 : decode prog_51_method_5_code 1 = .ok (.istore_n 1, 1) := by decide +kernel
theorem d6_2 : decode prog_51_method_5_code 2 = .ok (.aload_n 0, 1) := by decide +kernel
theorem d6_3 : decode prog_51_method_5_code 3 = .ok (.getfield 13, 3) := by decide +kernel
theorem d6_6 : decode prog_51_method_5_code 6 = .ok (.astore_n 2, 1) := by decide +kernel
theorem d6_7 : decode prog_51_method_5_code 7 = .ok (.aload_n 2, 1) := by decide +kernel
theorem d6_8 : decode prog_51_method_5_code 8 = .ok (.arraylength, 1) := by decide +kernel
theorem d6_9 : decode prog_51_method_5_code 9 = .ok (.istore_n 3, 1) := by decide +kernel
theorem d6_10 : decode prog_51_method_5_code 10 = .ok (.iconst 0, 1) := by decide +kernel
theorem d6_11 : decode prog_51_method_5_code 11 = .ok (.istore 4, 2) := by decide +kernel
theorem d6_13 : decode prog_51_method_5_code 13 = .ok (.iload 4, 2) := by decide +kernel
theorem d6_15 : decode prog_51_method_5_code 15 = .ok (.iload_n 3, 1) := by decide +kernel
theorem d6_16 : decode prog_51_method_5_code 16 = .ok (.if_icmp .ge 20, 3) := by decide +kernel
theorem d6_19 : decode prog_51_method_5_code 19 = .ok (.aload_n 2, 1) := by decide +kernel
theorem d6_20 : decode prog_51_method_5_code 20 = .ok (.iload 4, 2) := by decide +kernel
theorem d6_22 : decode prog_51_method_5_code 22 = .ok (.iaload, 1) := by decide +kernel
theorem d6_23 : decode prog_51_method_5_code 23 = .ok (.istore 5, 2) := by decide +kernel
theorem d6_25 : decode prog_51_method_5_code 25 = .ok (.iload_n 1, 1) := by decide +kernel
theorem d6_26 : decode prog_51_method_5_code 26 = .ok (.iload 5, 2) := by decide +kernel
theorem d6_28 : decode prog_51_method_5_code 28 = .ok (.iadd, 1) := by decide +kernel
theorem d6_29 : decode prog_51_method_5_code 29 = .ok (.istore_n 1, 1) := by decide +kernel
theorem d6_30 : decode prog_51_method_5_code 30 = .ok (.iinc 4 1, 3) := by decide +kernel
theorem d6_33 : decode prog_51_method_5_code 33 = .ok (.goto (-20), 3) := by decide +kernel
theorem d6_36 : decode prog_51_method_5_code 36 = .ok (.iload_n 1, 1) := by decide +kernel
theorem d6_37 : decode prog_51_method_5_code 37 = .ok (.ireturn, 1) := by decide +kernel
theorem ef_total (m : MethodId) (a : Addr) : entryFrame m #[(.ref a)] 6 = mkF m 0 #[.val (.ref a), .unset, .unset, .unset, .unset, .unset] [] := by first | (simp [entryFrame, mkF, argsToLocals, Value.category]; done) | rfl
abbrev R_total : Room := { frames := 0, cells := 0, slots := 0, locals := 0 }
def Q_total (Z : State) (a : Addr) (u : Addr) (k : ClassId) (y0 : Int32) (y1 : Int32) (y2 : Int32) (y3 : Int32) (y4 : Int32) (h0 : Heap) (n0 : Nat) (v : Option Value) (h : Heap) (L : List Loc) : Prop := v = some (.int ((((((0 : Int32) + y0) + y1) + y2) + y3) + y4)) ∧ Fr n0 L ∧ h = h0
set_option maxRecDepth 65536 in
set_option maxHeartbeats 40000000 in
theorem rm_total (l : Launch) (Z : State) (a0 : Array Value) (hw : ∀ d ∈ tables_1, d.before a0 Z = true) (ws : List Jvm.Cond) (a : Addr) (u : Addr) (k : ClassId) (y0 : Int32) (y1 : Int32) (y2 : Int32) (y3 : Int32) (y4 : Int32) (h0 : Heap) (n0 : Nat) (O0 : Old Z n0 h0) (F_units_a : Fld Z h0 a "com/example/lampwright/lampwright/game/Treasure" "units" "[I" (.ref u)) (V_u : Arv Z h0 u k .int (5 : Int32) [(.int y0), (.int y1), (.int y2), (.int y3), (.int y4)] (.int (0 : Int32))) :
    MetFree l (⟨"com/example/lampwright/lampwright/game/Treasure", "total", "()I"⟩ : MethodName) (head1 (Jvm.Cond.code (⟨"com/example/lampwright/lampwright/game/Treasure", "total", "()I"⟩ : MethodName) prog_51_method_5_code 6 (some .int) :: ws) R_total) (fun as_ U => as_ = #[(.ref a)] ∧ Z.Warmed39 U.vm ∧ U.heap = h0) (fun _ _ _ _ _ => True) (fun _ U o U' => ∃ v L, o = .returned v ∧ Q_total Z a u k y0 y1 y2 y3 y4 h0 n0 v U'.heap L ∧ FrameEnd U o U' L R_total.cells R_total.slots) := by
  refine MetFree.of_bodySF (plainFor_of_name pn_1) hisR ?_
  intro p e s m args below meth c s₁ Bd hml0 hP hK
  obtain ⟨rfl, hZ, hh⟩ := hP
  have hx := Bd.exec
  have hby := Bd.bytes
  have hml : c.maxLocals = 6 := hml0
  have hown : s.vm.findClass "com/example/lampwright/lampwright/game/Treasure" = some m.cls := findClass_of_methodNamed Bd.named
  have hnm := (name_of_methodNamed Bd.named Bd.method).1
  have hlk : meth.locks = false := BodyLoose.notSynchronized Bd
  have X0 : Stand p l e R_total s m #[(.ref a)] below meth c s₁ [] 0 0 := Stand.of_body Bd
  have e0 : s₁.heap = h0 := by rw [← hh, Bd.state]; rfl
  have N0 := Fr.nil n0
  refine enter (P := PQ s R_total.cells R_total.slots (Q_total Z a u k y0 y1 y2 y3 y4 h0 n0)) (ef_total m a) ?_
  refine goS (n := 1) (Ls' := #[.val (.ref a), .unset, .unset, .unset, .unset, .unset]) (st' := [(.int (0 : Int32))]) (fun _ kz => XS.iconst X0.here hx rfl (hb hby d6_0) kz) ?_
  refine goS (n := 2) (Ls' := #[.val (.ref a), .val (.int (0 : Int32)), .unset, .unset, .unset, .unset]) (st' := []) (fun _ kz => XS.istoreN X0.here hx rfl (hb hby d6_1) rfl (l' := #[.val (.ref a), .val (.int (0 : Int32)), .unset, .unset, .unset, .unset]) rfl kz) ?_
  refine goS (n := 3) (Ls' := #[.val (.ref a), .val (.int (0 : Int32)), .unset, .unset, .unset, .unset]) (st' := [(.ref a)]) (fun _ kz => XS.aloadN X0.here hx rfl (hb hby d6_2) rfl rfl kz) ?_
  obtain ⟨T1, X1, e1, st1⟩ := getF X0 hx hZ hown (host := "") (Or.inl (hw _ (List.mem_of_getElem? (i := 31) rfl))) Via.refl e0 F_units_a (g := (mkF m 3 #[.val (.ref a), .val (.int (0 : Int32)), .unset, .unset, .unset, .unset] [(.ref a)])) rfl rfl (hb hby d6_3)
  refine goS (n := 6) (Ls' := #[.val (.ref a), .val (.int (0 : Int32)), .unset, .unset, .unset, .unset]) (st' := [(.ref u)]) st1 ?_
  refine goS (n := 7) (Ls' := #[.val (.ref a), .val (.int (0 : Int32)), .val (.ref u), .unset, .unset, .unset]) (st' := []) (fun _ kz => XS.astoreN X1.here hx rfl (hb hby d6_6) rfl rfl (l' := #[.val (.ref a), .val (.int (0 : Int32)), .val (.ref u), .unset, .unset, .unset]) rfl kz) ?_
  refine goS (n := 8) (Ls' := #[.val (.ref a), .val (.int (0 : Int32)), .val (.ref u), .unset, .unset, .unset]) (st' := [(.ref u)]) (fun _ kz => XS.aloadN X1.here hx rfl (hb hby d6_7) rfl rfl kz) ?_
  have vv2 := V_u
  obtain ⟨cl2, Ar2, -, S2, Nn2, -, -⟩ := vv2
  refine goS (n := 9) (Ls' := #[.val (.ref a), .val (.int (0 : Int32)), .val (.ref u), .unset, .unset, .unset]) (st' := [(.int (5 : Int32))]) (fun tz kz => X1.arraylength hx (by rw [e1]; exact Ar2.1) (State.isArrayOf_alike hZ.alike Ar2.2.1) (g := (mkF m 8 #[.val (.ref a), .val (.int (0 : Int32)), .val (.ref u), .unset, .unset, .unset] [(.ref u)])) rfl rfl (hb hby d6_8) tz (by rw [len_of S2 Nn2]; exact kz)) ?_
  refine goS (n := 10) (Ls' := #[.val (.ref a), .val (.int (0 : Int32)), .val (.ref u), .val (.int (5 : Int32)), .unset, .unset]) (st' := []) (fun _ kz => XS.istoreN X1.here hx rfl (hb hby d6_9) rfl (l' := #[.val (.ref a), .val (.int (0 : Int32)), .val (.ref u), .val (.int (5 : Int32)), .unset, .unset]) rfl kz) ?_
  refine goS (n := 11) (Ls' := #[.val (.ref a), .val (.int (0 : Int32)), .val (.ref u), .val (.int (5 : Int32)), .unset, .unset]) (st' := [(.int (0 : Int32))]) (fun _ kz => XS.iconst X1.here hx rfl (hb hby d6_10) kz) ?_
  refine goS (n := 13) (Ls' := #[.val (.ref a), .val (.int (0 : Int32)), .val (.ref u), .val (.int (5 : Int32)), .val (.int (0 : Int32)), .unset]) (st' := []) (fun _ kz => XS.istore X1.here hx rfl (hb hby d6_11) rfl (l' := #[.val (.ref a), .val (.int (0 : Int32)), .val (.ref u), .val (.int (5 : Int32)), .val (.int (0 : Int32)), .unset]) rfl kz) ?_
  refine goS (n := 15) (Ls' := #[.val (.ref a), .val (.int (0 : Int32)), .val (.ref u), .val (.int (5 : Int32)), .val (.int (0 : Int32)), .unset]) (st' := [(.int (0 : Int32))]) (fun _ kz => XS.iload X1.here hx rfl (hb hby d6_13) rfl kz) ?_
  refine goS (n := 16) (Ls' := #[.val (.ref a), .val (.int (0 : Int32)), .val (.ref u), .val (.int (5 : Int32)), .val (.int (0 : Int32)), .unset]) (st' := [(.int (5 : Int32)), (.int (0 : Int32))]) (fun _ kz => XS.iloadN X1.here hx rfl (hb hby d6_15) rfl kz) ?_
  refine goS (n := 19) (Ls' := #[.val (.ref a), .val (.int (0 : Int32)), .val (.ref u), .val (.int (5 : Int32)), .val (.int (0 : Int32)), .unset]) (st' := []) (fun _ kz => XS.icmpNo X1.here hx rfl (hb hby d6_16) rfl (by decide) kz) ?_
  refine goS (n := 20) (Ls' := #[.val (.ref a), .val (.int (0 : Int32)), .val (.ref u), .val (.int (5 : Int32)), .val (.int (0 : Int32)), .unset]) (st' := [(.ref u)]) (fun _ kz => XS.aloadN X1.here hx rfl (hb hby d6_19) rfl rfl kz) ?_
  refine goS (n := 22) (Ls' := #[.val (.ref a), .val (.int (0 : Int32)), .val (.ref u), .val (.int (5 : Int32)), .val (.int (0 : Int32)), .unset]) (st' := [(.int (0 : Int32)), (.ref u)]) (fun _ kz => XS.iload X1.here hx rfl (hb hby d6_20) rfl kz) ?_
  have vv3 := V_u
  obtain ⟨cl3, Ar3, q3, S3, Nn3, H3, G3⟩ := vv3
  have hin3 : ¬ ((0 : Int32) < 0 ∨ cl3.slots.size ≤ ((0 : Int32)).toNatClampNeg) := inb_of S3 ⟨by decide, by decide⟩
  have hat3 : cl3.slots[((0 : Int32)).toNatClampNeg]? = some (.int y0) := Has.at H3 hin3 rfl
  refine goS (n := 23) (Ls' := #[.val (.ref a), .val (.int (0 : Int32)), .val (.ref u), .val (.int (5 : Int32)), .val (.int (0 : Int32)), .unset]) (st' := [(.int y0)]) (fun tz kz => X1.iaload hx (j := (0 : Int32)) (v := (.int y0)) (by rw [e1]; exact Ar3.1) (State.isArrayOf_alike hZ.alike Ar3.2.1) Ar3.2.2 hin3 hat3 (g := (mkF m 22 #[.val (.ref a), .val (.int (0 : Int32)), .val (.ref u), .val (.int (5 : Int32)), .val (.int (0 : Int32)), .unset] [(.int (0 : Int32)), (.ref u)])) rfl rfl (hb hby d6_22) tz kz) ?_
  refine goS (n := 25) (Ls' := #[.val (.ref a), .val (.int (0 : Int32)), .val (.ref u), .val (.int (5 : Int32)), .val (.int (0 : Int32)), .val (.int y0)]) (st' := []) (fun _ kz => XS.istore X1.here hx rfl (hb hby d6_23) rfl (l' := #[.val (.ref a), .val (.int (0 : Int32)), .val (.ref u), .val (.int (5 : Int32)), .val (.int (0 : Int32)), .val (.int y0)]) rfl kz) ?_
  refine goS (n := 26) (Ls' := #[.val (.ref a), .val (.int (0 : Int32)), .val (.ref u), .val (.int (5 : Int32)), .val (.int (0 : Int32)), .val (.int y0)]) (st' := [(.int (0 : Int32))]) (fun _ kz => XS.iloadN X1.here hx rfl (hb hby d6_25) rfl kz) ?_
  refine goS (n := 28) (Ls' := #[.val (.ref a), .val (.int (0 : Int32)), .val (.ref u), .val (.int (5 : Int32)), .val (.int (0 : Int32)), .val (.int y0)]) (st' := [(.int y0), (.int (0 : Int32))]) (fun _ kz => XS.iload X1.here hx rfl (hb hby d6_26) rfl kz) ?_
  refine goS (n := 29) (Ls' := #[.val (.ref a), .val (.int (0 : Int32)), .val (.ref u), .val (.int (5 : Int32)), .val (.int (0 : Int32)), .val (.int y0)]) (st' := [(.int ((0 : Int32) + y0))]) (fun _ kz => XS.iadd X1.here hx rfl (hb hby d6_28) rfl kz) ?_
  refine goS (n := 30) (Ls' := #[.val (.ref a), .val (.int ((0 : Int32) + y0)), .val (.ref u), .val (.int (5 : Int32)), .val (.int (0 : Int32)), .val (.int y0)]) (st' := []) (fun _ kz => XS.istoreN X1.here hx rfl (hb hby d6_29) rfl (l' := #[.val (.ref a), .val (.int ((0 : Int32) + y0)), .val (.ref u), .val (.int (5 : Int32)), .val (.int (0 : Int32)), .val (.int y0)]) rfl kz) ?_
  refine goS (n := 33) (Ls' := #[.val (.ref a), .val (.int ((0 : Int32) + y0)), .val (.ref u), .val (.int (5 : Int32)), .val (.int (1 : Int32)), .val (.int y0)]) (st' := []) (fun _ kz => XS.iinc X1.here hx rfl (hb hby d6_30) rfl (l' := #[.val (.ref a), .val (.int ((0 : Int32) + y0)), .val (.ref u), .val (.int (5 : Int32)), .val (.int (1 : Int32)), .val (.int y0)]) rfl kz) ?_
  refine goS (n := 13) (Ls' := #[.val (.ref a), .val (.int ((0 : Int32) + y0)), .val (.ref u), .val (.int (5 : Int32)), .val (.int (1 : Int32)), .val (.int y0)]) (st' := []) (fun _ kz => XS.goto X1.here hx rfl (pc0 := 33) (pc' := 13) rfl (hb hby d6_33) (by decide) (by decide) kz) ?_
  refine goS (n := 15) (Ls' := #[.val (.ref a), .val (.int ((0 : Int32) + y0)), .val (.ref u), .val (.int (5 : Int32)), .val (.int (1 : Int32)), .val (.int y0)]) (st' := [(.int (1 : Int32))]) (fun _ kz => XS.iload X1.here hx rfl (hb hby d6_13) rfl kz) ?_
  refine goS (n := 16) (Ls' := #[.val (.ref a), .val (.int ((0 : Int32) + y0)), .val (.ref u), .val (.int (5 : Int32)), .val (.int (1 : Int32)), .val (.int y0)]) (st' := [(.int (5 : Int32)), (.int (1 : Int32))]) (fun _ kz => XS.iloadN X1.here hx rfl (hb hby d6_15) rfl kz) ?_
  refine goS (n := 19) (Ls' := #[.val (.ref a), .val (.int ((0 : Int32) + y0)), .val (.ref u), .val (.int (5 : Int32)), .val (.int (1 : Int32)), .val (.int y0)]) (st' := []) (fun _ kz => XS.icmpNo X1.here hx rfl (hb hby d6_16) rfl (by decide) kz) ?_
  refine goS (n := 20) (Ls' := #[.val (.ref a), .val (.int ((0 : Int32) + y0)), .val (.ref u), .val (.int (5 : Int32)), .val (.int (1 : Int32)), .val (.int y0)]) (st' := [(.ref u)]) (fun _ kz => XS.aloadN X1.here hx rfl (hb hby d6_19) rfl rfl kz) ?_
  refine goS (n := 22) (Ls' := #[.val (.ref a), .val (.int ((0 : Int32) + y0)), .val (.ref u), .val (.int (5 : Int32)), .val (.int (1 : Int32)), .val (.int y0)]) (st' := [(.int (1 : Int32)), (.ref u)]) (fun _ kz => XS.iload X1.here hx rfl (hb hby d6_20) rfl kz) ?_
  have vv4 := V_u
  obtain ⟨cl4, Ar4, q4, S4, Nn4, H4, G4⟩ := vv4
  have hin4 : ¬ ((1 : Int32) < 0 ∨ cl4.slots.size ≤ ((1 : Int32)).toNatClampNeg) := inb_of S4 ⟨by decide, by decide⟩
  have hat4 : cl4.slots[((1 : Int32)).toNatClampNeg]? = some (.int y1) := Has.at H4 hin4 rfl
  refine goS (n := 23) (Ls' := #[.val (.ref a), .val (.int ((0 : Int32) + y0)), .val (.ref u), .val (.int (5 : Int32)), .val (.int (1 : Int32)), .val (.int y0)]) (st' := [(.int y1)]) (fun tz kz => X1.iaload hx (j := (1 : Int32)) (v := (.int y1)) (by rw [e1]; exact Ar4.1) (State.isArrayOf_alike hZ.alike Ar4.2.1) Ar4.2.2 hin4 hat4 (g := (mkF m 22 #[.val (.ref a), .val (.int ((0 : Int32) + y0)), .val (.ref u), .val (.int (5 : Int32)), .val (.int (1 : Int32)), .val (.int y0)] [(.int (1 : Int32)), (.ref u)])) rfl rfl (hb hby d6_22) tz kz) ?_
  refine goS (n := 25) (Ls' := #[.val (.ref a), .val (.int ((0 : Int32) + y0)), .val (.ref u), .val (.int (5 : Int32)), .val (.int (1 : Int32)), .val (.int y1)]) (st' := []) (fun _ kz => XS.istore X1.here hx rfl (hb hby d6_23) rfl (l' := #[.val (.ref a), .val (.int ((0 : Int32) + y0)), .val (.ref u), .val (.int (5 : Int32)), .val (.int (1 : Int32)), .val (.int y1)]) rfl kz) ?_
  refine goS (n := 26) (Ls' := #[.val (.ref a), .val (.int ((0 : Int32) + y0)), .val (.ref u), .val (.int (5 : Int32)), .val (.int (1 : Int32)), .val (.int y1)]) (st' := [(.int ((0 : Int32) + y0))]) (fun _ kz => XS.iloadN X1.here hx rfl (hb hby d6_25) rfl kz) ?_
  refine goS (n := 28) (Ls' := #[.val (.ref a), .val (.int ((0 : Int32) + y0)), .val (.ref u), .val (.int (5 : Int32)), .val (.int (1 : Int32)), .val (.int y1)]) (st' := [(.int y1), (.int ((0 : Int32) + y0))]) (fun _ kz => XS.iload X1.here hx rfl (hb hby d6_26) rfl kz) ?_
  refine goS (n := 29) (Ls' := #[.val (.ref a), .val (.int ((0 : Int32) + y0)), .val (.ref u), .val (.int (5 : Int32)), .val (.int (1 : Int32)), .val (.int y1)]) (st' := [(.int (((0 : Int32) + y0) + y1))]) (fun _ kz => XS.iadd X1.here hx rfl (hb hby d6_28) rfl kz) ?_
  refine goS (n := 30) (Ls' := #[.val (.ref a), .val (.int (((0 : Int32) + y0) + y1)), .val (.ref u), .val (.int (5 : Int32)), .val (.int (1 : Int32)), .val (.int y1)]) (st' := []) (fun _ kz => XS.istoreN X1.here hx rfl (hb hby d6_29) rfl (l' := #[.val (.ref a), .val (.int (((0 : Int32) + y0) + y1)), .val (.ref u), .val (.int (5 : Int32)), .val (.int (1 : Int32)), .val (.int y1)]) rfl kz) ?_
  refine goS (n := 33) (Ls' := #[.val (.ref a), .val (.int (((0 : Int32) + y0) + y1)), .val (.ref u), .val (.int (5 : Int32)), .val (.int (2 : Int32)), .val (.int y1)]) (st' := []) (fun _ kz => XS.iinc X1.here hx rfl (hb hby d6_30) rfl (l' := #[.val (.ref a), .val (.int (((0 : Int32) + y0) + y1)), .val (.ref u), .val (.int (5 : Int32)), .val (.int (2 : Int32)), .val (.int y1)]) rfl kz) ?_
  refine goS (n := 13) (Ls' := #[.val (.ref a), .val (.int (((0 : Int32) + y0) + y1)), .val (.ref u), .val (.int (5 : Int32)), .val (.int (2 : Int32)), .val (.int y1)]) (st' := []) (fun _ kz => XS.goto X1.here hx rfl (pc0 := 33) (pc' := 13) rfl (hb hby d6_33) (by decide) (by decide) kz) ?_
  refine goS (n := 15) (Ls' := #[.val (.ref a), .val (.int (((0 : Int32) + y0) + y1)), .val (.ref u), .val (.int (5 : Int32)), .val (.int (2 : Int32)), .val (.int y1)]) (st' := [(.int (2 : Int32))]) (fun _ kz => XS.iload X1.here hx rfl (hb hby d6_13) rfl kz) ?_
  refine goS (n := 16) (Ls' := #[.val (.ref a), .val (.int (((0 : Int32) + y0) + y1)), .val (.ref u), .val (.int (5 : Int32)), .val (.int (2 : Int32)), .val (.int y1)]) (st' := [(.int (5 : Int32)), (.int (2 : Int32))]) (fun _ kz => XS.iloadN X1.here hx rfl (hb hby d6_15) rfl kz) ?_
  refine goS (n := 19) (Ls' := #[.val (.ref a), .val (.int (((0 : Int32) + y0) + y1)), .val (.ref u), .val (.int (5 : Int32)), .val (.int (2 : Int32)), .val (.int y1)]) (st' := []) (fun _ kz => XS.icmpNo X1.here hx rfl (hb hby d6_16) rfl (by decide) kz) ?_
  refine goS (n := 20) (Ls' := #[.val (.ref a), .val (.int (((0 : Int32) + y0) + y1)), .val (.ref u), .val (.int (5 : Int32)), .val (.int (2 : Int32)), .val (.int y1)]) (st' := [(.ref u)]) (fun _ kz => XS.aloadN X1.here hx rfl (hb hby d6_19) rfl rfl kz) ?_
  refine goS (n := 22) (Ls' := #[.val (.ref a), .val (.int (((0 : Int32) + y0) + y1)), .val (.ref u), .val (.int (5 : Int32)), .val (.int (2 : Int32)), .val (.int y1)]) (st' := [(.int (2 : Int32)), (.ref u)]) (fun _ kz => XS.iload X1.here hx rfl (hb hby d6_20) rfl kz) ?_
  have vv5 := V_u
  obtain ⟨cl5, Ar5, q5, S5, Nn5, H5, G5⟩ := vv5
  have hin5 : ¬ ((2 : Int32) < 0 ∨ cl5.slots.size ≤ ((2 : Int32)).toNatClampNeg) := inb_of S5 ⟨by decide, by decide⟩
  have hat5 : cl5.slots[((2 : Int32)).toNatClampNeg]? = some (.int y2) := Has.at H5 hin5 rfl
  refine goS (n := 23) (Ls' := #[.val (.ref a), .val (.int (((0 : Int32) + y0) + y1)), .val (.ref u), .val (.int (5 : Int32)), .val (.int (2 : Int32)), .val (.int y1)]) (st' := [(.int y2)]) (fun tz kz => X1.iaload hx (j := (2 : Int32)) (v := (.int y2)) (by rw [e1]; exact Ar5.1) (State.isArrayOf_alike hZ.alike Ar5.2.1) Ar5.2.2 hin5 hat5 (g := (mkF m 22 #[.val (.ref a), .val (.int (((0 : Int32) + y0) + y1)), .val (.ref u), .val (.int (5 : Int32)), .val (.int (2 : Int32)), .val (.int y1)] [(.int (2 : Int32)), (.ref u)])) rfl rfl (hb hby d6_22) tz kz) ?_
  refine goS (n := 25) (Ls' := #[.val (.ref a), .val (.int (((0 : Int32) + y0) + y1)), .val (.ref u), .val (.int (5 : Int32)), .val (.int (2 : Int32)), .val (.int y2)]) (st' := []) (fun _ kz => XS.istore X1.here hx rfl (hb hby d6_23) rfl (l' := #[.val (.ref a), .val (.int (((0 : Int32) + y0) + y1)), .val (.ref u), .val (.int (5 : Int32)), .val (.int (2 : Int32)), .val (.int y2)]) rfl kz) ?_
  refine goS (n := 26) (Ls' := #[.val (.ref a), .val (.int (((0 : Int32) + y0) + y1)), .val (.ref u), .val (.int (5 : Int32)), .val (.int (2 : Int32)), .val (.int y2)]) (st' := [(.int (((0 : Int32) + y0) + y1))]) (fun _ kz => XS.iloadN X1.here hx rfl (hb hby d6_25) rfl kz) ?_
  refine goS (n := 28) (Ls' := #[.val (.ref a), .val (.int (((0 : Int32) + y0) + y1)), .val (.ref u), .val (.int (5 : Int32)), .val (.int (2 : Int32)), .val (.int y2)]) (st' := [(.int y2), (.int (((0 : Int32) + y0) + y1))]) (fun _ kz => XS.iload X1.here hx rfl (hb hby d6_26) rfl kz) ?_
  refine goS (n := 29) (Ls' := #[.val (.ref a), .val (.int (((0 : Int32) + y0) + y1)), .val (.ref u), .val (.int (5 : Int32)), .val (.int (2 : Int32)), .val (.int y2)]) (st' := [(.int ((((0 : Int32) + y0) + y1) + y2))]) (fun _ kz => XS.iadd X1.here hx rfl (hb hby d6_28) rfl kz) ?_
  refine goS (n := 30) (Ls' := #[.val (.ref a), .val (.int ((((0 : Int32) + y0) + y1) + y2)), .val (.ref u), .val (.int (5 : Int32)), .val (.int (2 : Int32)), .val (.int y2)]) (st' := []) (fun _ kz => XS.istoreN X1.here hx rfl (hb hby d6_29) rfl (l' := #[.val (.ref a), .val (.int ((((0 : Int32) + y0) + y1) + y2)), .val (.ref u), .val (.int (5 : Int32)), .val (.int (2 : Int32)), .val (.int y2)]) rfl kz) ?_
  refine goS (n := 33) (Ls' := #[.val (.ref a), .val (.int ((((0 : Int32) + y0) + y1) + y2)), .val (.ref u), .val (.int (5 : Int32)), .val (.int (3 : Int32)), .val (.int y2)]) (st' := []) (fun _ kz => XS.iinc X1.here hx rfl (hb hby d6_30) rfl (l' := #[.val (.ref a), .val (.int ((((0 : Int32) + y0) + y1) + y2)), .val (.ref u), .val (.int (5 : Int32)), .val (.int (3 : Int32)), .val (.int y2)]) rfl kz) ?_
  refine goS (n := 13) (Ls' := #[.val (.ref a), .val (.int ((((0 : Int32) + y0) + y1) + y2)), .val (.ref u), .val (.int (5 : Int32)), .val (.int (3 : Int32)), .val (.int y2)]) (st' := []) (fun _ kz => XS.goto X1.here hx rfl (pc0 := 33) (pc' := 13) rfl (hb hby d6_33) (by decide) (by decide) kz) ?_
  refine goS (n := 15) (Ls' := #[.val (.ref a), .val (.int ((((0 : Int32) + y0) + y1) + y2)), .val (.ref u), .val (.int (5 : Int32)), .val (.int (3 : Int32)), .val (.int y2)]) (st' := [(.int (3 : Int32))]) (fun _ kz => XS.iload X1.here hx rfl (hb hby d6_13) rfl kz) ?_
  refine goS (n := 16) (Ls' := #[.val (.ref a), .val (.int ((((0 : Int32) + y0) + y1) + y2)), .val (.ref u), .val (.int (5 : Int32)), .val (.int (3 : Int32)), .val (.int y2)]) (st' := [(.int (5 : Int32)), (.int (3 : Int32))]) (fun _ kz => XS.iloadN X1.here hx rfl (hb hby d6_15) rfl kz) ?_
  refine goS (n := 19) (Ls' := #[.val (.ref a), .val (.int ((((0 : Int32) + y0) + y1) + y2)), .val (.ref u), .val (.int (5 : Int32)), .val (.int (3 : Int32)), .val (.int y2)]) (st' := []) (fun _ kz => XS.icmpNo X1.here hx rfl (hb hby d6_16) rfl (by decide) kz) ?_
  refine goS (n := 20) (Ls' := #[.val (.ref a), .val (.int ((((0 : Int32) + y0) + y1) + y2)), .val (.ref u), .val (.int (5 : Int32)), .val (.int (3 : Int32)), .val (.int y2)]) (st' := [(.ref u)]) (fun _ kz => XS.aloadN X1.here hx rfl (hb hby d6_19) rfl rfl kz) ?_
  refine goS (n := 22) (Ls' := #[.val (.ref a), .val (.int ((((0 : Int32) + y0) + y1) + y2)), .val (.ref u), .val (.int (5 : Int32)), .val (.int (3 : Int32)), .val (.int y2)]) (st' := [(.int (3 : Int32)), (.ref u)]) (fun _ kz => XS.iload X1.here hx rfl (hb hby d6_20) rfl kz) ?_
  have vv6 := V_u
  obtain ⟨cl6, Ar6, q6, S6, Nn6, H6, G6⟩ := vv6
  have hin6 : ¬ ((3 : Int32) < 0 ∨ cl6.slots.size ≤ ((3 : Int32)).toNatClampNeg) := inb_of S6 ⟨by decide, by decide⟩
  have hat6 : cl6.slots[((3 : Int32)).toNatClampNeg]? = some (.int y3) := Has.at H6 hin6 rfl
  refine goS (n := 23) (Ls' := #[.val (.ref a), .val (.int ((((0 : Int32) + y0) + y1) + y2)), .val (.ref u), .val (.int (5 : Int32)), .val (.int (3 : Int32)), .val (.int y2)]) (st' := [(.int y3)]) (fun tz kz => X1.iaload hx (j := (3 : Int32)) (v := (.int y3)) (by rw [e1]; exact Ar6.1) (State.isArrayOf_alike hZ.alike Ar6.2.1) Ar6.2.2 hin6 hat6 (g := (mkF m 22 #[.val (.ref a), .val (.int ((((0 : Int32) + y0) + y1) + y2)), .val (.ref u), .val (.int (5 : Int32)), .val (.int (3 : Int32)), .val (.int y2)] [(.int (3 : Int32)), (.ref u)])) rfl rfl (hb hby d6_22) tz kz) ?_
  refine goS (n := 25) (Ls' := #[.val (.ref a), .val (.int ((((0 : Int32) + y0) + y1) + y2)), .val (.ref u), .val (.int (5 : Int32)), .val (.int (3 : Int32)), .val (.int y3)]) (st' := []) (fun _ kz => XS.istore X1.here hx rfl (hb hby d6_23) rfl (l' := #[.val (.ref a), .val (.int ((((0 : Int32) + y0) + y1) + y2)), .val (.ref u), .val (.int (5 : Int32)), .val (.int (3 : Int32)), .val (.int y3)]) rfl kz) ?_
  refine goS (n := 26) (Ls' := #[.val (.ref a), .val (.int ((((0 : Int32) + y0) + y1) + y2)), .val (.ref u), .val (.int (5 : Int32)), .val (.int (3 : Int32)), .val (.int y3)]) (st' := [(.int ((((0 : Int32) + y0) + y1) + y2))]) (fun _ kz => XS.iloadN X1.here hx rfl (hb hby d6_25) rfl kz) ?_
  refine goS (n := 28) (Ls' := #[.val (.ref a), .val (.int ((((0 : Int32) + y0) + y1) + y2)), .val (.ref u), .val (.int (5 : Int32)), .val (.int (3 : Int32)), .val (.int y3)]) (st' := [(.int y3), (.int ((((0 : Int32) + y0) + y1) + y2))]) (fun _ kz => XS.iload X1.here hx rfl (hb hby d6_26) rfl kz) ?_
  refine goS (n := 29) (Ls' := #[.val (.ref a), .val (.int ((((0 : Int32) + y0) + y1) + y2)), .val (.ref u), .val (.int (5 : Int32)), .val (.int (3 : Int32)), .val (.int y3)]) (st' := [(.int (((((0 : Int32) + y0) + y1) + y2) + y3))]) (fun _ kz => XS.iadd X1.here hx rfl (hb hby d6_28) rfl kz) ?_
  refine goS (n := 30) (Ls' := #[.val (.ref a), .val (.int (((((0 : Int32) + y0) + y1) + y2) + y3)), .val (.ref u), .val (.int (5 : Int32)), .val (.int (3 : Int32)), .val (.int y3)]) (st' := []) (fun _ kz => XS.istoreN X1.here hx rfl (hb hby d6_29) rfl (l' := #[.val (.ref a), .val (.int (((((0 : Int32) + y0) + y1) + y2) + y3)), .val (.ref u), .val (.int (5 : Int32)), .val (.int (3 : Int32)), .val (.int y3)]) rfl kz) ?_
  refine goS (n := 33) (Ls' := #[.val (.ref a), .val (.int (((((0 : Int32) + y0) + y1) + y2) + y3)), .val (.ref u), .val (.int (5 : Int32)), .val (.int (4 : Int32)), .val (.int y3)]) (st' := []) (fun _ kz => XS.iinc X1.here hx rfl (hb hby d6_30) rfl (l' := #[.val (.ref a), .val (.int (((((0 : Int32) + y0) + y1) + y2) + y3)), .val (.ref u), .val (.int (5 : Int32)), .val (.int (4 : Int32)), .val (.int y3)]) rfl kz) ?_
  refine goS (n := 13) (Ls' := #[.val (.ref a), .val (.int (((((0 : Int32) + y0) + y1) + y2) + y3)), .val (.ref u), .val (.int (5 : Int32)), .val (.int (4 : Int32)), .val (.int y3)]) (st' := []) (fun _ kz => XS.goto X1.here hx rfl (pc0 := 33) (pc' := 13) rfl (hb hby d6_33) (by decide) (by decide) kz) ?_
  refine goS (n := 15) (Ls' := #[.val (.ref a), .val (.int (((((0 : Int32) + y0) + y1) + y2) + y3)), .val (.ref u), .val (.int (5 : Int32)), .val (.int (4 : Int32)), .val (.int y3)]) (st' := [(.int (4 : Int32))]) (fun _ kz => XS.iload X1.here hx rfl (hb hby d6_13) rfl kz) ?_
  refine goS (n := 16) (Ls' := #[.val (.ref a), .val (.int (((((0 : Int32) + y0) + y1) + y2) + y3)), .val (.ref u), .val (.int (5 : Int32)), .val (.int (4 : Int32)), .val (.int y3)]) (st' := [(.int (5 : Int32)), (.int (4 : Int32))]) (fun _ kz => XS.iloadN X1.here hx rfl (hb hby d6_15) rfl kz) ?_
  refine goS (n := 19) (Ls' := #[.val (.ref a), .val (.int (((((0 : Int32) + y0) + y1) + y2) + y3)), .val (.ref u), .val (.int (5 : Int32)), .val (.int (4 : Int32)), .val (.int y3)]) (st' := []) (fun _ kz => XS.icmpNo X1.here hx rfl (hb hby d6_16) rfl (by decide) kz) ?_
  refine goS (n := 20) (Ls' := #[.val (.ref a), .val (.int (((((0 : Int32) + y0) + y1) + y2) + y3)), .val (.ref u), .val (.int (5 : Int32)), .val (.int (4 : Int32)), .val (.int y3)]) (st' := [(.ref u)]) (fun _ kz => XS.aloadN X1.here hx rfl (hb hby d6_19) rfl rfl kz) ?_
  refine goS (n := 22) (Ls' := #[.val (.ref a), .val (.int (((((0 : Int32) + y0) + y1) + y2) + y3)), .val (.ref u), .val (.int (5 : Int32)), .val (.int (4 : Int32)), .val (.int y3)]) (st' := [(.int (4 : Int32)), (.ref u)]) (fun _ kz => XS.iload X1.here hx rfl (hb hby d6_20) rfl kz) ?_
  have vv7 := V_u
  obtain ⟨cl7, Ar7, q7, S7, Nn7, H7, G7⟩ := vv7
  have hin7 : ¬ ((4 : Int32) < 0 ∨ cl7.slots.size ≤ ((4 : Int32)).toNatClampNeg) := inb_of S7 ⟨by decide, by decide⟩
  have hat7 : cl7.slots[((4 : Int32)).toNatClampNeg]? = some (.int y4) := Has.at H7 hin7 rfl
  refine goS (n := 23) (Ls' := #[.val (.ref a), .val (.int (((((0 : Int32) + y0) + y1) + y2) + y3)), .val (.ref u), .val (.int (5 : Int32)), .val (.int (4 : Int32)), .val (.int y3)]) (st' := [(.int y4)]) (fun tz kz => X1.iaload hx (j := (4 : Int32)) (v := (.int y4)) (by rw [e1]; exact Ar7.1) (State.isArrayOf_alike hZ.alike Ar7.2.1) Ar7.2.2 hin7 hat7 (g := (mkF m 22 #[.val (.ref a), .val (.int (((((0 : Int32) + y0) + y1) + y2) + y3)), .val (.ref u), .val (.int (5 : Int32)), .val (.int (4 : Int32)), .val (.int y3)] [(.int (4 : Int32)), (.ref u)])) rfl rfl (hb hby d6_22) tz kz) ?_
  refine goS (n := 25) (Ls' := #[.val (.ref a), .val (.int (((((0 : Int32) + y0) + y1) + y2) + y3)), .val (.ref u), .val (.int (5 : Int32)), .val (.int (4 : Int32)), .val (.int y4)]) (st' := []) (fun _ kz => XS.istore X1.here hx rfl (hb hby d6_23) rfl (l' := #[.val (.ref a), .val (.int (((((0 : Int32) + y0) + y1) + y2) + y3)), .val (.ref u), .val (.int (5 : Int32)), .val (.int (4 : Int32)), .val (.int y4)]) rfl kz) ?_
  refine goS (n := 26) (Ls' := #[.val (.ref a), .val (.int (((((0 : Int32) + y0) + y1) + y2) + y3)), .val (.ref u), .val (.int (5 : Int32)), .val (.int (4 : Int32)), .val (.int y4)]) (st' := [(.int (((((0 : Int32) + y0) + y1) + y2) + y3))]) (fun _ kz => XS.iloadN X1.here hx rfl (hb hby d6_25) rfl kz) ?_
  refine goS (n := 28) (Ls' := #[.val (.ref a), .val (.int (((((0 : Int32) + y0) + y1) + y2) + y3)), .val (.ref u), .val (.int (5 : Int32)), .val (.int (4 : Int32)), .val (.int y4)]) (st' := [(.int y4), (.int (((((0 : Int32) + y0) + y1) + y2) + y3))]) (fun _ kz => XS.iload X1.here hx rfl (hb hby d6_26) rfl kz) ?_
  refine goS (n := 29) (Ls' := #[.val (.ref a), .val (.int (((((0 : Int32) + y0) + y1) + y2) + y3)), .val (.ref u), .val (.int (5 : Int32)), .val (.int (4 : Int32)), .val (.int y4)]) (st' := [(.int ((((((0 : Int32) + y0) + y1) + y2) + y3) + y4))]) (fun _ kz => XS.iadd X1.here hx rfl (hb hby d6_28) rfl kz) ?_
  refine goS (n := 30) (Ls' := #[.val (.ref a), .val (.int ((((((0 : Int32) + y0) + y1) + y2) + y3) + y4)), .val (.ref u), .val (.int (5 : Int32)), .val (.int (4 : Int32)), .val (.int y4)]) (st' := []) (fun _ kz => XS.istoreN X1.here hx rfl (hb hby d6_29) rfl (l' := #[.val (.ref a), .val (.int ((((((0 : Int32) + y0) + y1) + y2) + y3) + y4)), .val (.ref u), .val (.int (5 : Int32)), .val (.int (4 : Int32)), .val (.int y4)]) rfl kz) ?_
  refine goS (n := 33) (Ls' := #[.val (.ref a), .val (.int ((((((0 : Int32) + y0) + y1) + y2) + y3) + y4)), .val (.ref u), .val (.int (5 : Int32)), .val (.int (5 : Int32)), .val (.int y4)]) (st' := []) (fun _ kz => XS.iinc X1.here hx rfl (hb hby d6_30) rfl (l' := #[.val (.ref a), .val (.int ((((((0 : Int32) + y0) + y1) + y2) + y3) + y4)), .val (.ref u), .val (.int (5 : Int32)), .val (.int (5 : Int32)), .val (.int y4)]) rfl kz) ?_
  refine goS (n := 13) (Ls' := #[.val (.ref a), .val (.int ((((((0 : Int32) + y0) + y1) + y2) + y3) + y4)), .val (.ref u), .val (.int (5 : Int32)), .val (.int (5 : Int32)), .val (.int y4)]) (st' := []) (fun _ kz => XS.goto X1.here hx rfl (pc0 := 33) (pc' := 13) rfl (hb hby d6_33) (by decide) (by decide) kz) ?_
  refine goS (n := 15) (Ls' := #[.val (.ref a), .val (.int ((((((0 : Int32) + y0) + y1) + y2) + y3) + y4)), .val (.ref u), .val (.int (5 : Int32)), .val (.int (5 : Int32)), .val (.int y4)]) (st' := [(.int (5 : Int32))]) (fun _ kz => XS.iload X1.here hx rfl (hb hby d6_13) rfl kz) ?_
  refine goS (n := 16) (Ls' := #[.val (.ref a), .val (.int ((((((0 : Int32) + y0) + y1) + y2) + y3) + y4)), .val (.ref u), .val (.int (5 : Int32)), .val (.int (5 : Int32)), .val (.int y4)]) (st' := [(.int (5 : Int32)), (.int (5 : Int32))]) (fun _ kz => XS.iloadN X1.here hx rfl (hb hby d6_15) rfl kz) ?_
  refine goS (n := 36) (Ls' := #[.val (.ref a), .val (.int ((((((0 : Int32) + y0) + y1) + y2) + y3) + y4)), .val (.ref u), .val (.int (5 : Int32)), .val (.int (5 : Int32)), .val (.int y4)]) (st' := []) (fun _ kz => XS.icmpYes X1.here hx rfl (pc0 := 16) (pc' := 36) rfl (hb hby d6_16) rfl (by decide) (by decide) (by decide) kz) ?_
  refine goS (n := 37) (Ls' := #[.val (.ref a), .val (.int ((((((0 : Int32) + y0) + y1) + y2) + y3) + y4)), .val (.ref u), .val (.int (5 : Int32)), .val (.int (5 : Int32)), .val (.int y4)]) (st' := [(.int ((((((0 : Int32) + y0) + y1) + y2) + y3) + y4))]) (fun _ kz => XS.iloadN X1.here hx rfl (hb hby d6_36) rfl kz) ?_
  exact goRetI X1 hx hlk Bd.returns (hb hby d6_37) (by decide) (by decide) (by rw [e1]; exact ⟨rfl, N0, rfl⟩)
theorem pd_2 : parseMethodDescriptor "()V" = some ⟨[], none⟩ := by decide +kernel
theorem pd_3 : parseMethodDescriptor "(Lcom/example/lampwright/lampwright/game/Kind;I)V" = some ⟨[(.object "com/example/lampwright/lampwright/game/Kind"), .int], none⟩ := by decide +kernel
theorem pn_3 : plainName "com/example/lampwright/lampwright/game/TreasureTotalPinLaw" = true := by first | (simp [plainName, overriddenIn]; done) | decide +kernel
theorem ef_law (m : MethodId) (p1 : Int32) (p2 : Int32) (p3 : Int32) (p4 : Int32) (p5 : Int32) (p6 : Int32) : entryFrame m #[(.int p1), (.int p2), (.int p3), (.int p4), (.int p5), (.int p6)] maxLocals = mkF m 0 #[.val (.int p1), .val (.int p2), .val (.int p3), .val (.int p4), .val (.int p5), .val (.int p6), .unset, .unset] [] := by first | (simp [entryFrame, mkF, argsToLocals, Value.category, maxLocals]; done) | rfl
def Q_law (Z : State) (p1 : Int32) (p2 : Int32) (p3 : Int32) (p4 : Int32) (p5 : Int32) (p6 : Int32) (W : Nat → Addr) (va : Addr) (vc : Cell) (h0 : Heap) (n0 : Nat) (v : Option Value) (h : Heap) (L : List Loc) : Prop := v = some (.int 1) ∧ Fr n0 L
set_option maxRecDepth 65536 in
set_option maxHeartbeats 40000000 in
theorem rm_law (l : Launch) (Z : State) (a0 : Array Value) (hw : ∀ d ∈ tables_1, d.before a0 Z = true) (ws : List Jvm.Cond) (p1 : Int32) (p2 : Int32) (p3 : Int32) (p4 : Int32) (p5 : Int32) (p6 : Int32) (W : Nat → Addr) (va : Addr) (vc : Cell) (h0 : Heap) (n0 : Nat) (O0 : Old Z n0 h0) (S_CROWN : Sta Z Z.heap "com/example/lampwright/lampwright/game/Kind" "CROWN" "Lcom/example/lampwright/lampwright/game/Kind;" (.ref (W 0))) (S_PEARL : Sta Z Z.heap "com/example/lampwright/lampwright/game/Kind" "PEARL" "Lcom/example/lampwright/lampwright/game/Kind;" (.ref (W 1))) (S_GEM : Sta Z Z.heap "com/example/lampwright/lampwright/game/Kind" "GEM" "Lcom/example/lampwright/lampwright/game/Kind;" (.ref (W 2))) (S_TROPHY : Sta Z Z.heap "com/example/lampwright/lampwright/game/Kind" "TROPHY" "Lcom/example/lampwright/lampwright/game/Kind;" (.ref (W 3))) (S_GOLD : Sta Z Z.heap "com/example/lampwright/lampwright/game/Kind" "GOLD" "Lcom/example/lampwright/lampwright/game/Kind;" (.ref (W 4))) (EX : ∀ n, n < 5 → Exa Z Z.heap (W n) "com/example/lampwright/lampwright/game/Kind") (OR : ∀ n, n < 5 → Fld Z Z.heap (W n) "java/lang/Enum" "ordinal" "I" (.int (Int32.ofNat n))) (S_V : Sta Z Z.heap "com/example/lampwright/lampwright/game/Kind" "$VALUES" "[Lcom/example/lampwright/lampwright/game/Kind;" (.ref va)) (AV : Arr Z Z.heap va vc (.object "com/example/lampwright/lampwright/game/Kind")) (EV : Exa Z Z.heap va "[Lcom/example/lampwright/lampwright/game/Kind;") (FV : FitC Z vc) (SV : vc.slots.size = 5) :
    MetFree l x (head1 (Jvm.Cond.code x code maxLocals ret :: ws) room_1) (fun as_ U => as_ = #[(.int p1), (.int p2), (.int p3), (.int p4), (.int p5), (.int p6)] ∧ Z.Warmed39 U.vm ∧ U.heap = h0) (fun _ _ _ _ _ => True) (fun _ U o U' => ∃ v L, o = .returned v ∧ Q_law Z p1 p2 p3 p4 p5 p6 W va vc h0 n0 v U'.heap L ∧ FrameEnd U o U' L room_1.cells room_1.slots) := by
  refine MetFree.of_bodySF (plainFor_of_name pn_3) hisR ?_
  intro p e s m args below meth c s₁ Bd hml0 hP hK
  obtain ⟨rfl, hZ, hh⟩ := hP
  have hx := Bd.exec
  have hby := Bd.bytes
  have hml : c.maxLocals = 8 := hml0
  have hown : s.vm.findClass "com/example/lampwright/lampwright/game/TreasureTotalPinLaw" = some m.cls := findClass_of_methodNamed Bd.named
  have hnm := (name_of_methodNamed Bd.named Bd.method).1
  have hlk : meth.locks = false := BodyLoose.notSynchronized Bd
  have X0 : Stand p l e room_1 s m #[(.int p1), (.int p2), (.int p3), (.int p4), (.int p5), (.int p6)] below meth c s₁ [] 0 0 := Stand.of_body Bd
  have e0 : s₁.heap = h0 := by rw [← hh, Bd.state]; rfl
  have N0 := Fr.nil n0
  refine enter (P := PQ s room_1.cells room_1.slots (Q_law Z p1 p2 p3 p4 p5 p6 W va vc h0 n0)) (ef_law m p1 p2 p3 p4 p5 p6) ?_
  obtain ⟨T1, h1, X1, e1, E1, A1, D1, -, st1⟩ := newO X0 hx hZ hown (hw _ (List.mem_of_getElem? (i := 0) rfl)) (hw _ (List.mem_of_getElem? (i := 1) rfl)) (hw _ (List.mem_of_getElem? (i := 2) rfl)) e0 (g := (mkF m 0 #[.val (.int p1), .val (.int p2), .val (.int p3), .val (.int p4), .val (.int p5), .val (.int p6), .unset, .unset] [])) rfl (hb hby at_0) (by decide) (by decide)
  obtain ⟨b1, g1⟩ : ∃ z, z = h0.size := ⟨_, rfl⟩
  rw [← g1] at A1 D1 st1
  have g_b1 : n0 ≤ b1 := Nat.le_trans (O0.1 ▸ O0.2.1) (Nat.le_of_eq g1.symm)
  have F_units_b1 : Fld Z h1 b1 "com/example/lampwright/lampwright/game/Treasure" "units" "[I" .null := D1 (Or.inr (hw _ (List.mem_of_getElem? (i := 32) rfl))) (ty := (.array .int)) (by decide)
  have E_b1 : Exa Z h1 b1 "com/example/lampwright/lampwright/game/Treasure" := A1
  have O1 := O0.ext E1
  refine goS (n := 3) (Ls' := #[.val (.int p1), .val (.int p2), .val (.int p3), .val (.int p4), .val (.int p5), .val (.int p6), .unset, .unset]) (st' := [(.ref b1)]) st1 ?_
  refine goS (n := 4) (Ls' := #[.val (.int p1), .val (.int p2), .val (.int p3), .val (.int p4), .val (.int p5), .val (.int p6), .unset, .unset]) (st' := [(.ref b1), (.ref b1)]) (fun _ kz => XS.dup X1.here hx rfl (hb hby at_3) rfl rfl kz) ?_
  obtain ⟨_, _, ⟨T2, L2, k2, n2⟩, -, X2, ⟨Lc2, hQ2, l2, y2, z2⟩, st2⟩ := X1.specialBack hx (y := (⟨"com/example/lampwright/lampwright/game/Treasure", "<init>", "()V"⟩ : MethodName)) rfl hown (mvT hZ (hw _ (List.mem_of_getElem? (i := 3) rfl))) (mvT hZ (hw _ (List.mem_of_getElem? (i := 4) rfl))) (mvT hZ (hw _ (List.mem_of_getElem? (i := 5) rfl))) (by decide) (backOf (W := 1) (rm_init l Z a0 hw [] b1 va vc h1 n0 O1 S_V AV EV FV SV E_b1 F_units_b1 g_b1) hZ (hw _ (List.mem_of_getElem? (i := 5) rfl)) (hw _ (List.mem_of_getElem? (i := 2) rfl)) (by decide) (by decide)) (g := (mkF m 4 #[.val (.int p1), .val (.int p2), .val (.int p3), .val (.int p4), .val (.int p5), .val (.int p6), .unset, .unset] [(.ref b1), (.ref b1)])) rfl (by rw [hml]; rfl) (Steps.refl _) (a := b1) (argsL := []) (rest := [(.ref b1)]) (lenOf pd_2 rfl) rfl (by show 2 * 0 + _ ≤ _; exact Nat.le_of_eq rfl) (hb hby at_4) (fun _ _ => ⟨rfl, e1, (Nat.le_of_ble_eq_true rfl), (Nat.le_of_ble_eq_true rfl)⟩)
  dsimp only [Pt.U, Pt.locs, Pt.cells, Pt.slots] at X2 l2 y2 z2 st2 hQ2
  subst l2 y2 z2
  obtain ⟨rfl, u2, ku2, N2q, K2, F_units_b1, g_u2, zu2, V_u2⟩ := hQ2
  have ne_b1_u2 : b1 ≠ u2 := Nat.ne_of_lt (Nat.lt_of_lt_of_le E_b1.lt zu2)
  have N2 := Fr.app N0 N2q
  have e2 : T2.heap = T2.heap := rfl
  have O2 := O1.keep K2 (allS g_b1 all0)
  have E_b1 : Exa Z T2.heap b1 "com/example/lampwright/lampwright/game/Treasure" := E_b1.keep K2
  refine goT (n := 7) (Ls' := #[.val (.int p1), .val (.int p2), .val (.int p3), .val (.int p4), .val (.int p5), .val (.int p6), .unset, .unset]) (st' := [(.ref b1)]) st2 ?_
  refine goS (n := 9) (Ls' := #[.val (.int p1), .val (.int p2), .val (.int p3), .val (.int p4), .val (.int p5), .val (.int p6), .val (.ref b1), .unset]) (st' := []) (fun _ kz => XS.astore X2.here hx rfl (hb hby at_7) rfl rfl (l' := #[.val (.int p1), .val (.int p2), .val (.int p3), .val (.int p4), .val (.int p5), .val (.int p6), .val (.ref b1), .unset]) rfl kz) ?_
  refine goS (n := 11) (Ls' := #[.val (.int p1), .val (.int p2), .val (.int p3), .val (.int p4), .val (.int p5), .val (.int p6), .val (.ref b1), .unset]) (st' := [(.ref b1)]) (fun _ kz => XS.aload X2.here hx rfl (hb hby at_9) rfl rfl kz) ?_
  obtain ⟨T3, X3, e3, st3⟩ := getS2 X2 hx hZ hown (host := "") (Or.inl (hw _ (List.mem_of_getElem? (i := 33) rfl))) Via.refl e2 (S_CROWN.ext O2.2) (g := (mkF m 11 #[.val (.int p1), .val (.int p2), .val (.int p3), .val (.int p4), .val (.int p5), .val (.int p6), .val (.ref b1), .unset] [(.ref b1)])) rfl (hb hby at_11)
  refine goS (n := 14) (Ls' := #[.val (.int p1), .val (.int p2), .val (.int p3), .val (.int p4), .val (.int p5), .val (.int p6), .val (.ref b1), .unset]) (st' := [(.ref (W 0)), (.ref b1)]) st3 ?_
  refine goS (n := 15) (Ls' := #[.val (.int p1), .val (.int p2), .val (.int p3), .val (.int p4), .val (.int p5), .val (.int p6), .val (.ref b1), .unset]) (st' := [(.int p1), (.ref (W 0)), (.ref b1)]) (fun _ kz => XS.iloadN X3.here hx rfl (hb hby at_14) rfl kz) ?_
  obtain ⟨cq4, kq4, q4a, q4b, q4c⟩ := isOf hZ e3 E_b1
  obtain ⟨_, _, ⟨T4, L4, k4, n4⟩, -, X4, ⟨Lc4, hQ4, l4, y4, z4⟩, st4⟩ := X3.virtualBack hx (y := (⟨"com/example/lampwright/lampwright/game/Treasure", "add", "(Lcom/example/lampwright/lampwright/game/Kind;I)V"⟩ : MethodName)) (z := (⟨"com/example/lampwright/lampwright/game/Treasure", "add", "(Lcom/example/lampwright/lampwright/game/Kind;I)V"⟩ : MethodName)) hown (mvT hZ (hw _ (List.mem_of_getElem? (i := 34) rfl))) (mvT hZ (hw _ (List.mem_of_getElem? (i := 35) rfl))) (notFace_of_selects (args := #[]) (mvT hZ (hw _ (List.mem_of_getElem? (i := 37) rfl)))) (mvT hZ (hw _ (List.mem_of_getElem? (i := 37) rfl))) (mvT hZ (hw _ (List.mem_of_getElem? (i := 36) rfl))) (by decide) (backOf (W := 0) (rm_add0 l Z a0 hw [] b1 (W 0) p1 u2 ku2 (0 : Int32) (0 : Int32) (0 : Int32) (0 : Int32) (0 : Int32) T2.heap n0 O2 F_units_b1 (OR 0 (by decide)) (EX 0 (by decide)) g_u2 V_u2) hZ (hw _ (List.mem_of_getElem? (i := 38) rfl)) (hw _ (List.mem_of_getElem? (i := 2) rfl)) (by decide) (by decide)) q4a q4c (g := (mkF m 15 #[.val (.int p1), .val (.int p2), .val (.int p3), .val (.int p4), .val (.int p5), .val (.int p6), .val (.ref b1), .unset] [(.int p1), (.ref (W 0)), (.ref b1)])) rfl (by rw [hml]; rfl) (Steps.refl _) (argsL := [(.ref (W 0)), (.int p1)]) (rest := []) (lenOf pd_3 rfl) rfl (by show 2 * 0 + _ ≤ _; exact Nat.le_of_eq rfl) (hb hby at_15) (fun _ _ => ⟨rfl, e3, (Nat.le_of_ble_eq_true rfl), (Nat.le_of_ble_eq_true rfl)⟩)
  dsimp only [Pt.U, Pt.locs, Pt.cells, Pt.slots] at X4 l4 y4 z4 st4 hQ4
  subst l4 y4 z4
  obtain ⟨rfl, N4q, K4, V_u2⟩ := hQ4
  have N4 := Fr.app N2 N4q
  have e4 : T4.heap = T4.heap := rfl
  have O4 := O2.keep K4 (allS g_u2 all0)
  have E_b1 : Exa Z T4.heap b1 "com/example/lampwright/lampwright/game/Treasure" := E_b1.keep K4
  have F_units_b1 : Fld Z T4.heap b1 "com/example/lampwright/lampwright/game/Treasure" "units" "[I" (.ref u2) := F_units_b1.keep K4 (ninS ne_b1_u2 nin0)
  refine goT (n := 18) (Ls' := #[.val (.int p1), .val (.int p2), .val (.int p3), .val (.int p4), .val (.int p5), .val (.int p6), .val (.ref b1), .unset]) (st' := []) st4 ?_
  refine goS (n := 20) (Ls' := #[.val (.int p1), .val (.int p2), .val (.int p3), .val (.int p4), .val (.int p5), .val (.int p6), .val (.ref b1), .unset]) (st' := [(.ref b1)]) (fun _ kz => XS.aload X4.here hx rfl (hb hby at_18) rfl rfl kz) ?_
  obtain ⟨T5, X5, e5, st5⟩ := getS2 X4 hx hZ hown (host := "") (Or.inl (hw _ (List.mem_of_getElem? (i := 48) rfl))) Via.refl e4 (S_PEARL.ext O4.2) (g := (mkF m 20 #[.val (.int p1), .val (.int p2), .val (.int p3), .val (.int p4), .val (.int p5), .val (.int p6), .val (.ref b1), .unset] [(.ref b1)])) rfl (hb hby at_20)
  refine goS (n := 23) (Ls' := #[.val (.int p1), .val (.int p2), .val (.int p3), .val (.int p4), .val (.int p5), .val (.int p6), .val (.ref b1), .unset]) (st' := [(.ref (W 1)), (.ref b1)]) st5 ?_
  refine goS (n := 24) (Ls' := #[.val (.int p1), .val (.int p2), .val (.int p3), .val (.int p4), .val (.int p5), .val (.int p6), .val (.ref b1), .unset]) (st' := [(.int p2), (.ref (W 1)), (.ref b1)]) (fun _ kz => XS.iloadN X5.here hx rfl (hb hby at_23) rfl kz) ?_
  obtain ⟨cq6, kq6, q6a, q6b, q6c⟩ := isOf hZ e5 E_b1
  obtain ⟨_, _, ⟨T6, L6, k6, n6⟩, -, X6, ⟨Lc6, hQ6, l6, y6, z6⟩, st6⟩ := X5.virtualBack hx (y := (⟨"com/example/lampwright/lampwright/game/Treasure", "add", "(Lcom/example/lampwright/lampwright/game/Kind;I)V"⟩ : MethodName)) (z := (⟨"com/example/lampwright/lampwright/game/Treasure", "add", "(Lcom/example/lampwright/lampwright/game/Kind;I)V"⟩ : MethodName)) hown (mvT hZ (hw _ (List.mem_of_getElem? (i := 34) rfl))) (mvT hZ (hw _ (List.mem_of_getElem? (i := 35) rfl))) (notFace_of_selects (args := #[]) (mvT hZ (hw _ (List.mem_of_getElem? (i := 37) rfl)))) (mvT hZ (hw _ (List.mem_of_getElem? (i := 37) rfl))) (mvT hZ (hw _ (List.mem_of_getElem? (i := 36) rfl))) (by decide) (backOf (W := 0) (rm_add1 l Z a0 hw [] b1 (W 1) p2 u2 ku2 ((0 : Int32) + p1) (0 : Int32) (0 : Int32) (0 : Int32) (0 : Int32) T4.heap n0 O4 F_units_b1 (OR 1 (by decide)) (EX 1 (by decide)) g_u2 V_u2) hZ (hw _ (List.mem_of_getElem? (i := 38) rfl)) (hw _ (List.mem_of_getElem? (i := 2) rfl)) (by decide) (by decide)) q6a q6c (g := (mkF m 24 #[.val (.int p1), .val (.int p2), .val (.int p3), .val (.int p4), .val (.int p5), .val (.int p6), .val (.ref b1), .unset] [(.int p2), (.ref (W 1)), (.ref b1)])) rfl (by rw [hml]; rfl) (Steps.refl _) (argsL := [(.ref (W 1)), (.int p2)]) (rest := []) (lenOf pd_3 rfl) rfl (by show 2 * 0 + _ ≤ _; exact Nat.le_of_eq rfl) (hb hby at_24) (fun _ _ => ⟨rfl, e5, (Nat.le_of_ble_eq_true rfl), (Nat.le_of_ble_eq_true rfl)⟩)
  dsimp only [Pt.U, Pt.locs, Pt.cells, Pt.slots] at X6 l6 y6 z6 st6 hQ6
  subst l6 y6 z6
  obtain ⟨rfl, N6q, K6, V_u2⟩ := hQ6
  have N6 := Fr.app N4 N6q
  have e6 : T6.heap = T6.heap := rfl
  have O6 := O4.keep K6 (allS g_u2 all0)
  have E_b1 : Exa Z T6.heap b1 "com/example/lampwright/lampwright/game/Treasure" := E_b1.keep K6
  have F_units_b1 : Fld Z T6.heap b1 "com/example/lampwright/lampwright/game/Treasure" "units" "[I" (.ref u2) := F_units_b1.keep K6 (ninS ne_b1_u2 nin0)
  refine goT (n := 27) (Ls' := #[.val (.int p1), .val (.int p2), .val (.int p3), .val (.int p4), .val (.int p5), .val (.int p6), .val (.ref b1), .unset]) (st' := []) st6 ?_
  refine goS (n := 29) (Ls' := #[.val (.int p1), .val (.int p2), .val (.int p3), .val (.int p4), .val (.int p5), .val (.int p6), .val (.ref b1), .unset]) (st' := [(.ref b1)]) (fun _ kz => XS.aload X6.here hx rfl (hb hby at_27) rfl rfl kz) ?_
  obtain ⟨T7, X7, e7, st7⟩ := getS2 X6 hx hZ hown (host := "") (Or.inl (hw _ (List.mem_of_getElem? (i := 49) rfl))) Via.refl e6 (S_GEM.ext O6.2) (g := (mkF m 29 #[.val (.int p1), .val (.int p2), .val (.int p3), .val (.int p4), .val (.int p5), .val (.int p6), .val (.ref b1), .unset] [(.ref b1)])) rfl (hb hby at_29)
  refine goS (n := 32) (Ls' := #[.val (.int p1), .val (.int p2), .val (.int p3), .val (.int p4), .val (.int p5), .val (.int p6), .val (.ref b1), .unset]) (st' := [(.ref (W 2)), (.ref b1)]) st7 ?_
  refine goS (n := 33) (Ls' := #[.val (.int p1), .val (.int p2), .val (.int p3), .val (.int p4), .val (.int p5), .val (.int p6), .val (.ref b1), .unset]) (st' := [(.int p3), (.ref (W 2)), (.ref b1)]) (fun _ kz => XS.iloadN X7.here hx rfl (hb hby at_32) rfl kz) ?_
  obtain ⟨cq8, kq8, q8a, q8b, q8c⟩ := isOf hZ e7 E_b1
  obtain ⟨_, _, ⟨T8, L8, k8, n8⟩, -, X8, ⟨Lc8, hQ8, l8, y8, z8⟩, st8⟩ := X7.virtualBack hx (y := (⟨"com/example/lampwright/lampwright/game/Treasure", "add", "(Lcom/example/lampwright/lampwright/game/Kind;I)V"⟩ : MethodName)) (z := (⟨"com/example/lampwright/lampwright/game/Treasure", "add", "(Lcom/example/lampwright/lampwright/game/Kind;I)V"⟩ : MethodName)) hown (mvT hZ (hw _ (List.mem_of_getElem? (i := 34) rfl))) (mvT hZ (hw _ (List.mem_of_getElem? (i := 35) rfl))) (notFace_of_selects (args := #[]) (mvT hZ (hw _ (List.mem_of_getElem? (i := 37) rfl)))) (mvT hZ (hw _ (List.mem_of_getElem? (i := 37) rfl))) (mvT hZ (hw _ (List.mem_of_getElem? (i := 36) rfl))) (by decide) (backOf (W := 0) (rm_add2 l Z a0 hw [] b1 (W 2) p3 u2 ku2 ((0 : Int32) + p1) ((0 : Int32) + p2) (0 : Int32) (0 : Int32) (0 : Int32) T6.heap n0 O6 F_units_b1 (OR 2 (by decide)) (EX 2 (by decide)) g_u2 V_u2) hZ (hw _ (List.mem_of_getElem? (i := 38) rfl)) (hw _ (List.mem_of_getElem? (i := 2) rfl)) (by decide) (by decide)) q8a q8c (g := (mkF m 33 #[.val (.int p1), .val (.int p2), .val (.int p3), .val (.int p4), .val (.int p5), .val (.int p6), .val (.ref b1), .unset] [(.int p3), (.ref (W 2)), (.ref b1)])) rfl (by rw [hml]; rfl) (Steps.refl _) (argsL := [(.ref (W 2)), (.int p3)]) (rest := []) (lenOf pd_3 rfl) rfl (by show 2 * 0 + _ ≤ _; exact Nat.le_of_eq rfl) (hb hby at_33) (fun _ _ => ⟨rfl, e7, (Nat.le_of_ble_eq_true rfl), (Nat.le_of_ble_eq_true rfl)⟩)
  dsimp only [Pt.U, Pt.locs, Pt.cells, Pt.slots] at X8 l8 y8 z8 st8 hQ8
  subst l8 y8 z8
  obtain ⟨rfl, N8q, K8, V_u2⟩ := hQ8
  have N8 := Fr.app N6 N8q
  have e8 : T8.heap = T8.heap := rfl
  have O8 := O6.keep K8 (allS g_u2 all0)
  have E_b1 : Exa Z T8.heap b1 "com/example/lampwright/lampwright/game/Treasure" := E_b1.keep K8
  have F_units_b1 : Fld Z T8.heap b1 "com/example/lampwright/lampwright/game/Treasure" "units" "[I" (.ref u2) := F_units_b1.keep K8 (ninS ne_b1_u2 nin0)
  refine goT (n := 36) (Ls' := #[.val (.int p1), .val (.int p2), .val (.int p3), .val (.int p4), .val (.int p5), .val (.int p6), .val (.ref b1), .unset]) (st' := []) st8 ?_
  refine goS (n := 38) (Ls' := #[.val (.int p1), .val (.int p2), .val (.int p3), .val (.int p4), .val (.int p5), .val (.int p6), .val (.ref b1), .unset]) (st' := [(.ref b1)]) (fun _ kz => XS.aload X8.here hx rfl (hb hby at_36) rfl rfl kz) ?_
  obtain ⟨T9, X9, e9, st9⟩ := getS2 X8 hx hZ hown (host := "") (Or.inl (hw _ (List.mem_of_getElem? (i := 50) rfl))) Via.refl e8 (S_TROPHY.ext O8.2) (g := (mkF m 38 #[.val (.int p1), .val (.int p2), .val (.int p3), .val (.int p4), .val (.int p5), .val (.int p6), .val (.ref b1), .unset] [(.ref b1)])) rfl (hb hby at_38)
  refine goS (n := 41) (Ls' := #[.val (.int p1), .val (.int p2), .val (.int p3), .val (.int p4), .val (.int p5), .val (.int p6), .val (.ref b1), .unset]) (st' := [(.ref (W 3)), (.ref b1)]) st9 ?_
  refine goS (n := 42) (Ls' := #[.val (.int p1), .val (.int p2), .val (.int p3), .val (.int p4), .val (.int p5), .val (.int p6), .val (.ref b1), .unset]) (st' := [(.int p4), (.ref (W 3)), (.ref b1)]) (fun _ kz => XS.iloadN X9.here hx rfl (hb hby at_41) rfl kz) ?_
  obtain ⟨cq10, kq10, q10a, q10b, q10c⟩ := isOf hZ e9 E_b1
  obtain ⟨_, _, ⟨T10, L10, k10, n10⟩, -, X10, ⟨Lc10, hQ10, l10, y10, z10⟩, st10⟩ := X9.virtualBack hx (y := (⟨"com/example/lampwright/lampwright/game/Treasure", "add", "(Lcom/example/lampwright/lampwright/game/Kind;I)V"⟩ : MethodName)) (z := (⟨"com/example/lampwright/lampwright/game/Treasure", "add", "(Lcom/example/lampwright/lampwright/game/Kind;I)V"⟩ : MethodName)) hown (mvT hZ (hw _ (List.mem_of_getElem? (i := 34) rfl))) (mvT hZ (hw _ (List.mem_of_getElem? (i := 35) rfl))) (notFace_of_selects (args := #[]) (mvT hZ (hw _ (List.mem_of_getElem? (i := 37) rfl)))) (mvT hZ (hw _ (List.mem_of_getElem? (i := 37) rfl))) (mvT hZ (hw _ (List.mem_of_getElem? (i := 36) rfl))) (by decide) (backOf (W := 0) (rm_add3 l Z a0 hw [] b1 (W 3) p4 u2 ku2 ((0 : Int32) + p1) ((0 : Int32) + p2) ((0 : Int32) + p3) (0 : Int32) (0 : Int32) T8.heap n0 O8 F_units_b1 (OR 3 (by decide)) (EX 3 (by decide)) g_u2 V_u2) hZ (hw _ (List.mem_of_getElem? (i := 38) rfl)) (hw _ (List.mem_of_getElem? (i := 2) rfl)) (by decide) (by decide)) q10a q10c (g := (mkF m 42 #[.val (.int p1), .val (.int p2), .val (.int p3), .val (.int p4), .val (.int p5), .val (.int p6), .val (.ref b1), .unset] [(.int p4), (.ref (W 3)), (.ref b1)])) rfl (by rw [hml]; rfl) (Steps.refl _) (argsL := [(.ref (W 3)), (.int p4)]) (rest := []) (lenOf pd_3 rfl) rfl (by show 2 * 0 + _ ≤ _; exact Nat.le_of_eq rfl) (hb hby at_42) (fun _ _ => ⟨rfl, e9, (Nat.le_of_ble_eq_true rfl), (Nat.le_of_ble_eq_true rfl)⟩)
  dsimp only [Pt.U, Pt.locs, Pt.cells, Pt.slots] at X10 l10 y10 z10 st10 hQ10
  subst l10 y10 z10
  obtain ⟨rfl, N10q, K10, V_u2⟩ := hQ10
  have N10 := Fr.app N8 N10q
  have e10 : T10.heap = T10.heap := rfl
  have O10 := O8.keep K10 (allS g_u2 all0)
  have E_b1 : Exa Z T10.heap b1 "com/example/lampwright/lampwright/game/Treasure" := E_b1.keep K10
  have F_units_b1 : Fld Z T10.heap b1 "com/example/lampwright/lampwright/game/Treasure" "units" "[I" (.ref u2) := F_units_b1.keep K10 (ninS ne_b1_u2 nin0)
  refine goT (n := 45) (Ls' := #[.val (.int p1), .val (.int p2), .val (.int p3), .val (.int p4), .val (.int p5), .val (.int p6), .val (.ref b1), .unset]) (st' := []) st10 ?_
  refine goS (n := 47) (Ls' := #[.val (.int p1), .val (.int p2), .val (.int p3), .val (.int p4), .val (.int p5), .val (.int p6), .val (.ref b1), .unset]) (st' := [(.ref b1)]) (fun _ kz => XS.aload X10.here hx rfl (hb hby at_45) rfl rfl kz) ?_
  obtain ⟨T11, X11, e11, st11⟩ := getS2 X10 hx hZ hown (host := "") (Or.inl (hw _ (List.mem_of_getElem? (i := 51) rfl))) Via.refl e10 (S_GOLD.ext O10.2) (g := (mkF m 47 #[.val (.int p1), .val (.int p2), .val (.int p3), .val (.int p4), .val (.int p5), .val (.int p6), .val (.ref b1), .unset] [(.ref b1)])) rfl (hb hby at_47)
  refine goS (n := 50) (Ls' := #[.val (.int p1), .val (.int p2), .val (.int p3), .val (.int p4), .val (.int p5), .val (.int p6), .val (.ref b1), .unset]) (st' := [(.ref (W 4)), (.ref b1)]) st11 ?_
  refine goS (n := 52) (Ls' := #[.val (.int p1), .val (.int p2), .val (.int p3), .val (.int p4), .val (.int p5), .val (.int p6), .val (.ref b1), .unset]) (st' := [(.int p5), (.ref (W 4)), (.ref b1)]) (fun _ kz => XS.iload X11.here hx rfl (hb hby at_50) rfl kz) ?_
  obtain ⟨cq12, kq12, q12a, q12b, q12c⟩ := isOf hZ e11 E_b1
  obtain ⟨_, _, ⟨T12, L12, k12, n12⟩, -, X12, ⟨Lc12, hQ12, l12, y12, z12⟩, st12⟩ := X11.virtualBack hx (y := (⟨"com/example/lampwright/lampwright/game/Treasure", "add", "(Lcom/example/lampwright/lampwright/game/Kind;I)V"⟩ : MethodName)) (z := (⟨"com/example/lampwright/lampwright/game/Treasure", "add", "(Lcom/example/lampwright/lampwright/game/Kind;I)V"⟩ : MethodName)) hown (mvT hZ (hw _ (List.mem_of_getElem? (i := 34) rfl))) (mvT hZ (hw _ (List.mem_of_getElem? (i := 35) rfl))) (notFace_of_selects (args := #[]) (mvT hZ (hw _ (List.mem_of_getElem? (i := 37) rfl)))) (mvT hZ (hw _ (List.mem_of_getElem? (i := 37) rfl))) (mvT hZ (hw _ (List.mem_of_getElem? (i := 36) rfl))) (by decide) (backOf (W := 0) (rm_add4 l Z a0 hw [] b1 (W 4) p5 u2 ku2 ((0 : Int32) + p1) ((0 : Int32) + p2) ((0 : Int32) + p3) ((0 : Int32) + p4) (0 : Int32) T10.heap n0 O10 F_units_b1 (OR 4 (by decide)) (EX 4 (by decide)) g_u2 V_u2) hZ (hw _ (List.mem_of_getElem? (i := 38) rfl)) (hw _ (List.mem_of_getElem? (i := 2) rfl)) (by decide) (by decide)) q12a q12c (g := (mkF m 52 #[.val (.int p1), .val (.int p2), .val (.int p3), .val (.int p4), .val (.int p5), .val (.int p6), .val (.ref b1), .unset] [(.int p5), (.ref (W 4)), (.ref b1)])) rfl (by rw [hml]; rfl) (Steps.refl _) (argsL := [(.ref (W 4)), (.int p5)]) (rest := []) (lenOf pd_3 rfl) rfl (by show 2 * 0 + _ ≤ _; exact Nat.le_of_eq rfl) (hb hby at_52) (fun _ _ => ⟨rfl, e11, (Nat.le_of_ble_eq_true rfl), (Nat.le_of_ble_eq_true rfl)⟩)
  dsimp only [Pt.U, Pt.locs, Pt.cells, Pt.slots] at X12 l12 y12 z12 st12 hQ12
  subst l12 y12 z12
  obtain ⟨rfl, N12q, K12, V_u2⟩ := hQ12
  have N12 := Fr.app N10 N12q
  have e12 : T12.heap = T12.heap := rfl
  have O12 := O10.keep K12 (allS g_u2 all0)
  have E_b1 : Exa Z T12.heap b1 "com/example/lampwright/lampwright/game/Treasure" := E_b1.keep K12
  have F_units_b1 : Fld Z T12.heap b1 "com/example/lampwright/lampwright/game/Treasure" "units" "[I" (.ref u2) := F_units_b1.keep K12 (ninS ne_b1_u2 nin0)
  refine goT (n := 55) (Ls' := #[.val (.int p1), .val (.int p2), .val (.int p3), .val (.int p4), .val (.int p5), .val (.int p6), .val (.ref b1), .unset]) (st' := []) st12 ?_
  refine goS (n := 57) (Ls' := #[.val (.int p1), .val (.int p2), .val (.int p3), .val (.int p4), .val (.int p5), .val (.int p6), .val (.ref b1), .unset]) (st' := [(.ref b1)]) (fun _ kz => XS.aload X12.here hx rfl (hb hby at_55) rfl rfl kz) ?_
  obtain ⟨T13, X13, e13, st13⟩ := getS2 X12 hx hZ hown (host := "") (Or.inl (hw _ (List.mem_of_getElem? (i := 49) rfl))) Via.refl e12 (S_GEM.ext O12.2) (g := (mkF m 57 #[.val (.int p1), .val (.int p2), .val (.int p3), .val (.int p4), .val (.int p5), .val (.int p6), .val (.ref b1), .unset] [(.ref b1)])) rfl (hb hby at_57)
  refine goS (n := 60) (Ls' := #[.val (.int p1), .val (.int p2), .val (.int p3), .val (.int p4), .val (.int p5), .val (.int p6), .val (.ref b1), .unset]) (st' := [(.ref (W 2)), (.ref b1)]) st13 ?_
  refine goS (n := 62) (Ls' := #[.val (.int p1), .val (.int p2), .val (.int p3), .val (.int p4), .val (.int p5), .val (.int p6), .val (.ref b1), .unset]) (st' := [(.int p6), (.ref (W 2)), (.ref b1)]) (fun _ kz => XS.iload X13.here hx rfl (hb hby at_60) rfl kz) ?_
  obtain ⟨cq14, kq14, q14a, q14b, q14c⟩ := isOf hZ e13 E_b1
  obtain ⟨_, _, ⟨T14, L14, k14, n14⟩, -, X14, ⟨Lc14, hQ14, l14, y14, z14⟩, st14⟩ := X13.virtualBack hx (y := (⟨"com/example/lampwright/lampwright/game/Treasure", "add", "(Lcom/example/lampwright/lampwright/game/Kind;I)V"⟩ : MethodName)) (z := (⟨"com/example/lampwright/lampwright/game/Treasure", "add", "(Lcom/example/lampwright/lampwright/game/Kind;I)V"⟩ : MethodName)) hown (mvT hZ (hw _ (List.mem_of_getElem? (i := 34) rfl))) (mvT hZ (hw _ (List.mem_of_getElem? (i := 35) rfl))) (notFace_of_selects (args := #[]) (mvT hZ (hw _ (List.mem_of_getElem? (i := 37) rfl)))) (mvT hZ (hw _ (List.mem_of_getElem? (i := 37) rfl))) (mvT hZ (hw _ (List.mem_of_getElem? (i := 36) rfl))) (by decide) (backOf (W := 0) (rm_add2 l Z a0 hw [] b1 (W 2) p6 u2 ku2 ((0 : Int32) + p1) ((0 : Int32) + p2) ((0 : Int32) + p3) ((0 : Int32) + p4) ((0 : Int32) + p5) T12.heap n0 O12 F_units_b1 (OR 2 (by decide)) (EX 2 (by decide)) g_u2 V_u2) hZ (hw _ (List.mem_of_getElem? (i := 38) rfl)) (hw _ (List.mem_of_getElem? (i := 2) rfl)) (by decide) (by decide)) q14a q14c (g := (mkF m 62 #[.val (.int p1), .val (.int p2), .val (.int p3), .val (.int p4), .val (.int p5), .val (.int p6), .val (.ref b1), .unset] [(.int p6), (.ref (W 2)), (.ref b1)])) rfl (by rw [hml]; rfl) (Steps.refl _) (argsL := [(.ref (W 2)), (.int p6)]) (rest := []) (lenOf pd_3 rfl) rfl (by show 2 * 0 + _ ≤ _; exact Nat.le_of_eq rfl) (hb hby at_62) (fun _ _ => ⟨rfl, e13, (Nat.le_of_ble_eq_true rfl), (Nat.le_of_ble_eq_true rfl)⟩)
  dsimp only [Pt.U, Pt.locs, Pt.cells, Pt.slots] at X14 l14 y14 z14 st14 hQ14
  subst l14 y14 z14
  obtain ⟨rfl, N14q, K14, V_u2⟩ := hQ14
  have N14 := Fr.app N12 N14q
  have e14 : T14.heap = T14.heap := rfl
  have O14 := O12.keep K14 (allS g_u2 all0)
  have E_b1 : Exa Z T14.heap b1 "com/example/lampwright/lampwright/game/Treasure" := E_b1.keep K14
  have F_units_b1 : Fld Z T14.heap b1 "com/example/lampwright/lampwright/game/Treasure" "units" "[I" (.ref u2) := F_units_b1.keep K14 (ninS ne_b1_u2 nin0)
  refine goT (n := 65) (Ls' := #[.val (.int p1), .val (.int p2), .val (.int p3), .val (.int p4), .val (.int p5), .val (.int p6), .val (.ref b1), .unset]) (st' := []) st14 ?_
  refine goS (n := 66) (Ls' := #[.val (.int p1), .val (.int p2), .val (.int p3), .val (.int p4), .val (.int p5), .val (.int p6), .val (.ref b1), .unset]) (st' := [(.int p1)]) (fun _ kz => XS.iloadN X14.here hx rfl (hb hby at_65) rfl kz) ?_
  refine goS (n := 67) (Ls' := #[.val (.int p1), .val (.int p2), .val (.int p3), .val (.int p4), .val (.int p5), .val (.int p6), .val (.ref b1), .unset]) (st' := [(.int p2), (.int p1)]) (fun _ kz => XS.iloadN X14.here hx rfl (hb hby at_66) rfl kz) ?_
  refine goS (n := 68) (Ls' := #[.val (.int p1), .val (.int p2), .val (.int p3), .val (.int p4), .val (.int p5), .val (.int p6), .val (.ref b1), .unset]) (st' := [(.int (p1 + p2))]) (fun _ kz => XS.iadd X14.here hx rfl (hb hby at_67) rfl kz) ?_
  refine goS (n := 69) (Ls' := #[.val (.int p1), .val (.int p2), .val (.int p3), .val (.int p4), .val (.int p5), .val (.int p6), .val (.ref b1), .unset]) (st' := [(.int p3), (.int (p1 + p2))]) (fun _ kz => XS.iloadN X14.here hx rfl (hb hby at_68) rfl kz) ?_
  refine goS (n := 70) (Ls' := #[.val (.int p1), .val (.int p2), .val (.int p3), .val (.int p4), .val (.int p5), .val (.int p6), .val (.ref b1), .unset]) (st' := [(.int ((p1 + p2) + p3))]) (fun _ kz => XS.iadd X14.here hx rfl (hb hby at_69) rfl kz) ?_
  refine goS (n := 71) (Ls' := #[.val (.int p1), .val (.int p2), .val (.int p3), .val (.int p4), .val (.int p5), .val (.int p6), .val (.ref b1), .unset]) (st' := [(.int p4), (.int ((p1 + p2) + p3))]) (fun _ kz => XS.iloadN X14.here hx rfl (hb hby at_70) rfl kz) ?_
  refine goS (n := 72) (Ls' := #[.val (.int p1), .val (.int p2), .val (.int p3), .val (.int p4), .val (.int p5), .val (.int p6), .val (.ref b1), .unset]) (st' := [(.int (((p1 + p2) + p3) + p4))]) (fun _ kz => XS.iadd X14.here hx rfl (hb hby at_71) rfl kz) ?_
  refine goS (n := 74) (Ls' := #[.val (.int p1), .val (.int p2), .val (.int p3), .val (.int p4), .val (.int p5), .val (.int p6), .val (.ref b1), .unset]) (st' := [(.int p5), (.int (((p1 + p2) + p3) + p4))]) (fun _ kz => XS.iload X14.here hx rfl (hb hby at_72) rfl kz) ?_
  refine goS (n := 75) (Ls' := #[.val (.int p1), .val (.int p2), .val (.int p3), .val (.int p4), .val (.int p5), .val (.int p6), .val (.ref b1), .unset]) (st' := [(.int ((((p1 + p2) + p3) + p4) + p5))]) (fun _ kz => XS.iadd X14.here hx rfl (hb hby at_74) rfl kz) ?_
  refine goS (n := 77) (Ls' := #[.val (.int p1), .val (.int p2), .val (.int p3), .val (.int p4), .val (.int p5), .val (.int p6), .val (.ref b1), .unset]) (st' := [(.int p6), (.int ((((p1 + p2) + p3) + p4) + p5))]) (fun _ kz => XS.iload X14.here hx rfl (hb hby at_75) rfl kz) ?_
  refine goS (n := 78) (Ls' := #[.val (.int p1), .val (.int p2), .val (.int p3), .val (.int p4), .val (.int p5), .val (.int p6), .val (.ref b1), .unset]) (st' := [(.int (((((p1 + p2) + p3) + p4) + p5) + p6))]) (fun _ kz => XS.iadd X14.here hx rfl (hb hby at_77) rfl kz) ?_
  refine goS (n := 80) (Ls' := #[.val (.int p1), .val (.int p2), .val (.int p3), .val (.int p4), .val (.int p5), .val (.int p6), .val (.ref b1), .val (.int (((((p1 + p2) + p3) + p4) + p5) + p6))]) (st' := []) (fun _ kz => XS.istore X14.here hx rfl (hb hby at_78) rfl (l' := #[.val (.int p1), .val (.int p2), .val (.int p3), .val (.int p4), .val (.int p5), .val (.int p6), .val (.ref b1), .val (.int (((((p1 + p2) + p3) + p4) + p5) + p6))]) rfl kz) ?_
  refine goS (n := 82) (Ls' := #[.val (.int p1), .val (.int p2), .val (.int p3), .val (.int p4), .val (.int p5), .val (.int p6), .val (.ref b1), .val (.int (((((p1 + p2) + p3) + p4) + p5) + p6))]) (st' := [(.ref b1)]) (fun _ kz => XS.aload X14.here hx rfl (hb hby at_80) rfl rfl kz) ?_
  have hsum : ((((((0 : Int32) + ((0 : Int32) + p1)) + ((0 : Int32) + p2)) + (((0 : Int32) + p3) + p6)) + ((0 : Int32) + p4)) + ((0 : Int32) + p5)) = (((((p1 + p2) + p3) + p4) + p5) + p6) := by simp only [Int32.zero_add]; ac_rfl
  obtain ⟨cq15, kq15, q15a, q15b, q15c⟩ := isOf hZ e14 E_b1
  obtain ⟨_, _, ⟨T15, L15, k15, n15⟩, -, X15, ⟨Lc15, hQ15, l15, y15, z15⟩, st15⟩ := X14.virtualBack hx (y := (⟨"com/example/lampwright/lampwright/game/Treasure", "total", "()I"⟩ : MethodName)) (z := (⟨"com/example/lampwright/lampwright/game/Treasure", "total", "()I"⟩ : MethodName)) hown (mvT hZ (hw _ (List.mem_of_getElem? (i := 52) rfl))) (mvT hZ (hw _ (List.mem_of_getElem? (i := 53) rfl))) (notFace_of_selects (args := #[]) (mvT hZ (hw _ (List.mem_of_getElem? (i := 55) rfl)))) (mvT hZ (hw _ (List.mem_of_getElem? (i := 55) rfl))) (mvT hZ (hw _ (List.mem_of_getElem? (i := 54) rfl))) (by decide) (backOf (W := 0) (rm_total l Z a0 hw [] b1 u2 ku2 ((0 : Int32) + p1) ((0 : Int32) + p2) (((0 : Int32) + p3) + p6) ((0 : Int32) + p4) ((0 : Int32) + p5) T14.heap n0 O14 F_units_b1 V_u2) hZ (hw _ (List.mem_of_getElem? (i := 56) rfl)) (hw _ (List.mem_of_getElem? (i := 2) rfl)) (by decide) (by decide)) q15a q15c (g := (mkF m 82 #[.val (.int p1), .val (.int p2), .val (.int p3), .val (.int p4), .val (.int p5), .val (.int p6), .val (.ref b1), .val (.int (((((p1 + p2) + p3) + p4) + p5) + p6))] [(.ref b1)])) rfl (by rw [hml]; rfl) (Steps.refl _) (argsL := []) (rest := []) (lenOf pd_1 rfl) rfl (by show 2 * 0 + _ ≤ _; exact Nat.le_of_eq rfl) (hb hby at_82) (fun _ _ => ⟨rfl, e14, (Nat.le_of_ble_eq_true rfl), (Nat.le_of_ble_eq_true rfl)⟩)
  dsimp only [Pt.U, Pt.locs, Pt.cells, Pt.slots] at X15 l15 y15 z15 st15 hQ15
  subst l15 y15 z15
  obtain ⟨rfl, N15q, e15⟩ := hQ15
  have N15 := Fr.app N14 N15q
  refine goT (n := 85) (Ls' := #[.val (.int p1), .val (.int p2), .val (.int p3), .val (.int p4), .val (.int p5), .val (.int p6), .val (.ref b1), .val (.int (((((p1 + p2) + p3) + p4) + p5) + p6))]) (st' := [(.int ((((((0 : Int32) + ((0 : Int32) + p1)) + ((0 : Int32) + p2)) + (((0 : Int32) + p3) + p6)) + ((0 : Int32) + p4)) + ((0 : Int32) + p5)))]) st15 ?_
  refine goS (n := 87) (Ls' := #[.val (.int p1), .val (.int p2), .val (.int p3), .val (.int p4), .val (.int p5), .val (.int p6), .val (.ref b1), .val (.int (((((p1 + p2) + p3) + p4) + p5) + p6))]) (st' := [(.int (((((p1 + p2) + p3) + p4) + p5) + p6)), (.int ((((((0 : Int32) + ((0 : Int32) + p1)) + ((0 : Int32) + p2)) + (((0 : Int32) + p3) + p6)) + ((0 : Int32) + p4)) + ((0 : Int32) + p5)))]) (fun _ kz => XS.iload X15.here hx rfl (hb hby at_85) rfl kz) ?_
  refine goS (n := 90) (Ls' := #[.val (.int p1), .val (.int p2), .val (.int p3), .val (.int p4), .val (.int p5), .val (.int p6), .val (.ref b1), .val (.int (((((p1 + p2) + p3) + p4) + p5) + p6))]) (st' := []) (fun _ kz => XS.icmpNo X15.here hx rfl (hb hby at_87) rfl (teq hsum).2 kz) ?_
  refine goS (n := 91) (Ls' := #[.val (.int p1), .val (.int p2), .val (.int p3), .val (.int p4), .val (.int p5), .val (.int p6), .val (.ref b1), .val (.int (((((p1 + p2) + p3) + p4) + p5) + p6))]) (st' := [(.int (1 : Int32))]) (fun _ kz => XS.iconst X15.here hx rfl (hb hby at_90) kz) ?_
  refine goS (n := 95) (Ls' := #[.val (.int p1), .val (.int p2), .val (.int p3), .val (.int p4), .val (.int p5), .val (.int p6), .val (.ref b1), .val (.int (((((p1 + p2) + p3) + p4) + p5) + p6))]) (st' := [(.int (1 : Int32))]) (fun _ kz => XS.goto X15.here hx rfl (pc0 := 91) (pc' := 95) rfl (hb hby at_91) (by decide) (by decide) kz) ?_
  exact goRetZ X15 hx hlk Bd.returns (Or.inr rfl) (hb hby at_95) (by decide) (by decide) (by rw [e15]; exact ⟨rfl, N15⟩)
set_option maxRecDepth 65536 in
set_option maxHeartbeats 40000000 in
theorem comes_1 {Post : Tables → Env → Array Value → State → Outcome → State → Prop} (hpost : ∀ tb e args s v u, (limb_1_1.after args s (.returned v) u = true ∧ limb_1_2.after args s (.returned v) u = true ∧ True) → FrameEnd s (.returned v) u (Jvm.fieldLocs frame_1_writes args s ++ Jvm.arrayLocs frame_1_arrays args s ++ Jvm.staticLocs frame_1_statics s) 16 128 → Post tb e args s (.returned v) u) :
    ArmFor flags0 classFile x code maxLocals ret World_1 tables_1 room_1 Calls_1 rest_1 Pre_1 Post := by
  intro l hfl _ _ p e ha hc hk s m args below hf hA hF happ hP
  obtain ⟨hcalls, hrest, hpre⟩ := hP
  obtain ⟨-, -, -, hnamed, -, -, -, hat⟩ := (Spec.applies_iff hf).mp happ
  obtain ⟨hg, hn⟩ := and_e (Cond.before_iff.mp (show (Jvm.Cond.and given_1 narrow_1).before args s = true from hpre))
  obtain ⟨g1, g2⟩ := and_e hg
  obtain ⟨g3, g4⟩ := and_e g2
  obtain ⟨g5, g6⟩ := and_e g4
  obtain ⟨g7, g8⟩ := and_e g6
  obtain ⟨g9, g10⟩ := and_e g8
  obtain ⟨g11, g12⟩ := and_e g10
  obtain ⟨w0, w1, w2, w3, w4, w5, rfl⟩ : ∃ w0 w1 w2 w3 w4 w5 : Value, args = #[w0, w1, w2, w3, w4, w5] := by
    have hs : args.size = 6 := by simpa [Cond.value, given_1] using g1
    obtain ⟨L⟩ := args
    match L, hs with
    | [w0, w1, w2, w3, w4, w5], _ => exact ⟨w0, w1, w2, w3, w4, w5, rfl⟩
  have hw := fun d (hd : d ∈ tables_1) => atoms_spec (ws := Jvm.Cond.code x code maxLocals ret :: tables_1) hat d (List.mem_cons_of_mem _ hd)
  have hfit : Fit s := fun {y c} hc i hi => by
    obtain ⟨ha, rfl⟩ := Array.getElem?_eq_some_iff.mp hc
    have q := List.all_eq_true.mp ((Array.all_eq_true_iff_forall_mem.mp hF) _ (Array.getElem_mem ha)) i (List.mem_range.mpr hi)
    simpa [Array.getElem?_eq_getElem hi] using q
  obtain ⟨i0, ei0⟩ := is_v g3
  obtain rfl : w0 = (.int i0) := Option.some.inj ei0
  obtain ⟨i1, ei1⟩ := is_v g5
  obtain rfl : w1 = (.int i1) := Option.some.inj ei1
  obtain ⟨i2, ei2⟩ := is_v g7
  obtain rfl : w2 = (.int i2) := Option.some.inj ei2
  obtain ⟨i3, ei3⟩ := is_v g9
  obtain rfl : w3 = (.int i3) := Option.some.inj ei3
  obtain ⟨i4, ei4⟩ := is_v g11
  obtain rfl : w4 = (.int i4) := Option.some.inj ei4
  obtain ⟨i5, ei5⟩ := is_v g12
  obtain rfl : w5 = (.int i5) := Option.some.inj ei5
  obtain ⟨nr1, nr2⟩ := and_e hn
  obtain ⟨nr3, nr4⟩ := and_e nr2
  obtain ⟨nr5, nr6⟩ := and_e nr4
  obtain ⟨nr7, nr8⟩ := and_e nr6
  obtain ⟨nr9, nr10⟩ := and_e nr8
  obtain ⟨nr11, nr12⟩ := and_e nr10
  obtain ⟨nr13, nr14⟩ := and_e nr12
  obtain ⟨nr15, nr16⟩ := and_e nr14
  obtain ⟨nr17, nr18⟩ := and_e nr16
  obtain ⟨nr19, nr20⟩ := and_e nr18
  obtain ⟨nr21, nr22⟩ := and_e nr20
  obtain ⟨nr23, nr24⟩ := and_e nr22
  obtain ⟨nr25, nr26⟩ := and_e nr24
  obtain ⟨nr27, nr28⟩ := and_e nr26
  obtain ⟨nr29, nr30⟩ := and_e nr28
  obtain ⟨nr31, nr32⟩ := and_e nr30
  obtain ⟨nr33, nr34⟩ := and_e nr32
  obtain ⟨va, ev_V⟩ := exa_v nr3
  have EV : Exa s s.heap va "[Lcom/example/lampwright/lampwright/game/Kind;" := Exa.start ev_V nr3
  have S_V : Sta s s.heap "com/example/lampwright/lampwright/game/Kind" "$VALUES" "[Lcom/example/lampwright/lampwright/game/Kind;" (.ref va) := Sta.start ev_V (Or.inr ⟨(hw _ (List.mem_of_getElem? (i := 11) rfl)), (hw _ (List.mem_of_getElem? (i := 14) rfl))⟩)
  obtain ⟨w_CROWN, ev_CROWN⟩ := exa_v nr7
  have EX_CROWN : Exa s s.heap w_CROWN "com/example/lampwright/lampwright/game/Kind" := Exa.start ev_CROWN nr7
  have ST_CROWN : Sta s s.heap "com/example/lampwright/lampwright/game/Kind" "CROWN" "Lcom/example/lampwright/lampwright/game/Kind;" (.ref w_CROWN) := Sta.start ev_CROWN (Or.inr ⟨(hw _ (List.mem_of_getElem? (i := 11) rfl)), (hw _ (List.mem_of_getElem? (i := 22) rfl))⟩)
  obtain ⟨w_PEARL, ev_PEARL⟩ := exa_v nr11
  have EX_PEARL : Exa s s.heap w_PEARL "com/example/lampwright/lampwright/game/Kind" := Exa.start ev_PEARL nr11
  have ST_PEARL : Sta s s.heap "com/example/lampwright/lampwright/game/Kind" "PEARL" "Lcom/example/lampwright/lampwright/game/Kind;" (.ref w_PEARL) := Sta.start ev_PEARL (Or.inr ⟨(hw _ (List.mem_of_getElem? (i := 11) rfl)), (hw _ (List.mem_of_getElem? (i := 23) rfl))⟩)
  obtain ⟨w_GEM, ev_GEM⟩ := exa_v nr15
  have EX_GEM : Exa s s.heap w_GEM "com/example/lampwright/lampwright/game/Kind" := Exa.start ev_GEM nr15
  have ST_GEM : Sta s s.heap "com/example/lampwright/lampwright/game/Kind" "GEM" "Lcom/example/lampwright/lampwright/game/Kind;" (.ref w_GEM) := Sta.start ev_GEM (Or.inr ⟨(hw _ (List.mem_of_getElem? (i := 11) rfl)), (hw _ (List.mem_of_getElem? (i := 24) rfl))⟩)
  obtain ⟨w_TROPHY, ev_TROPHY⟩ := exa_v nr19
  have EX_TROPHY : Exa s s.heap w_TROPHY "com/example/lampwright/lampwright/game/Kind" := Exa.start ev_TROPHY nr19
  have ST_TROPHY : Sta s s.heap "com/example/lampwright/lampwright/game/Kind" "TROPHY" "Lcom/example/lampwright/lampwright/game/Kind;" (.ref w_TROPHY) := Sta.start ev_TROPHY (Or.inr ⟨(hw _ (List.mem_of_getElem? (i := 11) rfl)), (hw _ (List.mem_of_getElem? (i := 25) rfl))⟩)
  obtain ⟨w_GOLD, ev_GOLD⟩ := exa_v nr23
  have EX_GOLD : Exa s s.heap w_GOLD "com/example/lampwright/lampwright/game/Kind" := Exa.start ev_GOLD nr23
  have ST_GOLD : Sta s s.heap "com/example/lampwright/lampwright/game/Kind" "GOLD" "Lcom/example/lampwright/lampwright/game/Kind;" (.ref w_GOLD) := Sta.start ev_GOLD (Or.inr ⟨(hw _ (List.mem_of_getElem? (i := 11) rfl)), (hw _ (List.mem_of_getElem? (i := 26) rfl))⟩)
  have FL_CROWN_ordinal : Fld s s.heap w_CROWN "java/lang/Enum" "ordinal" "I" (.int (0 : Int32)) := fldStart ev_CROWN nr27
  have FL_PEARL_ordinal : Fld s s.heap w_PEARL "java/lang/Enum" "ordinal" "I" (.int (1 : Int32)) := fldStart ev_PEARL nr29
  have FL_GEM_ordinal : Fld s s.heap w_GEM "java/lang/Enum" "ordinal" "I" (.int (2 : Int32)) := fldStart ev_GEM nr31
  have FL_TROPHY_ordinal : Fld s s.heap w_TROPHY "java/lang/Enum" "ordinal" "I" (.int (3 : Int32)) := fldStart ev_TROPHY nr33
  have FL_GOLD_ordinal : Fld s s.heap w_GOLD "java/lang/Enum" "ordinal" "I" (.int (4 : Int32)) := fldStart ev_GOLD nr34
  obtain ⟨vc, AV⟩ := Arr.start ev_V nr1
  have FV : FitC s vc := FitC.start hfit AV
  have hl5 := lenStart ev_V AV (eqv_i (Term.int_eval _) nr5)
  have SV : vc.slots.size = 5 := by have q : vc.slots.size.toInt32.toInt = (5 : Int32).toInt := (by rw [hl5.2]); rw [len_toInt hl5.1] at q; have z : (5 : Int32).toInt = 5 := rfl; omega
  let W : Nat → Addr := fun n => [w_CROWN, w_PEARL, w_GEM, w_TROPHY, w_GOLD].getD n 0
  have EX : ∀ n, n < 5 → Exa s s.heap (W n) "com/example/lampwright/lampwright/game/Kind" := by
    intro n hn
    rcases n with _ | n; · exact EX_CROWN
    rcases n with _ | n; · exact EX_PEARL
    rcases n with _ | n; · exact EX_GEM
    rcases n with _ | n; · exact EX_TROPHY
    rcases n with _ | n; · exact EX_GOLD
    omega
  have OR : ∀ n, n < 5 → Fld s s.heap (W n) "java/lang/Enum" "ordinal" "I" (.int (Int32.ofNat n)) := by
    intro n hn
    rcases n with _ | n; · exact FL_CROWN_ordinal
    rcases n with _ | n; · exact FL_PEARL_ordinal
    rcases n with _ | n; · exact FL_GEM_ordinal
    rcases n with _ | n; · exact FL_TROPHY_ordinal
    rcases n with _ | n; · exact FL_GOLD_ordinal
    omega
  obtain ⟨n, o, h1, h2, h3, _, L, rfl, ⟨rfl, N⟩, hq⟩ := rm_law l s _ hw tables_1 i0 i1 i2 i3 i4 i5 W va vc s.heap s.heap.size (Old.start s) ST_CROWN ST_PEARL ST_GEM ST_TROPHY ST_GOLD EX OR S_V AV EV FV SV p e ha hc hk s m _ below hf ((Spec.applies_iff_loose hf).mp happ).1 ⟨rfl, State.Warmed39.refl s, rfl⟩ trivial
  refine ⟨n, _, h1, h2, h3, hpost _ _ _ _ _ _ ⟨Cond.after_iff.mpr rfl, Cond.after_iff.mpr (eq_i res_at (Term.int_eval (1)) rfl), trivial⟩ ⟨hq.1, hq.2.1, (hq.2.2.sift fun y hy => Or.inr (N y hy)).mono (by decide) (by decide)⟩⟩
theorem main_1_1 : Claimed_1_1 := comes_1 fun _ _ _ _ _ _ h hF => ⟨h.1, hF⟩
theorem main_1_2 : Claimed_1_2 := comes_1 fun _ _ _ _ _ _ h hF => ⟨h.2.1, hF⟩
end Jvm.Pilot.@@N@@
namespace Jvm.Pilot.@@N@@
open Jvm Jvm.ClassFile Sem Op Lib Jvm.Free Jvm.Stand Jvm.Pilot.@@N@@.Jvm.D
/-! MADE BY PROGRAM (witnessworld.py) out of the Statement's table words and the real class files: 14 classes; the members and pool entries that the words name. The judged class is class 1, her method 1. -/
namespace start1
open Jvm.ClassFile
def u (s : String) : CpInfo := .utf8 (stringToUtf16 s)
/-- a pool by its gaps: so many unusable entries, then the entry; so many at the end -/
def gap : Nat → List CpInfo → List CpInfo
  | 0, r => r
  | n + 1, r => .unusable :: gap n r
def poolList (es : List (Nat × CpInfo)) (last : Nat) : List CpInfo := es.foldr (fun e r => gap e.1 (e.2 :: r)) (gap last [])
def pool (es : List (Nat × CpInfo)) (last : Nat) : Array CpInfo := ⟨poolList es last⟩
def fileOf (pool : Array CpInfo) (this : Nat) (attrs : Array Attribute := #[]) (ms : Array MethodInfo := #[]) (fl : Nat := 33) (sup : Nat := 0) (ifs : Array Nat := #[]) (fds : Array FieldInfo := #[]) : ClassFile where
  minorVersion := 0
  majorVersion := 65
  constantPool := pool
  accessFlags := fl
  thisClass := this
  superClass := sup
  interfaces := ifs
  fields := fds
  methods := ms
  attributes := attrs
def plain (name : String) (sup : Option ClassId) : Class where
  name := name
  kind := .ordinary
  loader := none
  accessFlags := 33
  super := sup
  interfaces := #[]
  cf := none
  fields := #[]
  methods := #[]
  instanceTypes := #[]
  staticTypes := #[]
  resolved := #[]
  callSites := []
  init := .initialized
  statics := none
  mirror := none

def pool0 : Array CpInfo := pool [(5, u "<init>"), (0, u "()V"), (1, .class_ 10), (1, u "java/lang/Object"), (85, u "clone"), (0, u "()Ljava/lang/Object;")] 26

def k0c0 : Code := { maxStack := 0, maxLocals := 1, code := object_method_1_code, exceptionTable := #[], attributes := #[] }
def k0m0 : Method := { name := "<init>", desc := "()V", sig := { parameters := [], returnType := none }, accessFlags := 1, code := some k0c0 }
def k0m1 : Method := { name := "clone", desc := "()Ljava/lang/Object;", sig := { parameters := [], returnType := some (.object "java/lang/Object") }, accessFlags := 260, code := none }
/-- java/lang/Object -/
def k0 : Class := { plain "java/lang/Object" none with
  accessFlags := 33
  interfaces := #[]
  cf := some (fileOf pool0 8 #[] #[{ accessFlags := 1, nameIndex := 5, descriptorIndex := 6, attributes := #[] }, { accessFlags := 260, nameIndex := 96, descriptorIndex := 97, attributes := #[] }] 33 0 #[] #[])
  fields := #[]
  methods := #[k0m0, k0m1]
  instanceTypes := #[]
  staticTypes := #[]
  resolved := Array.replicate 124 none
  statics := none }

def pool1 : Array CpInfo := pool [(2, .class_ 4), (0, .nameAndType 5 6), (0, u "java/lang/Object"), (0, u "<init>"), (0, u "()V"), (0, .class_ 8), (0, u "com/example/lampwright/lampwright/game/Treasure"), (0, .methodref 7 3), (0, .fieldref 11 12), (0, .class_ 13), (0, .nameAndType 14 15), (0, u "com/example/lampwright/lampwright/game/Kind"), (0, u "CROWN"), (0, u "Lcom/example/lampwright/lampwright/game/Kind;"), (0, .methodref 7 17), (0, .nameAndType 18 19), (0, u "add"), (0, u "(Lcom/example/lampwright/lampwright/game/Kind;I)V"), (0, .fieldref 11 21), (0, .nameAndType 22 15), (0, u "PEARL"), (0, .fieldref 11 24), (0, .nameAndType 25 15), (0, u "GEM"), (0, .fieldref 11 27), (0, .nameAndType 28 15), (0, u "TROPHY"), (0, .fieldref 11 30), (0, .nameAndType 31 15), (0, u "GOLD"), (0, .methodref 7 33), (0, .nameAndType 34 35), (0, u "total"), (0, u "()I"), (0, .class_ 37), (0, u "com/example/lampwright/lampwright/game/TreasureTotalPinLaw"), (2, u "law"), (0, u "(IIIIII)Z")] 3

def k1m0 : Method := { name := "<init>", desc := "()V", sig := { parameters := [], returnType := none }, accessFlags := 1, code := none }
def k1c1 : Code := { maxStack := 3, maxLocals := 8, code := code, exceptionTable := #[], attributes := #[] }
def k1m1 : Method := { name := "law", desc := "(IIIIII)Z", sig := { parameters := [.int, .int, .int, .int, .int, .int], returnType := some .boolean }, accessFlags := 9, code := some k1c1 }
/-- com/example/lampwright/lampwright/game/TreasureTotalPinLaw -/
def k1 : Class := { plain "com/example/lampwright/lampwright/game/TreasureTotalPinLaw" (some 0) with
  accessFlags := 49
  interfaces := #[]
  cf := some (fileOf pool1 36 #[] #[{ accessFlags := 1, nameIndex := 5, descriptorIndex := 6, attributes := #[] }, { accessFlags := 9, nameIndex := 40, descriptorIndex := 41, attributes := #[] }] 49 2 #[] #[])
  fields := #[]
  methods := #[k1m0, k1m1]
  instanceTypes := #[]
  staticTypes := #[]
  resolved := Array.replicate 45 none
  statics := none }

def pool2 : Array CpInfo := pool [(1, .methodref 2 3), (0, .class_ 4), (0, .nameAndType 5 6), (0, u "java/lang/Object"), (0, u "<init>"), (0, u "()V"), (0, .methodref 8 9), (0, .class_ 10), (0, .nameAndType 11 12), (0, u "com/example/lampwright/lampwright/game/Kind"), (0, u "values"), (0, u "()[Lcom/example/lampwright/lampwright/game/Kind;"), (0, .fieldref 14 15), (0, .class_ 16), (0, .nameAndType 17 18), (0, u "com/example/lampwright/lampwright/game/Treasure"), (0, u "units"), (0, u "[I"), (3, u "add"), (0, u "(Lcom/example/lampwright/lampwright/game/Kind;I)V"), (6, .methodref 8 31), (0, .nameAndType 32 33), (0, u "ordinal"), (0, u "()I"), (10, u "UNITS"), (0, u "Ljava/util/regex/Pattern;"), (109, u "total")] 45

def k2c0 : Code := { maxStack := 2, maxLocals := 1, code := prog_51_method_1_code, exceptionTable := #[], attributes := #[] }
def k2m0 : Method := { name := "<init>", desc := "()V", sig := { parameters := [], returnType := none }, accessFlags := 0, code := some k2c0 }
def k2c1 : Code := { maxStack := 2, maxLocals := 6, code := prog_51_method_5_code, exceptionTable := #[], attributes := #[] }
def k2m1 : Method := { name := "total", desc := "()I", sig := { parameters := [], returnType := some .int }, accessFlags := 1, code := some k2c1 }
def k2c2 : Code := { maxStack := 4, maxLocals := 3, code := prog_51_method_9_code, exceptionTable := #[], attributes := #[] }
def k2m2 : Method := { name := "add", desc := "(Lcom/example/lampwright/lampwright/game/Kind;I)V", sig := { parameters := [(.object "com/example/lampwright/lampwright/game/Kind"), .int], returnType := none }, accessFlags := 0, code := some k2c2 }
/-- com/example/lampwright/lampwright/game/Treasure -/
def k2 : Class := { plain "com/example/lampwright/lampwright/game/Treasure" (some 0) with
  accessFlags := 49
  interfaces := #[]
  cf := some (fileOf pool2 14 #[] #[{ accessFlags := 0, nameIndex := 5, descriptorIndex := 6, attributes := #[] }, { accessFlags := 1, nameIndex := 155, descriptorIndex := 33, attributes := #[] }, { accessFlags := 0, nameIndex := 22, descriptorIndex := 23, attributes := #[] }] 49 2 #[] #[{ accessFlags := 26, nameIndex := 44, descriptorIndex := 45, attributes := #[] }, { accessFlags := 18, nameIndex := 17, descriptorIndex := 18, attributes := #[] }])
  fields := #[{ name := "UNITS", type := (.object "java/util/regex/Pattern"), accessFlags := 26, slot := 0, constantValue := 0 }, { name := "units", type := (.array .int), accessFlags := 18, slot := 0, constantValue := 0 }]
  methods := #[k2m0, k2m1, k2m2]
  instanceTypes := #[(.array .int)]
  staticTypes := #[(.object "java/util/regex/Pattern")]
  resolved := Array.replicate 201 none
  statics := none }

def pool3 : Array CpInfo := pool [(1, .class_ 2), (0, u "java/lang/constant/Constable"), (0, .class_ 4), (0, u "java/lang/Object")] 6

/-- java/lang/constant/Constable -/
def k3 : Class := { plain "java/lang/constant/Constable" (some 0) with
  accessFlags := 1537
  interfaces := #[]
  cf := some (fileOf pool3 1 #[] #[] 1537 3 #[] #[])
  fields := #[]
  methods := #[]
  instanceTypes := #[]
  staticTypes := #[]
  resolved := Array.replicate 11 none
  statics := none }

def pool4 : Array CpInfo := pool [(1, .class_ 2), (0, u "java/lang/Comparable"), (0, .class_ 4), (0, u "java/lang/Object")] 7

/-- java/lang/Comparable -/
def k4 : Class := { plain "java/lang/Comparable" (some 0) with
  accessFlags := 1537
  interfaces := #[]
  cf := some (fileOf pool4 1 #[] #[] 1537 3 #[] #[])
  fields := #[]
  methods := #[]
  instanceTypes := #[]
  staticTypes := #[]
  resolved := Array.replicate 12 none
  statics := none }

def pool5 : Array CpInfo := pool [(1, .class_ 2), (0, u "java/io/Serializable"), (0, .class_ 4), (0, u "java/lang/Object")] 2

/-- java/io/Serializable -/
def k5 : Class := { plain "java/io/Serializable" (some 0) with
  accessFlags := 1537
  interfaces := #[]
  cf := some (fileOf pool5 1 #[] #[] 1537 3 #[] #[])
  fields := #[]
  methods := #[]
  instanceTypes := #[]
  staticTypes := #[]
  resolved := Array.replicate 7 none
  statics := none }

def pool6 : Array CpInfo := pool [(2, .class_ 4), (1, u "java/lang/Enum"), (0, u "name"), (0, u "Ljava/lang/String;"), (0, .fieldref 2 8), (0, .nameAndType 9 10), (0, u "ordinal"), (0, u "I"), (1, .class_ 14), (1, u "java/lang/Object"), (4, u "hash"), (86, .class_ 108), (1, u "java/lang/Enum$EnumDesc"), (2, .class_ 112), (0, u "java/lang/constant/Constable"), (0, .class_ 114), (0, u "java/lang/Comparable"), (0, .class_ 116), (0, u "java/io/Serializable"), (9, u "()I")] 77

def k6c0 : Code := { maxStack := 1, maxLocals := 1, code := jdk_37_method_2_code, exceptionTable := #[], attributes := #[] }
def k6m0 : Method := { name := "ordinal", desc := "()I", sig := { parameters := [], returnType := some .int }, accessFlags := 17, code := some k6c0 }
/-- java/lang/Enum -/
def k6 : Class := { plain "java/lang/Enum" (some 0) with
  accessFlags := 1057
  interfaces := #[3, 4, 5]
  cf := some (fileOf pool6 2 #[.nestMembers #[106]] #[{ accessFlags := 17, nameIndex := 9, descriptorIndex := 126, attributes := #[] }] 1057 12 #[111, 113, 115] #[{ accessFlags := 18, nameIndex := 5, descriptorIndex := 6, attributes := #[] }, { accessFlags := 18, nameIndex := 9, descriptorIndex := 10, attributes := #[] }, { accessFlags := 2, nameIndex := 19, descriptorIndex := 10, attributes := #[] }])
  fields := #[{ name := "name", type := (.object "java/lang/String"), accessFlags := 18, slot := 0, constantValue := 0 }, { name := "ordinal", type := .int, accessFlags := 18, slot := 1, constantValue := 0 }, { name := "hash", type := .int, accessFlags := 2, slot := 2, constantValue := 0 }]
  methods := #[k6m0]
  instanceTypes := #[(.object "java/lang/String"), .int, .int]
  staticTypes := #[]
  resolved := Array.replicate 204 none
  statics := none }

def pool7 : Array CpInfo := pool [(1, .class_ 2), (0, u "com/example/lampwright/lampwright/game/Kind"), (2, u "CROWN"), (0, u "Lcom/example/lampwright/lampwright/game/Kind;"), (2, u "PEARL"), (2, u "GEM"), (2, u "TROPHY"), (2, u "GOLD"), (0, .fieldref 1 20), (0, .nameAndType 21 22), (0, u "$VALUES"), (0, u "[Lcom/example/lampwright/lampwright/game/Kind;"), (0, .methodref 24 25), (0, .class_ 22), (0, .nameAndType 26 27), (0, u "clone"), (0, u "()Ljava/lang/Object;"), (1, .class_ 31), (1, u "java/lang/Enum"), (24, u "id"), (0, u "Ljava/lang/String;"), (2, u "values"), (0, u "()[Lcom/example/lampwright/lampwright/game/Kind;"), (56, u "BOARD_ORDER")] 109

def k7c0 : Code := { maxStack := 1, maxLocals := 0, code := prog_14_method_1_code, exceptionTable := #[], attributes := #[] }
def k7m0 : Method := { name := "values", desc := "()[Lcom/example/lampwright/lampwright/game/Kind;", sig := { parameters := [], returnType := some (.array (.object "com/example/lampwright/lampwright/game/Kind")) }, accessFlags := 9, code := some k7c0 }
/-- com/example/lampwright/lampwright/game/Kind -/
def k7 : Class := { plain "com/example/lampwright/lampwright/game/Kind" (some 6) with
  accessFlags := 16433
  interfaces := #[]
  cf := some (fileOf pool7 1 #[] #[{ accessFlags := 9, nameIndex := 60, descriptorIndex := 61, attributes := #[] }] 16433 29 #[] #[{ accessFlags := 16409, nameIndex := 5, descriptorIndex := 6, attributes := #[] }, { accessFlags := 16409, nameIndex := 9, descriptorIndex := 6, attributes := #[] }, { accessFlags := 16409, nameIndex := 12, descriptorIndex := 6, attributes := #[] }, { accessFlags := 16409, nameIndex := 15, descriptorIndex := 6, attributes := #[] }, { accessFlags := 16409, nameIndex := 18, descriptorIndex := 6, attributes := #[] }, { accessFlags := 24, nameIndex := 118, descriptorIndex := 57, attributes := #[] }, { accessFlags := 18, nameIndex := 56, descriptorIndex := 57, attributes := #[] }, { accessFlags := 4122, nameIndex := 21, descriptorIndex := 22, attributes := #[] }])
  fields := #[{ name := "CROWN", type := (.object "com/example/lampwright/lampwright/game/Kind"), accessFlags := 16409, slot := 0, constantValue := 0 }, { name := "PEARL", type := (.object "com/example/lampwright/lampwright/game/Kind"), accessFlags := 16409, slot := 1, constantValue := 0 }, { name := "GEM", type := (.object "com/example/lampwright/lampwright/game/Kind"), accessFlags := 16409, slot := 2, constantValue := 0 }, { name := "TROPHY", type := (.object "com/example/lampwright/lampwright/game/Kind"), accessFlags := 16409, slot := 3, constantValue := 0 }, { name := "GOLD", type := (.object "com/example/lampwright/lampwright/game/Kind"), accessFlags := 16409, slot := 4, constantValue := 0 }, { name := "BOARD_ORDER", type := (.object "java/lang/String"), accessFlags := 24, slot := 5, constantValue := 0 }, { name := "id", type := (.object "java/lang/String"), accessFlags := 18, slot := 3, constantValue := 0 }, { name := "$VALUES", type := (.array (.object "com/example/lampwright/lampwright/game/Kind")), accessFlags := 4122, slot := 6, constantValue := 0 }]
  methods := #[k7m0]
  instanceTypes := #[(.object "java/lang/String"), .int, .int, (.object "java/lang/String")]
  staticTypes := #[(.object "com/example/lampwright/lampwright/game/Kind"), (.object "com/example/lampwright/lampwright/game/Kind"), (.object "com/example/lampwright/lampwright/game/Kind"), (.object "com/example/lampwright/lampwright/game/Kind"), (.object "com/example/lampwright/lampwright/game/Kind"), (.object "java/lang/String"), (.array (.object "com/example/lampwright/lampwright/game/Kind"))]
  resolved := Array.replicate 228 none
  statics := some 0 }

def pool8 : Array CpInfo := pool [(1, .class_ 2), (0, u "java/lang/Cloneable"), (0, .class_ 4), (0, u "java/lang/Object")] 2

/-- java/lang/Cloneable -/
def k8 : Class := { plain "java/lang/Cloneable" (some 0) with
  accessFlags := 1537
  interfaces := #[]
  cf := some (fileOf pool8 1 #[] #[] 1537 3 #[] #[])
  fields := #[]
  methods := #[]
  instanceTypes := #[]
  staticTypes := #[]
  resolved := Array.replicate 7 none
  statics := none }

/-- the primitive byte -/
def k9 : Class := { plain "byte" none with kind := .primitive 'B', accessFlags := 0x411 }
/-- [B -/
def k10 : Class := { plain "[B" (some 0) with kind := .array 9 .byte, interfaces := #[8, 5], accessFlags := 1041 }

/-- the primitive int -/
def k11 : Class := { plain "int" none with kind := .primitive 'I', accessFlags := 0x411 }
/-- [I -/
def k12 : Class := { plain "[I" (some 0) with kind := .array 11 .int, interfaces := #[8, 5], accessFlags := 1041 }

/-- [Lcom/example/lampwright/lampwright/game/Kind; -/
def k13 : Class := { plain "[Lcom/example/lampwright/lampwright/game/Kind;" (some 0) with kind := .array 7 (.object "com/example/lampwright/lampwright/game/Kind"), interfaces := #[8, 5], accessFlags := 1041 }

def heap : Heap := #[{ cls := 7, slots := #[.ref 2, .ref 3, .ref 4, .ref 5, .ref 6, .null, .ref 1], vm := .statics 7 },
  { cls := 13, slots := #[.ref 2, .ref 3, .ref 4, .ref 5, .ref 6], vm := .none },
  { cls := 7, slots := #[.null, .int 0, .int 0, .null], vm := .none },
  { cls := 7, slots := #[.null, .int 1, .int 0, .null], vm := .none },
  { cls := 7, slots := #[.null, .int 2, .int 0, .null], vm := .none },
  { cls := 7, slots := #[.null, .int 3, .int 0, .null], vm := .none },
  { cls := 7, slots := #[.null, .int 4, .int 0, .null], vm := .none }]
def classes : Array Class := #[k0, k1, k2, k3, k4, k5, k6, k7, k8, k9, k10, k11, k12, k13]
def interned : List (Array UInt16 × Addr) := []
def slotsUsed : Nat := 32
def theMethod : MethodId := ⟨1, 1⟩
def args0 : Array Value := #[.int 5, .int 9, .int 3, .int 7, .int 2, .int 6]
def aboutOver (below : List Frame) : State where
  vm := { classes := classes, interned := interned.toArray }
  heap := heap
  slotsUsed := slotsUsed
  threads := #[{ frames := .invoking theMethod args0 :: below }]
def below0 : List Frame := [.native { method := ⟨0, 0⟩, args := #[] }]
def about1 : State := aboutOver below0
def p0 : Program := .bare "" "" ""
def e0 : Env := launch0.env 0 0 0
theorem w_frames : about1.frames = Frame.invoking theMethod args0 :: below0 := rfl
set_option maxRecDepth 65536 in
theorem w_args : argsFit about1.vm theMethod args0 = true := by decide +kernel
set_option maxRecDepth 65536 in
theorem w_heap : heapFits about1 = true := by decide +kernel
set_option maxRecDepth 65536 in
theorem w_runnable : about1.curStatus? = some .runnable := by decide +kernel
set_option maxRecDepth 65536 in
theorem w_alone : about1.alone = true := by decide +kernel
set_option maxRecDepth 65536 in
theorem w_named : about1.methodNamed? x = some theMethod := by decide +kernel
set_option maxRecDepth 65536 in
theorem w_hears : about1.hears theMethod below0 = true := by decide +kernel
set_option maxRecDepth 65536 in
theorem w_ripe : about1.ripe theMethod args0 below0 = true := by decide +kernel
theorem w_running : about1.status = .running := rfl
set_option maxRecDepth 65536 in
theorem w_room : about1.hasRoom e0.platform room_1 = true :=
  launch0.hasRoom_least _ room_1 (by decide +kernel) (by decide +kernel) (by decide +kernel) (by decide +kernel) (by decide +kernel) (by decide +kernel)
theorem allAtoms_all (ts : List Jvm.Cond) (a : Array Jvm.Value) (st : Jvm.State) : (allAtoms ts).before a st = ts.all (fun c => c.before a st) := by
  induction ts with
  | nil => rfl
  | cons c t ih =>
    show (Jvm.Cond.and c (allAtoms t)).before a st = _
    rw [Jvm.Cond.before_and, ih, List.all_cons]
def words1 : List Jvm.Cond := Jvm.Cond.code x code maxLocals ret :: tables_1
/-- a 'code' word, met by the world's own term for the bytes: nothing is compared byte by byte -/
theorem code_word {y : MethodName} {bytes : ByteArray} {mx : Nat} {rt : Option FieldType} {a : Array Value} {s : State} {m : MethodId} {meth : Method} {c : Code} (h1 : s.methodNamed? y = some m) (h2 : s.vm.method? m = some meth) (h3 : meth.code = some c) (h4 : c.code = bytes)
    (h5 : (c.maxLocals == mx && c.exceptionTable.isEmpty && decide (c.maxStack ≤ mostOperands) && decide (meth.sig.returnType = rt) && !meth.locks && decide (parseMethodDescriptor y.desc = some meth.sig)) = true) : (Jvm.Cond.code y bytes mx rt).before a s = true := by
  simp only [Bool.and_eq_true, beq_iff_eq, Bool.not_eq_true', decide_eq_true_eq] at h5
  obtain ⟨⟨⟨⟨⟨g1, g2⟩, g3⟩, g4⟩, g5⟩, g6⟩ := h5
  simp [Cond.before, Cond.holds, Cond.value, h1, h2, h3, h4, g1, g2, g3, g4, g5, g6]
def isCode : Jvm.Cond → Bool
  | .code _ _ _ _ => true
  | _ => false
theorem all_split {L : List Jvm.Cond} {P : Jvm.Cond → Bool} (h1 : L.all (fun c => isCode c || P c) = true) (h2 : ∀ c ∈ L.filter isCode, P c = true) : L.all P = true := by
  refine List.all_eq_true.mpr fun c hc => ?_
  have h := List.all_eq_true.mp h1 c hc
  rcases Bool.eq_false_or_eq_true (isCode c) with hi | hi
  · exact h2 c (List.mem_filter.mpr ⟨hc, hi⟩)
  · simpa [hi] using h
set_option maxRecDepth 65536 in
theorem w_c0 : (Jvm.Cond.code x code maxLocals ret).before args0 about1 = true := code_word (m := ⟨1, 1⟩) (meth := k1m1) (c := k1c1) (by decide +kernel) rfl rfl rfl (by decide +kernel)
set_option maxRecDepth 65536 in
theorem w_c1 : (Jvm.Cond.code ({ cls := "com/example/lampwright/lampwright/game/Treasure", name := "<init>", desc := "()V" } : Jvm.MethodName) prog_51_method_1_code (1 : Nat) (Option.none : Option Jvm.ClassFile.FieldType)).before args0 about1 = true := code_word (m := ⟨2, 0⟩) (meth := k2m0) (c := k2c0) (by decide +kernel) rfl rfl rfl (by decide +kernel)
set_option maxRecDepth 65536 in
theorem w_c2 : (Jvm.Cond.code ({ cls := "java/lang/Object", name := "<init>", desc := "()V" } : Jvm.MethodName) object_method_1_code (1 : Nat) (Option.none : Option Jvm.ClassFile.FieldType)).before args0 about1 = true := code_word (m := ⟨0, 0⟩) (meth := k0m0) (c := k0c0) (by decide +kernel) rfl rfl rfl (by decide +kernel)
set_option maxRecDepth 65536 in
theorem w_c3 : (Jvm.Cond.code ({ cls := "com/example/lampwright/lampwright/game/Kind", name := "values", desc := "()[Lcom/example/lampwright/lampwright/game/Kind;" } : Jvm.MethodName) prog_14_method_1_code (0 : Nat) (Option.some (Jvm.ClassFile.FieldType.array (Jvm.ClassFile.FieldType.object "com/example/lampwright/lampwright/game/Kind")))).before args0 about1 = true := code_word (m := ⟨7, 0⟩) (meth := k7m0) (c := k7c0) (by decide +kernel) rfl rfl rfl (by decide +kernel)
set_option maxRecDepth 65536 in
theorem w_c4 : (Jvm.Cond.code ({ cls := "com/example/lampwright/lampwright/game/Treasure", name := "add", desc := "(Lcom/example/lampwright/lampwright/game/Kind;I)V" } : Jvm.MethodName) prog_51_method_9_code (3 : Nat) (Option.none : Option Jvm.ClassFile.FieldType)).before args0 about1 = true := code_word (m := ⟨2, 2⟩) (meth := k2m2) (c := k2c2) (by decide +kernel) rfl rfl rfl (by decide +kernel)
set_option maxRecDepth 65536 in
theorem w_c5 : (Jvm.Cond.code ({ cls := "java/lang/Enum", name := "ordinal", desc := "()I" } : Jvm.MethodName) jdk_37_method_2_code (1 : Nat) (Option.some Jvm.ClassFile.FieldType.int)).before args0 about1 = true := code_word (m := ⟨6, 0⟩) (meth := k6m0) (c := k6c0) (by decide +kernel) rfl rfl rfl (by decide +kernel)
set_option maxRecDepth 65536 in
theorem w_c6 : (Jvm.Cond.code ({ cls := "com/example/lampwright/lampwright/game/Treasure", name := "total", desc := "()I" } : Jvm.MethodName) prog_51_method_5_code (6 : Nat) (Option.some Jvm.ClassFile.FieldType.int)).before args0 about1 = true := code_word (m := ⟨2, 1⟩) (meth := k2m1) (c := k2c1) (by decide +kernel) rfl rfl rfl (by decide +kernel)
def codes1 : List Jvm.Cond := [Jvm.Cond.code x code maxLocals ret, Jvm.Cond.code ({ cls := "com/example/lampwright/lampwright/game/Treasure", name := "<init>", desc := "()V" } : Jvm.MethodName) prog_51_method_1_code (1 : Nat) (Option.none : Option Jvm.ClassFile.FieldType), Jvm.Cond.code ({ cls := "java/lang/Object", name := "<init>", desc := "()V" } : Jvm.MethodName) object_method_1_code (1 : Nat) (Option.none : Option Jvm.ClassFile.FieldType), Jvm.Cond.code ({ cls := "com/example/lampwright/lampwright/game/Kind", name := "values", desc := "()[Lcom/example/lampwright/lampwright/game/Kind;" } : Jvm.MethodName) prog_14_method_1_code (0 : Nat) (Option.some (Jvm.ClassFile.FieldType.array (Jvm.ClassFile.FieldType.object "com/example/lampwright/lampwright/game/Kind"))), Jvm.Cond.code ({ cls := "com/example/lampwright/lampwright/game/Treasure", name := "add", desc := "(Lcom/example/lampwright/lampwright/game/Kind;I)V" } : Jvm.MethodName) prog_51_method_9_code (3 : Nat) (Option.none : Option Jvm.ClassFile.FieldType), Jvm.Cond.code ({ cls := "java/lang/Enum", name := "ordinal", desc := "()I" } : Jvm.MethodName) jdk_37_method_2_code (1 : Nat) (Option.some Jvm.ClassFile.FieldType.int), Jvm.Cond.code ({ cls := "com/example/lampwright/lampwright/game/Treasure", name := "total", desc := "()I" } : Jvm.MethodName) prog_51_method_5_code (6 : Nat) (Option.some Jvm.ClassFile.FieldType.int)]
set_option maxRecDepth 65536 in
theorem codes_eq : words1.filter isCode = codes1 := rfl
theorem w_codes : ∀ c ∈ words1.filter isCode, c.before args0 about1 = true := by
  rw [codes_eq]
  intro c hc
  simp only [codes1, List.mem_cons, List.not_mem_nil, or_false] at hc
  rcases hc with rfl | rfl | rfl | rfl | rfl | rfl | rfl
  · exact w_c0
  · exact w_c1
  · exact w_c2
  · exact w_c3
  · exact w_c4
  · exact w_c5
  · exact w_c6
set_option maxRecDepth 65536 in
theorem w_t1 : (words1.take 24).all (fun c => isCode c || c.before args0 about1) = true := by decide +kernel
set_option maxRecDepth 65536 in
theorem w_t2 : ((words1.drop 24).take 24).all (fun c => isCode c || c.before args0 about1) = true := by decide +kernel
set_option maxRecDepth 65536 in
theorem w_t3 : ((words1.drop 24).drop 24).all (fun c => isCode c || c.before args0 about1) = true := by decide +kernel
theorem w_tables : (allAtoms (Jvm.Cond.code x code maxLocals ret :: tables_1)).before args0 about1 = true := by
  rw [allAtoms_all]
  show words1.all (fun c => c.before args0 about1) = true
  refine all_split ?_ w_codes
  rw [← List.take_append_drop 24 words1, List.all_append, w_t1, ← List.take_append_drop 24 (words1.drop 24), List.all_append, w_t2, w_t3]
  rfl
set_option maxRecDepth 65536 in
theorem w_case : (Jvm.Cond.and given_1 narrow_1).before args0 about1 = true := by decide +kernel
theorem w_applies : (headSpec (Jvm.Cond.code x code maxLocals ret :: tables_1) room_1).applies x e0.platform about1 = true :=
  (Spec.applies_iff w_frames).mpr ⟨w_running, w_runnable, w_alone, w_named, w_hears, w_ripe, w_room, w_tables⟩
theorem atStart : AtStart classFile x code maxLocals ret World_1 tables_1 room_1 Calls_1 rest_1 Pre_1 launch0 p0 e0 about1 theMethod args0 below0 :=
  ⟨lists_1, trivial, launch0.admits_env _ _ _, launch0.least_env, fairChoices_fair.cas, fairChoices_fair.clock, w_frames, w_args, w_heap, w_applies, trivial, trivial, w_case⟩
end start1
theorem witness_1 : WitnessClaimed_1 := ⟨start1.p0, start1.e0, start1.about1, start1.theMethod, start1.args0, start1.below0, start1.atStart⟩
end Jvm.Pilot.@@N@@
