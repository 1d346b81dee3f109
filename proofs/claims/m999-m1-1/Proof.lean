import JvmDerived
import JvmDerived.Pilot.@@N@@Statement
import JvmDerived.Pilot.@@N@@Code
set_option linter.unusedVariables false
set_option linter.unusedSimpArgs false
namespace Jvm.OwnGo
open Sem ClassFile Op Lib Jvm.Stand Jvm.Free Jvm.LawKit Jvm.RoadKit
section Own
variable {p : Program} {l : Launch} {e : Env} {R : Room} {s : State} {m : MethodId} {args : Array Value} {below : List Frame} {meth : Method} {c : Code} {T T' : State} {locs : List Loc} {cells slots : Nat} {P : Outcome → State → Prop} {g g' : JFrame} {Z : State} {h : Heap}
/-- from where the walk stands (the state T, the frame g) it ends well -/
def Go (p : Program) (e : Env) (below : List Frame) (P : Outcome → State → Prop) (T : State) (g : JFrame) : Prop :=
  ∃ s₂ o, Steps p.tables e below (T.setTop g) s₂ ∧ s₂.status = .running ∧ Ended s₂ below o ∧ P o s₂
/-- what a contract asks of the end -/
abbrev PQ (s : State) (C S : Nat) (Q : Option Value → Heap → List Loc → Prop) : Outcome → State → Prop := fun o U' => ∃ v L, o = .returned v ∧ Q v U'.heap L ∧ FrameEnd s o U' L C S
theorem goS {n : Nat} {Ls' : Array Slot} {st' : List Value} (k : ∀ t, Steps p.tables e below (T'.setTop (mkF m n Ls' st')) t → Steps p.tables e below (T.setTop g) t) (h : Go p e below P T' (mkF m n Ls' st')) : Go p e below P T g := by
  obtain ⟨s2, o, h1, h2⟩ := h; exact ⟨s2, o, k _ h1, h2⟩
theorem goT {n : Nat} {Ls' : Array Slot} {st' : List Value} (k : Steps p.tables e below (T.setTop g) (T'.setTop (mkF m n Ls' st'))) (h : Go p e below P T' (mkF m n Ls' st')) : Go p e below P T g := by
  obtain ⟨s2, o, h1, h2⟩ := h; exact ⟨s2, o, k.trans h1, h2⟩
theorem enter (q : entryFrame m args n = g) (h : Go p e below P T g) : ∃ s₂ o, Steps p.tables e below (T.setTop (entryFrame m args n)) s₂ ∧ s₂.status = .running ∧ Ended s₂ below o ∧ P o s₂ := by
  rw [q]; exact h
theorem goRet {Q : Option Value → Heap → List Loc → Prop} {C S : Nat} (X : Stand p l e R s m args below meth c T locs cells slots) (hx : p.tables.exec = Jvm.exec) (hlk : meth.locks = false) {pc : Nat} {Ls : Array Slot} {w : Value} {t : FieldType} {i : Instr} {rest : List Value} (hret : meth.sig.returnType = some t) (hn : narrow t w = w)
    (hi : (i = .ireturn ∧ (t = .int ∨ t = .boolean ∨ t = .byte ∨ t = .char ∨ t = .short) ∧ ∃ z, w = .int z) ∨ (i = .lreturn ∧ t = .long ∧ ∃ z, w = .long z) ∨ (i = .dreturn ∧ t = .double ∧ ∃ z, w = .double z) ∨ (i = .freturn ∧ t = .float ∧ ∃ z, w = .float z) ∨ (i = .areturn ∧ t.isReference = true ∧ w.isRef = true))
    (hd : decode c.code pc = .ok (i, 1)) (hC : cells ≤ C) (hS : slots ≤ S) (hQ : Q (some w) T.heap locs) : Go p e below (PQ s C S Q) T (mkF m pc Ls (w :: rest)) := by
  obtain ⟨fs, hr, hrun, hended, hW, hsame⟩ := X.leave (v := some w) (fun h => by rw [hret] at h; cases h) hlk
  exact ⟨_, _, retOut X hx hret hn hi hd hr, hrun, hended, _, _, rfl, hQ, ⟨_, rfl⟩, hW, hsame.mono hC hS⟩
theorem goRetI {Q : Option Value → Heap → List Loc → Prop} {C S : Nat} (X : Stand p l e R s m args below meth c T locs cells slots) (hx : p.tables.exec = Jvm.exec) (hlk : meth.locks = false) {pc : Nat} {Ls : Array Slot} {z : Int32} {rest : List Value} (hret : meth.sig.returnType = some .int) (hd : decode c.code pc = .ok (.ireturn, 1)) (hC : cells ≤ C) (hS : slots ≤ S) (hQ : Q (some (.int z)) T.heap locs) : Go p e below (PQ s C S Q) T (mkF m pc Ls (.int z :: rest)) :=
  goRet X hx hlk hret rfl (Or.inl ⟨rfl, Or.inl rfl, _, rfl⟩) hd hC hS hQ
theorem goRetZ {Q : Option Value → Heap → List Loc → Prop} {C S : Nat} (X : Stand p l e R s m args below meth c T locs cells slots) (hx : p.tables.exec = Jvm.exec) (hlk : meth.locks = false) {pc : Nat} {Ls : Array Slot} {z : Int32} {rest : List Value} (hret : meth.sig.returnType = some .boolean) (hz : z = 0 ∨ z = 1) (hd : decode c.code pc = .ok (.ireturn, 1)) (hC : cells ≤ C) (hS : slots ≤ S) (hQ : Q (some (.int z)) T.heap locs) : Go p e below (PQ s C S Q) T (mkF m pc Ls (.int z :: rest)) :=
  goRet X hx hlk hret (by rcases hz with rfl | rfl <;> rfl) (Or.inl ⟨rfl, Or.inr (Or.inl rfl), _, rfl⟩) hd hC hS hQ
theorem goRetJ {Q : Option Value → Heap → List Loc → Prop} {C S : Nat} (X : Stand p l e R s m args below meth c T locs cells slots) (hx : p.tables.exec = Jvm.exec) (hlk : meth.locks = false) {pc : Nat} {Ls : Array Slot} {z : Int64} {rest : List Value} (hret : meth.sig.returnType = some .long) (hd : decode c.code pc = .ok (.lreturn, 1)) (hC : cells ≤ C) (hS : slots ≤ S) (hQ : Q (some (.long z)) T.heap locs) : Go p e below (PQ s C S Q) T (mkF m pc Ls (.long z :: rest)) :=
  goRet X hx hlk hret rfl (Or.inr (Or.inl ⟨rfl, rfl, _, rfl⟩)) hd hC hS hQ
theorem goRetA {Q : Option Value → Heap → List Loc → Prop} {C S : Nat} (X : Stand p l e R s m args below meth c T locs cells slots) (hx : p.tables.exec = Jvm.exec) (hlk : meth.locks = false) {pc : Nat} {Ls : Array Slot} {w : Value} {t : FieldType} {rest : List Value} (hret : meth.sig.returnType = some t) (ht : t.isReference = true) (hw : w.isRef = true) (hd : decode c.code pc = .ok (.areturn, 1)) (hC : cells ≤ C) (hS : slots ≤ S) (hQ : Q (some w) T.heap locs) : Go p e below (PQ s C S Q) T (mkF m pc Ls (w :: rest)) :=
  goRet X hx hlk hret (by cases t <;> first | rfl | cases ht) (Or.inr (Or.inr (Or.inr (Or.inr ⟨rfl, ht, hw⟩)))) hd hC hS hQ
theorem goRetV {Q : Option Value → Heap → List Loc → Prop} {C S : Nat} (X : Stand p l e R s m args below meth c T locs cells slots) (hx : p.tables.exec = Jvm.exec) (hlk : meth.locks = false) {pc : Nat} {Ls : Array Slot} (hret : meth.sig.returnType = none) (hd : decode c.code pc = .ok (.return_, 1)) (hC : cells ≤ C) (hS : slots ≤ S) (hQ : Q none T.heap locs) : Go p e below (PQ s C S Q) T (mkF m pc Ls []) := by
  obtain ⟨fs, hr, hrun, hended, hW, hsame⟩ := X.leave (v := none) (fun _ => rfl) hlk
  exact ⟨_, _, X.returnOut hx hret hd hr, hrun, hended, _, _, rfl, hQ, ⟨_, rfl⟩, hW, hsame.mono hC hS⟩
abbrev PQW (s : State) (C S : Nat) (Q : Option Value → Heap → List Loc → Prop) : Outcome → State → Prop := fun o U' => ∃ v L, o = .returned v ∧ Q v U'.heap L ∧ ReturnedEndW s o U' L C S
theorem goRetW {Q : Option Value → Heap → List Loc → Prop} {C S : Nat} {vm₁ : Vm} (X : Stand p l e R (s.setVm vm₁) m args below meth c T locs cells slots) (hx : p.tables.exec = Jvm.exec) (hlk : meth.locks = false) {n : Nat} (hS : s.Since vm₁ n) (hn0 : n ≤ T.heap.size) {pc : Nat} {Ls : Array Slot} {w : Value} {t : FieldType} {i : Instr} {rest : List Value} (hret : meth.sig.returnType = some t) (hn : narrow t w = w)
    (hi : (i = .ireturn ∧ (t = .int ∨ t = .boolean ∨ t = .byte ∨ t = .char ∨ t = .short) ∧ ∃ z, w = .int z) ∨ (i = .lreturn ∧ t = .long ∧ ∃ z, w = .long z) ∨ (i = .dreturn ∧ t = .double ∧ ∃ z, w = .double z) ∨ (i = .freturn ∧ t = .float ∧ ∃ z, w = .float z) ∨ (i = .areturn ∧ t.isReference = true ∧ w.isRef = true))
    (hd : decode c.code pc = .ok (i, 1)) (hC : cells ≤ C) (hSl : slots ≤ S) (hQ : Q (some w) T.heap locs) : Go p e below (PQW s C S Q) T (mkF m pc Ls (w :: rest)) := by
  obtain ⟨fs, hr, hrun, hended, h1, h2, h3, h4⟩ := X.leaveW hS hn0 (v := some w) (fun h => by rw [hret] at h; cases h) hlk
  exact ⟨_, _, retOut X hx hret hn hi hd hr, hrun, hended, _, _, rfl, hQ, ⟨_, rfl⟩, h2, h3, h4.mono hC hSl⟩
theorem goRetVW {Q : Option Value → Heap → List Loc → Prop} {C S : Nat} {vm₁ : Vm} (X : Stand p l e R (s.setVm vm₁) m args below meth c T locs cells slots) (hx : p.tables.exec = Jvm.exec) (hlk : meth.locks = false) {n : Nat} (hS : s.Since vm₁ n) (hn0 : n ≤ T.heap.size) {pc : Nat} {Ls : Array Slot} (hret : meth.sig.returnType = none) (hd : decode c.code pc = .ok (.return_, 1)) (hC : cells ≤ C) (hSl : slots ≤ S) (hQ : Q none T.heap locs) : Go p e below (PQW s C S Q) T (mkF m pc Ls []) := by
  obtain ⟨fs, hr, hrun, hended, h1, h2, h3, h4⟩ := X.leaveW hS hn0 (v := none) (fun _ => rfl) hlk
  exact ⟨_, _, X.returnOut hx hret hd hr, hrun, hended, _, _, rfl, hQ, ⟨_, rfl⟩, h2, h3, h4.mono hC hSl⟩
abbrev PQH (Z : State) (EL : List (String × Nat)) (s : State) (C S : Nat) (Q : Option Value → Heap → List Loc → Prop) : Outcome → State → Prop := fun o U' => ∃ v L, o = .returned v ∧ Q v U'.heap L ∧ CHr Z EL s.vm s.heap U'.vm U'.heap ∧ ReturnedEndW s o U' L C S
theorem goRetH {Q : Option Value → Heap → List Loc → Prop} {C S : Nat} {vm₁ : Vm} {EL : List (String × Nat)} {a0 : Array Value} (X : Stand p l e R (s.setVm vm₁) m args below meth c T locs cells slots) (hx : p.tables.exec = Jvm.exec) (hlk : meth.locks = false) {n : Nat} (hS : s.Since vm₁ n) (hn0 : n ≤ T.heap.size) (hZ : Z.Warmed39 vm₁) (hEL : EW Z a0 EL) (hC' : CHr Z EL s.vm s.heap vm₁ T.heap) {pc : Nat} {Ls : Array Slot} {w : Value} {t : FieldType} {i : Instr} {rest : List Value} (hret : meth.sig.returnType = some t) (hn : narrow t w = w)
    (hi : (i = .ireturn ∧ (t = .int ∨ t = .boolean ∨ t = .byte ∨ t = .char ∨ t = .short) ∧ ∃ z, w = .int z) ∨ (i = .lreturn ∧ t = .long ∧ ∃ z, w = .long z) ∨ (i = .dreturn ∧ t = .double ∧ ∃ z, w = .double z) ∨ (i = .freturn ∧ t = .float ∧ ∃ z, w = .float z) ∨ (i = .areturn ∧ t.isReference = true ∧ w.isRef = true))
    (hd : decode c.code pc = .ok (i, 1)) (hC : cells ≤ C) (hSl : slots ≤ S) (hQ : Q (some w) T.heap locs) : Go p e below (PQH Z EL s C S Q) T (mkF m pc Ls (w :: rest)) := by
  obtain ⟨fs, hr, hrun, hended, h1, h2, h3, h4⟩ := X.leaveW hS hn0 (v := some w) (fun h => by rw [hret] at h; cases h) hlk
  have qC : CHr Z EL s.vm s.heap T.vm T.heap := hC'.trans (CHv.at X hZ hEL hC'.1)
  exact ⟨_, _, retOut X hx hret hn hi hd hr, hrun, hended, _, _, rfl, hQ, qC, ⟨_, rfl⟩, h2, h3, h4.mono hC hSl⟩
theorem goRetVH {Q : Option Value → Heap → List Loc → Prop} {C S : Nat} {vm₁ : Vm} {EL : List (String × Nat)} {a0 : Array Value} (X : Stand p l e R (s.setVm vm₁) m args below meth c T locs cells slots) (hx : p.tables.exec = Jvm.exec) (hlk : meth.locks = false) {n : Nat} (hS : s.Since vm₁ n) (hn0 : n ≤ T.heap.size) (hZ : Z.Warmed39 vm₁) (hEL : EW Z a0 EL) (hC' : CHr Z EL s.vm s.heap vm₁ T.heap) {pc : Nat} {Ls : Array Slot} (hret : meth.sig.returnType = none) (hd : decode c.code pc = .ok (.return_, 1)) (hC : cells ≤ C) (hSl : slots ≤ S) (hQ : Q none T.heap locs) : Go p e below (PQH Z EL s C S Q) T (mkF m pc Ls []) := by
  obtain ⟨fs, hr, hrun, hended, h1, h2, h3, h4⟩ := X.leaveW hS hn0 (v := none) (fun _ => rfl) hlk
  have qC : CHr Z EL s.vm s.heap T.vm T.heap := hC'.trans (CHv.at X hZ hEL hC'.1)
  exact ⟨_, _, X.returnOut hx hret hd hr, hrun, hended, _, _, rfl, hQ, qC, ⟨_, rfl⟩, h2, h3, h4.mono hC hSl⟩
/-- a String under construction (its value is null) is no booked one -/
theorem safeNull {vm : Vm} {EL : List (String × Nat)} {a : Addr} (hal : Z.vm.Alike vm) (E : Exa Z h a "java/lang/String") (F : Fld Z h a "java/lang/String" "value" "[B" .null) : Safe Z EL vm h a := fun B => by
  obtain ⟨cell, cf, k, i, f, f1, f2, f3, f4, f5, f6, f7⟩ := F
  obtain ⟨cell', k', e1, e2, e3, -, -⟩ := E
  cases f1.symm.trans e1
  obtain ⟨p, -, u, a', -, q, -, F', rfl | rfl⟩ := B
  · have ha := F'.ha
    cases (show h[q.sa]? = some q.sC from ha).symm.trans f1
    obtain ⟨cS, ⟨⟨-, -, -, ⟨cv, kv, iv, s4, -⟩, -, -, -, s8, -⟩, -⟩, -⟩ := F'
    obtain ⟨kv', z4⟩ := ff_back (U := Wst Z vm h) hal s4
    cases f2.symm.trans z4
    rw [f7] at s8
    cases s8
  · have hd := F'.hd
    cases (show h[q.sd]? = some q.SA from hd).symm.trans f1
    obtain ⟨cS, -, -, hB, -⟩ := F'
    have hB' : Z.vm.findClass "[B" = some q.SA.cls := by rw [← hal.findClass]; exact hB
    obtain ⟨k1, q1, q2⟩ := Vm.findClass_spec hB'
    obtain ⟨k2, q3, q4⟩ := Vm.findClass_spec e2
    cases q1.symm.trans q3
    exact absurd (q2.symm.trans q4) (by decide)
theorem mvMN {a0 args : Array Value} {own host : String} {y : MethodName} {index : Nat} (hZ : Z.Warmed39 s.vm) (w : (Cond.methodLinkNest own index y host).before a0 Z = true) : (Cond.methodLinkNest own index y host).before args s = true := (Cond.methodLinkNest_wide hZ w :)
theorem shr0 (z : Int32) : z >>> ((0 : Int32) &&& 31) = z := by
  have h := c_ishr z 0 0 (by decide)
  exact Int32.toInt_inj.mp (by rw [h]; omega)
theorem narZ {z : Int32} (hz : z = 0 ∨ z = 1) : narrow .boolean (.int z) = .int z := by rcases hz with rfl | rfl <;> rfl
theorem fldStart {args : Array Value} {t : Term} {C n d : String} {a : Addr} {k : Int32} (ht : t.eval args Z none [] Z = some (.ref a)) (h : (Cond.eq (Term.field t C n d) (.int k)).value args Z none Z [] = some true) : Fld Z Z.heap a C n d (.int k) := by
  obtain ⟨x, y, e1, e2, k1, k2⟩ := cmp_v (Or.inl h)
  rw [Term.int_eval] at e2
  cases e2
  obtain ⟨z, rfl⟩ := k2
  have e3 := e1
  rw [fld_at ht] at e3
  have q : z = k := by simpa [Cond.value, e1, Term.int_eval] using h
  subst q
  exact Fld.start e3
def bi (P : Prop) [Decidable P] : Int32 := if P then 1 else 0
theorem bi_t {P : Prop} [Decidable P] (h : P) : bi P = 1 := if_pos h
theorem bi_f {P : Prop} [Decidable P] (h : ¬ P) : bi P = 0 := if_neg h
theorem bi01 (P : Prop) [Decidable P] : bi P = 0 ∨ bi P = 1 := by unfold bi; split <;> simp
theorem modk (x k : Int32) (K : Int) (hk : k.toInt = K) : 0 < K → 0 ≤ ((x &&& 2147483647) % k).toInt ∧ ((x &&& 2147483647) % k).toInt < K := by
  intro h0
  have h1 := c_mask x 2147483647 31 (by decide) (by decide)
  have h2 : 0 ≤ (x &&& 2147483647).toInt := by rw [h1]; omega
  have h3 := (c_irem (x &&& 2147483647) k K hk).1 h2
  rw [h3]
  exact ⟨Int.emod_nonneg _ (by omega), Int.emod_lt_of_pos _ h0⟩
/-- an index: a natural below n -/
theorem idx {i : Int32} {n : Nat} (h : 0 ≤ i.toInt ∧ i.toInt < (n : Int)) : ∃ k : Nat, k < n ∧ i.toInt = (k : Int) ∧ i.toNatClampNeg = k ∧ ¬ i < 0 := by
  have h0 : ¬ i < 0 := by rw [Int32.lt_iff_toInt_lt]; show ¬ i.toInt < 0; omega
  have h1 := nat_of h0
  exact ⟨i.toNatClampNeg, by omega, h1, rfl, h0⟩
theorem lsw {target : State} (X : Stand p l e R s m args below meth c T locs cells slots) (hx : p.tables.exec = Jvm.exec) (hg : g.method = m) {dflt : Int} {pairs : Array (Int × Int)} {len pc0 pc' : Nat} (hpc : g.pc = pc0) {o : Int} {i : Int32} {rest : List Value} (hd : decode c.code g.pc = .ok (.lookupswitch dflt pairs, len)) (hs : g.stack = .int i :: rest)
    (hord : ∀ (a b a_1 b_1 : Int), ((a, b), a_1, b_1) ∈ pairs.toList.zip pairs.toList.tail → a < a_1) (hf : (∃ kk, pairs.find? (·.1 == i.toInt) = some (kk, o)) ∨ (pairs.find? (·.1 == i.toInt) = none ∧ o = dflt)) (h0 : 0 ≤ (pc0 : Int) + o) (hp : ((pc0 : Int) + o).toNat = pc')
    (hr : Steps p.tables e below (T.setTop { g with pc := pc', stack := rest }) target) : Steps p.tables e below (T.setTop g) target := by
  subst hg hpc hp
  rcases hf with ⟨kk, hf⟩ | ⟨hf, rfl⟩
  · jvm_step X.here [X.here.top, hx, hd, hs, hf, h0, lookupswitch.wp_whole]
    exact ⟨hord, hr⟩
  · jvm_step X.here [X.here.top, hx, hd, hs, hf, h0, lookupswitch.wp_whole]
    exact ⟨hord, hr⟩
theorem ieq {x k : Int32} {n K : Nat} (hx : x.toInt = (n : Int)) (hk : k.toInt = (K : Int)) : x = k ↔ n = K := by rw [← Int32.toInt_inj, hx, hk]; omega
theorem lenStart {args : Array Value} {t : Term} {a : Addr} {cl : Cell} {ty : FieldType} {z : Int32} (ht : t.eval args Z none [] Z = some (.ref a)) (A : Arr Z Z.heap a cl ty) (h : (Term.length t).eval args Z none [] Z = some (.int z)) : cl.slots.size < 2 ^ 31 ∧ cl.slots.size.toInt32 = z := by
  have ha := A.fin (U := Z) (Vm.Alike.refl _)
  by_cases q : cl.slots.size < 2 ^ 31
  · refine ⟨q, ?_⟩
    rw [len_f ht ha q] at h
    exact Value.int.inj (Option.some.inj h)
  · simp [Term.eval, ht, ha, q] at h
theorem subIdx {args : Array Value} {j : Int32} (hj : ¬ j < 0) (k : Int32) : (Term.sub (.index 0) (.int k)).eval args Z none [j.toNatClampNeg] Z = some (.int (j - k)) := Term.sub_int (idx_at hj) (Term.int_eval _)
theorem bi_iff {P Q : Prop} [Decidable P] [Decidable Q] (h : P ↔ Q) : bi P = bi Q := by unfold bi; simp only [h]
theorem cacheIdx {x : Int32} {n : Nat} (h1 : ¬ x < (-128 : Int32)) (h2 : ¬ (127 : Int32) < x) (hn : n = (256 : Int32).toNatClampNeg) : ¬ (x + (128 : Int32) < 0 ∨ n ≤ (x + (128 : Int32)).toNatClampNeg) := by
  rw [Int32.lt_iff_toInt_lt] at h1 h2
  have a1 : ¬ x.toInt < -128 := h1
  have a2 : ¬ (127 : Int) < x.toInt := h2
  have q0 : (128 : Int32).toInt = 128 := rfl
  have q := c_iadd x 128
  have r := rng32 (x + 128)
  rw [q0] at q
  have e1 : (x + (128 : Int32)).toInt = x.toInt + 128 := by omega
  have e2 : ¬ x + (128 : Int32) < 0 := by rw [Int32.lt_iff_toInt_lt]; show ¬ _ < (0 : Int); omega
  have e3 := nat_of e2
  have e4 : n = 256 := hn
  rintro (h | h)
  · exact e2 h
  · omega
theorem nsRoot {a0 : Array Value} {O K : String} {n : Nat} (w : (Cond.noSuperclass O).before a0 Z = true) (wk : (Cond.instantiable K n).before a0 Z = true) (hn : O ≠ K) : NS Z O K := by
  obtain ⟨c, k, h1, h2, h3, -, -⟩ := Cond.noSuperclass_spec w
  obtain ⟨t, kt, g1, -⟩ := Cond.instantiable_spec wk
  have ne := ids_ne h1 g1 hn
  refine ⟨c, t, h1, g1, fun fuel => ?_⟩
  cases fuel with
  | zero => rfl
  | succ f => simp [Vm.isSubclassAux, ne, h2, h3]
theorem nsNo {a0 : Array Value} {C S K : String} {n : Nat} (w : (Cond.superclass C S).before a0 Z = true) (wk : (Cond.instantiable K n).before a0 Z = true) (q : NS Z C K) (hn : C ≠ K) : ∃ c t, Z.vm.findClass C = some c ∧ Z.vm.findClass K = some t ∧ Z.vm.assignable c t = false := by
  obtain ⟨c, t, h0, g0, n3⟩ := q
  obtain ⟨p, k, kp, h1, h2, h3, h4, h5, -, h7⟩ := Cond.superclass_spec h0 w
  obtain ⟨t', k', g1, g2, g5, g7, -⟩ := Cond.instantiable_spec wk
  cases g0.symm.trans g1
  have g8 := (Bool.or_eq_false_iff.mp g7).1
  have ne := ids_ne h0 g0 hn
  refine ⟨c, t, h0, g0, ?_⟩
  show Z.vm.assignableAux (255 + 1) c t = false
  simp [Vm.assignableAux, ne, h2, g2, h5, g5, g8, Vm.isSubclass, n3]
theorem ne_key {x k : Int32} {K : Int} (h : ¬ x = k) (hk : k.toInt = K) : K ≠ x.toInt := fun q => h (Int32.toInt_inj.mp (by rw [hk]; exact q.symm))
end Own
end Jvm.OwnGo

namespace Jvm.Pilot.@@N@@
open Jvm Jvm.ClassFile Sem Op Lib Jvm.Free Jvm.Stand Jvm.LawKit Jvm.RoadKit Jvm.OwnGo Bundle Jvm.Pilot.@@N@@.Jvm.D
theorem own_at (W : Nat → Addr) : ∀ n, n < 15 → [Value.ref (W 0), Value.ref (W 1), Value.ref (W 2), Value.ref (W 3), Value.ref (W 4), Value.ref (W 5), Value.ref (W 6), Value.ref (W 7), Value.ref (W 8), Value.ref (W 9), Value.ref (W 10), Value.ref (W 11), Value.ref (W 12), Value.ref (W 13), Value.ref (W 14)].getD n .null = Value.ref (W n) := by
  intro n hn
  iterate 15 (rcases n with _ | n; · rfl)
  omega
theorem d1_0 : decode prog_36_method_6_code 0 = .ok (.aload_n 0, 1) := by decide +kernel
theorem d1_1 : decode prog_36_method_6_code 1 = .ok (.getstatic 43, 3) := by decide +kernel
theorem d1_4 : decode prog_36_method_6_code 4 = .ok (.if_acmp .eq 10, 3) := by decide +kernel
theorem d1_14 : decode prog_36_method_6_code 14 = .ok (.iconst 1, 1) := by decide +kernel
theorem d1_15 : decode prog_36_method_6_code 15 = .ok (.goto 4, 3) := by decide +kernel
theorem d1_19 : decode prog_36_method_6_code 19 = .ok (.ireturn, 1) := by decide +kernel
theorem d1_7 : decode prog_36_method_6_code 7 = .ok (.aload_n 0, 1) := by decide +kernel
theorem d1_8 : decode prog_36_method_6_code 8 = .ok (.getstatic 46, 3) := by decide +kernel
theorem d1_11 : decode prog_36_method_6_code 11 = .ok (.if_acmp .ne 7, 3) := by decide +kernel
theorem d1_18 : decode prog_36_method_6_code 18 = .ok (.iconst 0, 1) := by decide +kernel
theorem pn_0 : plainName "com/example/holler/holler/model/Face" = true := by first | (simp [plainName, overriddenIn]; done) | decide +kernel
theorem ef_wild (m : MethodId) (a : Addr) : entryFrame m #[(.ref a)] 1 = mkF m 0 #[.val (.ref a)] [] := by first | (simp [entryFrame, mkF, argsToLocals, Value.category]; done) | rfl
abbrev R_wild : Room := { frames := 0, cells := 0, slots := 0, locals := 0 }
def Q_wild (Z : State) (a : Addr) (w1 : Addr) (w2 : Addr) (h0 : Heap) (n0 : Nat) (v : Option Value) (h : Heap) (L : List Loc) : Prop := v = some (.int (bi (a = w1 ∨ a = w2))) ∧ Fr n0 L ∧ h = h0
set_option maxRecDepth 65536 in
set_option maxHeartbeats 40000000 in
theorem rm_wild (l : Launch) (Z : State) (a0 : Array Value) (hw : ∀ d ∈ tables_1, d.before a0 Z = true) (ws : List Jvm.Cond) (a : Addr) (w1 : Addr) (w2 : Addr) (h0 : Heap) (n0 : Nat) (O0 : Old Z n0 h0) (S_WILD : Sta Z Z.heap "com/example/holler/holler/model/Face" "WILD" "Lcom/example/holler/holler/model/Face;" (.ref w1)) (S_WILD_DRAW_FOUR : Sta Z Z.heap "com/example/holler/holler/model/Face" "WILD_DRAW_FOUR" "Lcom/example/holler/holler/model/Face;" (.ref w2)) :
    MetFree l (⟨"com/example/holler/holler/model/Face", "isWild", "()Z"⟩ : MethodName) (head1 (Jvm.Cond.code (⟨"com/example/holler/holler/model/Face", "isWild", "()Z"⟩ : MethodName) prog_36_method_6_code 1 (some .boolean) :: ws) R_wild) (fun as_ U => as_ = #[(.ref a)] ∧ Z.Warmed39 U.vm ∧ U.heap = h0) (fun _ _ _ _ _ => True) (fun _ U o U' => ∃ v L, o = .returned v ∧ Q_wild Z a w1 w2 h0 n0 v U'.heap L ∧ FrameEnd U o U' L R_wild.cells R_wild.slots) := by
  refine MetFree.of_bodySF (plainFor_of_name pn_0) hisR ?_
  intro p e s m args below meth c s₁ Bd hml0 hP hK
  obtain ⟨rfl, hZ, hh⟩ := hP
  have hx := Bd.exec
  have hby := Bd.bytes
  have hml : c.maxLocals = 1 := hml0
  have hown : s.vm.findClass "com/example/holler/holler/model/Face" = some m.cls := findClass_of_methodNamed Bd.named
  have hnm := (name_of_methodNamed Bd.named Bd.method).1
  have hlk : meth.locks = false := BodyLoose.notSynchronized Bd
  have X0 : Stand p l e R_wild s m #[(.ref a)] below meth c s₁ [] 0 0 := Stand.of_body Bd
  have e0 : s₁.heap = h0 := by rw [← hh, Bd.state]; rfl
  have N0 := Fr.nil n0
  refine enter (P := PQ s R_wild.cells R_wild.slots (Q_wild Z a w1 w2 h0 n0)) (ef_wild m a) ?_
  refine goS (n := 1) (Ls' := #[.val (.ref a)]) (st' := [(.ref a)]) (fun _ kz => XS.aloadN X0.here hx rfl (hb hby d1_0) rfl rfl kz) ?_
  obtain ⟨T1, X1, e1, st1⟩ := getS2 X0 hx hZ hown (host := "") (Or.inl (hw _ (List.mem_of_getElem? (i := 40) rfl))) Via.refl e0 (S_WILD.ext O0.2) (g := (mkF m 1 #[.val (.ref a)] [(.ref a)])) rfl (hb hby d1_1)
  refine goS (n := 4) (Ls' := #[.val (.ref a)]) (st' := [(.ref w1), (.ref a)]) st1 ?_
  by_cases hc2 : a = w1
  · refine goS (n := 14) (Ls' := #[.val (.ref a)]) (st' := []) (fun _ kz => Jvm.RoadKit.acmp (g := (mkF m 4 #[.val (.ref a)] [(.ref w1), (.ref a)])) X1 hx rfl rfl rfl (pc0 := 4) (pc' := 14) (same := true) rfl (hb hby d1_4) rfl (decide_eq_true (congrArg Value.ref hc2)) (by decide) (by decide) kz) ?_
    refine goS (n := 15) (Ls' := #[.val (.ref a)]) (st' := [(.int (1 : Int32))]) (fun _ kz => XS.iconst X1.here hx rfl (hb hby d1_14) kz) ?_
    refine goS (n := 19) (Ls' := #[.val (.ref a)]) (st' := [(.int (1 : Int32))]) (fun _ kz => XS.goto X1.here hx rfl (pc0 := 15) (pc' := 19) rfl (hb hby d1_15) (by decide) (by decide) kz) ?_
    exact goRetZ X1 hx hlk Bd.returns (Or.inr rfl) (hb hby d1_19) (by decide) (by decide) (by rw [e1]; exact ⟨by rw [bi_t (Or.inl hc2)], N0, rfl⟩)
  · refine goS (n := 7) (Ls' := #[.val (.ref a)]) (st' := []) (fun _ kz => Jvm.RoadKit.acmp (g := (mkF m 4 #[.val (.ref a)] [(.ref w1), (.ref a)])) X1 hx rfl rfl rfl (pc0 := 4) (pc' := 7) (same := false) rfl (hb hby d1_4) rfl (decide_eq_false fun q => hc2 (Value.ref.inj q)) (by decide) (by decide) kz) ?_
    refine goS (n := 8) (Ls' := #[.val (.ref a)]) (st' := [(.ref a)]) (fun _ kz => XS.aloadN X1.here hx rfl (hb hby d1_7) rfl rfl kz) ?_
    obtain ⟨T3, X3, e3, st3⟩ := getS2 X1 hx hZ hown (host := "") (Or.inl (hw _ (List.mem_of_getElem? (i := 41) rfl))) Via.refl e1 (S_WILD_DRAW_FOUR.ext O0.2) (g := (mkF m 8 #[.val (.ref a)] [(.ref a)])) rfl (hb hby d1_8)
    refine goS (n := 11) (Ls' := #[.val (.ref a)]) (st' := [(.ref w2), (.ref a)]) st3 ?_
    by_cases hc4 : a = w2
    · refine goS (n := 14) (Ls' := #[.val (.ref a)]) (st' := []) (fun _ kz => Jvm.RoadKit.acmp (g := (mkF m 11 #[.val (.ref a)] [(.ref w2), (.ref a)])) X3 hx rfl rfl rfl (pc0 := 11) (pc' := 14) (same := true) rfl (hb hby d1_11) rfl (decide_eq_true (congrArg Value.ref hc4)) (by decide) (by decide) kz) ?_
      refine goS (n := 15) (Ls' := #[.val (.ref a)]) (st' := [(.int (1 : Int32))]) (fun _ kz => XS.iconst X3.here hx rfl (hb hby d1_14) kz) ?_
      refine goS (n := 19) (Ls' := #[.val (.ref a)]) (st' := [(.int (1 : Int32))]) (fun _ kz => XS.goto X3.here hx rfl (pc0 := 15) (pc' := 19) rfl (hb hby d1_15) (by decide) (by decide) kz) ?_
      exact goRetZ X3 hx hlk Bd.returns (Or.inr rfl) (hb hby d1_19) (by decide) (by decide) (by rw [e3]; exact ⟨by rw [bi_t (Or.inr hc4)], N0, rfl⟩)
    · refine goS (n := 18) (Ls' := #[.val (.ref a)]) (st' := []) (fun _ kz => Jvm.RoadKit.acmp (g := (mkF m 11 #[.val (.ref a)] [(.ref w2), (.ref a)])) X3 hx rfl rfl rfl (pc0 := 11) (pc' := 18) (same := false) rfl (hb hby d1_11) rfl (decide_eq_false fun q => hc4 (Value.ref.inj q)) (by decide) (by decide) kz) ?_
      refine goS (n := 19) (Ls' := #[.val (.ref a)]) (st' := [(.int (0 : Int32))]) (fun _ kz => XS.iconst X3.here hx rfl (hb hby d1_18) kz) ?_
      exact goRetZ X3 hx hlk Bd.returns (Or.inl rfl) (hb hby d1_19) (by decide) (by decide) (by rw [e3]; exact ⟨by rw [bi_f (fun q => q.elim hc2 hc4)], N0, rfl⟩)
theorem d2_0 : decode prog_36_method_4_code 0 = .ok (.aload_n 0, 1) := by decide +kernel
theorem d2_1 : decode prog_36_method_4_code 1 = .ok (.getfield 68, 3) := by decide +kernel
theorem d2_4 : decode prog_36_method_4_code 4 = .ok (.ireturn, 1) := by decide +kernel
theorem ef_pts (m : MethodId) (a : Addr) : entryFrame m #[(.ref a)] 1 = mkF m 0 #[.val (.ref a)] [] := by first | (simp [entryFrame, mkF, argsToLocals, Value.category]; done) | rfl
abbrev R_pts : Room := { frames := 0, cells := 0, slots := 0, locals := 0 }
def Q_pts (Z : State) (a : Addr) (r : Int32) (h0 : Heap) (n0 : Nat) (v : Option Value) (h : Heap) (L : List Loc) : Prop := v = some (.int r) ∧ Fr n0 L ∧ h = h0
set_option maxRecDepth 65536 in
set_option maxHeartbeats 40000000 in
theorem rm_pts (l : Launch) (Z : State) (a0 : Array Value) (hw : ∀ d ∈ tables_1, d.before a0 Z = true) (ws : List Jvm.Cond) (a : Addr) (r : Int32) (h0 : Heap) (n0 : Nat) (O0 : Old Z n0 h0) (F0 : Fld Z Z.heap a "com/example/holler/holler/model/Face" "points" "I" (.int r)) :
    MetFree l (⟨"com/example/holler/holler/model/Face", "points", "()I"⟩ : MethodName) (head1 (Jvm.Cond.code (⟨"com/example/holler/holler/model/Face", "points", "()I"⟩ : MethodName) prog_36_method_4_code 1 (some .int) :: ws) R_pts) (fun as_ U => as_ = #[(.ref a)] ∧ Z.Warmed39 U.vm ∧ U.heap = h0) (fun _ _ _ _ _ => True) (fun _ U o U' => ∃ v L, o = .returned v ∧ Q_pts Z a r h0 n0 v U'.heap L ∧ FrameEnd U o U' L R_pts.cells R_pts.slots) := by
  refine MetFree.of_bodySF (plainFor_of_name pn_0) hisR ?_
  intro p e s m args below meth c s₁ Bd hml0 hP hK
  obtain ⟨rfl, hZ, hh⟩ := hP
  have hx := Bd.exec
  have hby := Bd.bytes
  have hml : c.maxLocals = 1 := hml0
  have hown : s.vm.findClass "com/example/holler/holler/model/Face" = some m.cls := findClass_of_methodNamed Bd.named
  have hnm := (name_of_methodNamed Bd.named Bd.method).1
  have hlk : meth.locks = false := BodyLoose.notSynchronized Bd
  have X0 : Stand p l e R_pts s m #[(.ref a)] below meth c s₁ [] 0 0 := Stand.of_body Bd
  have e0 : s₁.heap = h0 := by rw [← hh, Bd.state]; rfl
  have N0 := Fr.nil n0
  refine enter (P := PQ s R_pts.cells R_pts.slots (Q_pts Z a r h0 n0)) (ef_pts m a) ?_
  refine goS (n := 1) (Ls' := #[.val (.ref a)]) (st' := [(.ref a)]) (fun _ kz => XS.aloadN X0.here hx rfl (hb hby d2_0) rfl rfl kz) ?_
  obtain ⟨T1, X1, e1, st1⟩ := getF X0 hx hZ hown (host := "") (Or.inl (hw _ (List.mem_of_getElem? (i := 47) rfl))) Via.refl e0 (F0.ext O0.2) (g := (mkF m 1 #[.val (.ref a)] [(.ref a)])) rfl rfl (hb hby d2_1)
  refine goS (n := 4) (Ls' := #[.val (.ref a)]) (st' := [(.int r)]) st1 ?_
  exact goRetI X1 hx hlk Bd.returns (hb hby d2_4) (by decide) (by decide) (by rw [e1]; exact ⟨rfl, N0, rfl⟩)
theorem pd_0 : parseMethodDescriptor "()Z" = some ⟨[], some .boolean⟩ := by decide +kernel
theorem pd_1 : parseMethodDescriptor "()I" = some ⟨[], some .int⟩ := by decide +kernel
theorem pn_1 : plainName "com/example/holler/holler/model/FaceIsWildPinLaw" = true := by first | (simp [plainName, overriddenIn]; done) | decide +kernel
theorem ef_law (m : MethodId) (p1 : Int32) : entryFrame m #[(.int p1)] maxLocals = mkF m 0 #[.val (.int p1), .unset, .unset, .unset, .unset, .unset] [] := by first | (simp [entryFrame, mkF, argsToLocals, Value.category, maxLocals]; done) | rfl
def Q_law (Z : State) (p1 : Int32) (W : Nat → Addr) (P : Nat → Int32) (h0 : Heap) (n0 : Nat) (v : Option Value) (h : Heap) (L : List Loc) : Prop := v = some (.int 1) ∧ Fr n0 L
set_option maxRecDepth 65536 in
set_option maxHeartbeats 40000000 in
theorem rm_law (l : Launch) (Z : State) (a0 : Array Value) (hw : ∀ d ∈ tables_1, d.before a0 Z = true) (ws : List Jvm.Cond) (p1 : Int32) (W : Nat → Addr) (P : Nat → Int32) (h0 : Heap) (n0 : Nat) (O0 : Old Z n0 h0) (S_ZERO : Sta Z Z.heap "com/example/holler/holler/model/Face" "ZERO" "Lcom/example/holler/holler/model/Face;" (.ref (W 0))) (S_ONE : Sta Z Z.heap "com/example/holler/holler/model/Face" "ONE" "Lcom/example/holler/holler/model/Face;" (.ref (W 1))) (S_TWO : Sta Z Z.heap "com/example/holler/holler/model/Face" "TWO" "Lcom/example/holler/holler/model/Face;" (.ref (W 2))) (S_THREE : Sta Z Z.heap "com/example/holler/holler/model/Face" "THREE" "Lcom/example/holler/holler/model/Face;" (.ref (W 3))) (S_FOUR : Sta Z Z.heap "com/example/holler/holler/model/Face" "FOUR" "Lcom/example/holler/holler/model/Face;" (.ref (W 4))) (S_FIVE : Sta Z Z.heap "com/example/holler/holler/model/Face" "FIVE" "Lcom/example/holler/holler/model/Face;" (.ref (W 5))) (S_SIX : Sta Z Z.heap "com/example/holler/holler/model/Face" "SIX" "Lcom/example/holler/holler/model/Face;" (.ref (W 6))) (S_SEVEN : Sta Z Z.heap "com/example/holler/holler/model/Face" "SEVEN" "Lcom/example/holler/holler/model/Face;" (.ref (W 7))) (S_EIGHT : Sta Z Z.heap "com/example/holler/holler/model/Face" "EIGHT" "Lcom/example/holler/holler/model/Face;" (.ref (W 8))) (S_NINE : Sta Z Z.heap "com/example/holler/holler/model/Face" "NINE" "Lcom/example/holler/holler/model/Face;" (.ref (W 9))) (S_SKIP : Sta Z Z.heap "com/example/holler/holler/model/Face" "SKIP" "Lcom/example/holler/holler/model/Face;" (.ref (W 10))) (S_REVERSE : Sta Z Z.heap "com/example/holler/holler/model/Face" "REVERSE" "Lcom/example/holler/holler/model/Face;" (.ref (W 11))) (S_DRAW_TWO : Sta Z Z.heap "com/example/holler/holler/model/Face" "DRAW_TWO" "Lcom/example/holler/holler/model/Face;" (.ref (W 12))) (S_WILD : Sta Z Z.heap "com/example/holler/holler/model/Face" "WILD" "Lcom/example/holler/holler/model/Face;" (.ref (W 13))) (S_WILD_DRAW_FOUR : Sta Z Z.heap "com/example/holler/holler/model/Face" "WILD_DRAW_FOUR" "Lcom/example/holler/holler/model/Face;" (.ref (W 14))) (EX : ∀ n, n < 15 → Exa Z Z.heap (W n) "com/example/holler/holler/model/Face") (PT : ∀ n, n < 15 → Fld Z Z.heap (W n) "com/example/holler/holler/model/Face" "points" "I" (.int (P n))) (INJ : ∀ i j, i < 15 → j < 15 → W i = W j → i = j) (P50 : ∀ n, n < 15 → (P n = (50 : Int32) ↔ 13 ≤ n)) :
    MetFree l x (head1 (Jvm.Cond.code x code maxLocals ret :: ws) room_1) (fun as_ U => as_ = #[(.int p1)] ∧ Z.Warmed39 U.vm ∧ U.heap = h0) (fun _ _ _ _ _ => True) (fun _ U o U' => ∃ v L, o = .returned v ∧ Q_law Z p1 W P h0 n0 v U'.heap L ∧ FrameEnd U o U' L room_1.cells room_1.slots) := by
  refine MetFree.of_bodySF (plainFor_of_name pn_1) hisR ?_
  intro p e s m args below meth c s₁ Bd hml0 hP hK
  obtain ⟨rfl, hZ, hh⟩ := hP
  have hx := Bd.exec
  have hby := Bd.bytes
  have hml : c.maxLocals = 6 := hml0
  have hown : s.vm.findClass "com/example/holler/holler/model/FaceIsWildPinLaw" = some m.cls := findClass_of_methodNamed Bd.named
  have hnm := (name_of_methodNamed Bd.named Bd.method).1
  have hlk : meth.locks = false := BodyLoose.notSynchronized Bd
  have X0 : Stand p l e room_1 s m #[(.int p1)] below meth c s₁ [] 0 0 := Stand.of_body Bd
  have e0 : s₁.heap = h0 := by rw [← hh, Bd.state]; rfl
  have N0 := Fr.nil n0
  refine enter (P := PQ s room_1.cells room_1.slots (Q_law Z p1 W P h0 n0)) (ef_law m p1) ?_
  refine goS (n := 2) (Ls' := #[.val (.int p1), .unset, .unset, .unset, .unset, .unset]) (st' := [(.int (15 : Int32))]) (fun _ kz => XS.bipush X0.here hx rfl (hb hby at_0) kz) ?_
  obtain ⟨T1, h1, k1, X1, e1, E1, A1, O_1, st1⟩ := newR X0 hx hZ hown (hw _ (List.mem_of_getElem? (i := 0) rfl)) (hw _ (List.mem_of_getElem? (i := 1) rfl)) e0 (g := (mkF m 2 #[.val (.int p1), .unset, .unset, .unset, .unset, .unset] [(.int (15 : Int32))])) rfl (hb hby at_2) rfl (by decide) (cap := 15) (by decide) (by decide) (by decide) (by decide)
  obtain ⟨b1, g1⟩ : ∃ z, z = h0.size := ⟨_, rfl⟩
  rw [← g1] at A1 st1
  have g_b1 : n0 ≤ b1 := Nat.le_trans (O0.1 ▸ O0.2.1) (Nat.le_of_eq g1.symm)
  have V_b1 : Arv Z h1 b1 k1 (.object "com/example/holler/holler/model/Face") (15 : Int32) [.null, .null, .null, .null, .null, .null, .null, .null, .null, .null, .null, .null, .null, .null, .null] .null := (Arv.new A1 (by decide)).pad (pad_rep [] .null 15)
  have O1 := O0.ext E1
  refine goS (n := 5) (Ls' := #[.val (.int p1), .unset, .unset, .unset, .unset, .unset]) (st' := [(.ref b1)]) st1 ?_
  refine goS (n := 6) (Ls' := #[.val (.int p1), .unset, .unset, .unset, .unset, .unset]) (st' := [(.ref b1), (.ref b1)]) (fun _ kz => XS.dup X1.here hx rfl (hb hby at_5) rfl rfl kz) ?_
  refine goS (n := 7) (Ls' := #[.val (.int p1), .unset, .unset, .unset, .unset, .unset]) (st' := [(.int (0 : Int32)), (.ref b1), (.ref b1)]) (fun _ kz => XS.iconst X1.here hx rfl (hb hby at_6) kz) ?_
  obtain ⟨T2, X2, e2, st2⟩ := getS2 X1 hx hZ hown (host := "") (Or.inl (hw _ (List.mem_of_getElem? (i := 2) rfl))) Via.refl e1 (S_ZERO.ext O1.2) (g := (mkF m 7 #[.val (.int p1), .unset, .unset, .unset, .unset, .unset] [(.int (0 : Int32)), (.ref b1), (.ref b1)])) rfl (hb hby at_7)
  refine goS (n := 10) (Ls' := #[.val (.int p1), .unset, .unset, .unset, .unset, .unset]) (st' := [(.ref (W 0)), (.int (0 : Int32)), (.ref b1), (.ref b1)]) st2 ?_
  obtain ⟨cl3, Ar3, q3, S3, Nn3, H3, G3⟩ := V_b1
  have hin3 : ¬ ((0 : Int32) < 0 ∨ cl3.slots.size ≤ ((0 : Int32)).toNatClampNeg) := inb_of S3 ⟨by decide, by decide⟩
  obtain ⟨T4, h4, X4, e4, W4, st4⟩ := stR X2 hx hZ e2 Ar3 (j := (0 : Int32)) hin3 rfl (Sto.ofV Ar3 q3 O_1 (Ins.self ((EX 0 (by decide)).ext O1.2))) (g := (mkF m 10 #[.val (.int p1), .unset, .unset, .unset, .unset, .unset] [(.ref (W 0)), (.int (0 : Int32)), (.ref b1), (.ref b1)])) rfl rfl (hb hby at_10)
  have V_b1 : Arv Z h4 b1 k1 (.object "com/example/holler/holler/model/Face") (15 : Int32) [(.ref (W 0)), .null, .null, .null, .null, .null, .null, .null, .null, .null, .null, .null, .null, .null, .null] .null := Arv.set Ar3 q3 S3 Nn3 H3 G3 rfl W4 0 rfl (Nat.le_of_ble_eq_true rfl)
  have N4 := Fr.snoc X4 N0 g_b1
  have O4 := O1.wr W4 g_b1
  refine goS (n := 11) (Ls' := #[.val (.int p1), .unset, .unset, .unset, .unset, .unset]) (st' := [(.ref b1)]) st4 ?_
  refine goS (n := 12) (Ls' := #[.val (.int p1), .unset, .unset, .unset, .unset, .unset]) (st' := [(.ref b1), (.ref b1)]) (fun _ kz => XS.dup X4.here hx rfl (hb hby at_11) rfl rfl kz) ?_
  refine goS (n := 13) (Ls' := #[.val (.int p1), .unset, .unset, .unset, .unset, .unset]) (st' := [(.int (1 : Int32)), (.ref b1), (.ref b1)]) (fun _ kz => XS.iconst X4.here hx rfl (hb hby at_12) kz) ?_
  obtain ⟨T5, X5, e5, st5⟩ := getS2 X4 hx hZ hown (host := "") (Or.inl (hw _ (List.mem_of_getElem? (i := 6) rfl))) Via.refl e4 (S_ONE.ext O4.2) (g := (mkF m 13 #[.val (.int p1), .unset, .unset, .unset, .unset, .unset] [(.int (1 : Int32)), (.ref b1), (.ref b1)])) rfl (hb hby at_13)
  refine goS (n := 16) (Ls' := #[.val (.int p1), .unset, .unset, .unset, .unset, .unset]) (st' := [(.ref (W 1)), (.int (1 : Int32)), (.ref b1), (.ref b1)]) st5 ?_
  obtain ⟨cl6, Ar6, q6, S6, Nn6, H6, G6⟩ := V_b1
  have hin6 : ¬ ((1 : Int32) < 0 ∨ cl6.slots.size ≤ ((1 : Int32)).toNatClampNeg) := inb_of S6 ⟨by decide, by decide⟩
  obtain ⟨T7, h7, X7, e7, W7, st7⟩ := stR X5 hx hZ e5 Ar6 (j := (1 : Int32)) hin6 rfl (Sto.ofV Ar6 q6 O_1 (Ins.self ((EX 1 (by decide)).ext O4.2))) (g := (mkF m 16 #[.val (.int p1), .unset, .unset, .unset, .unset, .unset] [(.ref (W 1)), (.int (1 : Int32)), (.ref b1), (.ref b1)])) rfl rfl (hb hby at_16)
  have V_b1 : Arv Z h7 b1 k1 (.object "com/example/holler/holler/model/Face") (15 : Int32) [(.ref (W 0)), (.ref (W 1)), .null, .null, .null, .null, .null, .null, .null, .null, .null, .null, .null, .null, .null] .null := Arv.set Ar6 q6 S6 Nn6 H6 G6 rfl W7 1 rfl (Nat.le_of_ble_eq_true rfl)
  have N7 := Fr.snoc X7 N4 g_b1
  have O7 := O4.wr W7 g_b1
  refine goS (n := 17) (Ls' := #[.val (.int p1), .unset, .unset, .unset, .unset, .unset]) (st' := [(.ref b1)]) st7 ?_
  refine goS (n := 18) (Ls' := #[.val (.int p1), .unset, .unset, .unset, .unset, .unset]) (st' := [(.ref b1), (.ref b1)]) (fun _ kz => XS.dup X7.here hx rfl (hb hby at_17) rfl rfl kz) ?_
  refine goS (n := 19) (Ls' := #[.val (.int p1), .unset, .unset, .unset, .unset, .unset]) (st' := [(.int (2 : Int32)), (.ref b1), (.ref b1)]) (fun _ kz => XS.iconst X7.here hx rfl (hb hby at_18) kz) ?_
  obtain ⟨T8, X8, e8, st8⟩ := getS2 X7 hx hZ hown (host := "") (Or.inl (hw _ (List.mem_of_getElem? (i := 8) rfl))) Via.refl e7 (S_TWO.ext O7.2) (g := (mkF m 19 #[.val (.int p1), .unset, .unset, .unset, .unset, .unset] [(.int (2 : Int32)), (.ref b1), (.ref b1)])) rfl (hb hby at_19)
  refine goS (n := 22) (Ls' := #[.val (.int p1), .unset, .unset, .unset, .unset, .unset]) (st' := [(.ref (W 2)), (.int (2 : Int32)), (.ref b1), (.ref b1)]) st8 ?_
  obtain ⟨cl9, Ar9, q9, S9, Nn9, H9, G9⟩ := V_b1
  have hin9 : ¬ ((2 : Int32) < 0 ∨ cl9.slots.size ≤ ((2 : Int32)).toNatClampNeg) := inb_of S9 ⟨by decide, by decide⟩
  obtain ⟨T10, h10, X10, e10, W10, st10⟩ := stR X8 hx hZ e8 Ar9 (j := (2 : Int32)) hin9 rfl (Sto.ofV Ar9 q9 O_1 (Ins.self ((EX 2 (by decide)).ext O7.2))) (g := (mkF m 22 #[.val (.int p1), .unset, .unset, .unset, .unset, .unset] [(.ref (W 2)), (.int (2 : Int32)), (.ref b1), (.ref b1)])) rfl rfl (hb hby at_22)
  have V_b1 : Arv Z h10 b1 k1 (.object "com/example/holler/holler/model/Face") (15 : Int32) [(.ref (W 0)), (.ref (W 1)), (.ref (W 2)), .null, .null, .null, .null, .null, .null, .null, .null, .null, .null, .null, .null] .null := Arv.set Ar9 q9 S9 Nn9 H9 G9 rfl W10 2 rfl (Nat.le_of_ble_eq_true rfl)
  have N10 := Fr.snoc X10 N7 g_b1
  have O10 := O7.wr W10 g_b1
  refine goS (n := 23) (Ls' := #[.val (.int p1), .unset, .unset, .unset, .unset, .unset]) (st' := [(.ref b1)]) st10 ?_
  refine goS (n := 24) (Ls' := #[.val (.int p1), .unset, .unset, .unset, .unset, .unset]) (st' := [(.ref b1), (.ref b1)]) (fun _ kz => XS.dup X10.here hx rfl (hb hby at_23) rfl rfl kz) ?_
  refine goS (n := 25) (Ls' := #[.val (.int p1), .unset, .unset, .unset, .unset, .unset]) (st' := [(.int (3 : Int32)), (.ref b1), (.ref b1)]) (fun _ kz => XS.iconst X10.here hx rfl (hb hby at_24) kz) ?_
  obtain ⟨T11, X11, e11, st11⟩ := getS2 X10 hx hZ hown (host := "") (Or.inl (hw _ (List.mem_of_getElem? (i := 10) rfl))) Via.refl e10 (S_THREE.ext O10.2) (g := (mkF m 25 #[.val (.int p1), .unset, .unset, .unset, .unset, .unset] [(.int (3 : Int32)), (.ref b1), (.ref b1)])) rfl (hb hby at_25)
  refine goS (n := 28) (Ls' := #[.val (.int p1), .unset, .unset, .unset, .unset, .unset]) (st' := [(.ref (W 3)), (.int (3 : Int32)), (.ref b1), (.ref b1)]) st11 ?_
  obtain ⟨cl12, Ar12, q12, S12, Nn12, H12, G12⟩ := V_b1
  have hin12 : ¬ ((3 : Int32) < 0 ∨ cl12.slots.size ≤ ((3 : Int32)).toNatClampNeg) := inb_of S12 ⟨by decide, by decide⟩
  obtain ⟨T13, h13, X13, e13, W13, st13⟩ := stR X11 hx hZ e11 Ar12 (j := (3 : Int32)) hin12 rfl (Sto.ofV Ar12 q12 O_1 (Ins.self ((EX 3 (by decide)).ext O10.2))) (g := (mkF m 28 #[.val (.int p1), .unset, .unset, .unset, .unset, .unset] [(.ref (W 3)), (.int (3 : Int32)), (.ref b1), (.ref b1)])) rfl rfl (hb hby at_28)
  have V_b1 : Arv Z h13 b1 k1 (.object "com/example/holler/holler/model/Face") (15 : Int32) [(.ref (W 0)), (.ref (W 1)), (.ref (W 2)), (.ref (W 3)), .null, .null, .null, .null, .null, .null, .null, .null, .null, .null, .null] .null := Arv.set Ar12 q12 S12 Nn12 H12 G12 rfl W13 3 rfl (Nat.le_of_ble_eq_true rfl)
  have N13 := Fr.snoc X13 N10 g_b1
  have O13 := O10.wr W13 g_b1
  refine goS (n := 29) (Ls' := #[.val (.int p1), .unset, .unset, .unset, .unset, .unset]) (st' := [(.ref b1)]) st13 ?_
  refine goS (n := 30) (Ls' := #[.val (.int p1), .unset, .unset, .unset, .unset, .unset]) (st' := [(.ref b1), (.ref b1)]) (fun _ kz => XS.dup X13.here hx rfl (hb hby at_29) rfl rfl kz) ?_
  refine goS (n := 31) (Ls' := #[.val (.int p1), .unset, .unset, .unset, .unset, .unset]) (st' := [(.int (4 : Int32)), (.ref b1), (.ref b1)]) (fun _ kz => XS.iconst X13.here hx rfl (hb hby at_30) kz) ?_
  obtain ⟨T14, X14, e14, st14⟩ := getS2 X13 hx hZ hown (host := "") (Or.inl (hw _ (List.mem_of_getElem? (i := 12) rfl))) Via.refl e13 (S_FOUR.ext O13.2) (g := (mkF m 31 #[.val (.int p1), .unset, .unset, .unset, .unset, .unset] [(.int (4 : Int32)), (.ref b1), (.ref b1)])) rfl (hb hby at_31)
  refine goS (n := 34) (Ls' := #[.val (.int p1), .unset, .unset, .unset, .unset, .unset]) (st' := [(.ref (W 4)), (.int (4 : Int32)), (.ref b1), (.ref b1)]) st14 ?_
  obtain ⟨cl15, Ar15, q15, S15, Nn15, H15, G15⟩ := V_b1
  have hin15 : ¬ ((4 : Int32) < 0 ∨ cl15.slots.size ≤ ((4 : Int32)).toNatClampNeg) := inb_of S15 ⟨by decide, by decide⟩
  obtain ⟨T16, h16, X16, e16, W16, st16⟩ := stR X14 hx hZ e14 Ar15 (j := (4 : Int32)) hin15 rfl (Sto.ofV Ar15 q15 O_1 (Ins.self ((EX 4 (by decide)).ext O13.2))) (g := (mkF m 34 #[.val (.int p1), .unset, .unset, .unset, .unset, .unset] [(.ref (W 4)), (.int (4 : Int32)), (.ref b1), (.ref b1)])) rfl rfl (hb hby at_34)
  have V_b1 : Arv Z h16 b1 k1 (.object "com/example/holler/holler/model/Face") (15 : Int32) [(.ref (W 0)), (.ref (W 1)), (.ref (W 2)), (.ref (W 3)), (.ref (W 4)), .null, .null, .null, .null, .null, .null, .null, .null, .null, .null] .null := Arv.set Ar15 q15 S15 Nn15 H15 G15 rfl W16 4 rfl (Nat.le_of_ble_eq_true rfl)
  have N16 := Fr.snoc X16 N13 g_b1
  have O16 := O13.wr W16 g_b1
  refine goS (n := 35) (Ls' := #[.val (.int p1), .unset, .unset, .unset, .unset, .unset]) (st' := [(.ref b1)]) st16 ?_
  refine goS (n := 36) (Ls' := #[.val (.int p1), .unset, .unset, .unset, .unset, .unset]) (st' := [(.ref b1), (.ref b1)]) (fun _ kz => XS.dup X16.here hx rfl (hb hby at_35) rfl rfl kz) ?_
  refine goS (n := 37) (Ls' := #[.val (.int p1), .unset, .unset, .unset, .unset, .unset]) (st' := [(.int (5 : Int32)), (.ref b1), (.ref b1)]) (fun _ kz => XS.iconst X16.here hx rfl (hb hby at_36) kz) ?_
  obtain ⟨T17, X17, e17, st17⟩ := getS2 X16 hx hZ hown (host := "") (Or.inl (hw _ (List.mem_of_getElem? (i := 14) rfl))) Via.refl e16 (S_FIVE.ext O16.2) (g := (mkF m 37 #[.val (.int p1), .unset, .unset, .unset, .unset, .unset] [(.int (5 : Int32)), (.ref b1), (.ref b1)])) rfl (hb hby at_37)
  refine goS (n := 40) (Ls' := #[.val (.int p1), .unset, .unset, .unset, .unset, .unset]) (st' := [(.ref (W 5)), (.int (5 : Int32)), (.ref b1), (.ref b1)]) st17 ?_
  obtain ⟨cl18, Ar18, q18, S18, Nn18, H18, G18⟩ := V_b1
  have hin18 : ¬ ((5 : Int32) < 0 ∨ cl18.slots.size ≤ ((5 : Int32)).toNatClampNeg) := inb_of S18 ⟨by decide, by decide⟩
  obtain ⟨T19, h19, X19, e19, W19, st19⟩ := stR X17 hx hZ e17 Ar18 (j := (5 : Int32)) hin18 rfl (Sto.ofV Ar18 q18 O_1 (Ins.self ((EX 5 (by decide)).ext O16.2))) (g := (mkF m 40 #[.val (.int p1), .unset, .unset, .unset, .unset, .unset] [(.ref (W 5)), (.int (5 : Int32)), (.ref b1), (.ref b1)])) rfl rfl (hb hby at_40)
  have V_b1 : Arv Z h19 b1 k1 (.object "com/example/holler/holler/model/Face") (15 : Int32) [(.ref (W 0)), (.ref (W 1)), (.ref (W 2)), (.ref (W 3)), (.ref (W 4)), (.ref (W 5)), .null, .null, .null, .null, .null, .null, .null, .null, .null] .null := Arv.set Ar18 q18 S18 Nn18 H18 G18 rfl W19 5 rfl (Nat.le_of_ble_eq_true rfl)
  have N19 := Fr.snoc X19 N16 g_b1
  have O19 := O16.wr W19 g_b1
  refine goS (n := 41) (Ls' := #[.val (.int p1), .unset, .unset, .unset, .unset, .unset]) (st' := [(.ref b1)]) st19 ?_
  refine goS (n := 42) (Ls' := #[.val (.int p1), .unset, .unset, .unset, .unset, .unset]) (st' := [(.ref b1), (.ref b1)]) (fun _ kz => XS.dup X19.here hx rfl (hb hby at_41) rfl rfl kz) ?_
  refine goS (n := 44) (Ls' := #[.val (.int p1), .unset, .unset, .unset, .unset, .unset]) (st' := [(.int (6 : Int32)), (.ref b1), (.ref b1)]) (fun _ kz => XS.bipush X19.here hx rfl (hb hby at_42) kz) ?_
  obtain ⟨T20, X20, e20, st20⟩ := getS2 X19 hx hZ hown (host := "") (Or.inl (hw _ (List.mem_of_getElem? (i := 16) rfl))) Via.refl e19 (S_SIX.ext O19.2) (g := (mkF m 44 #[.val (.int p1), .unset, .unset, .unset, .unset, .unset] [(.int (6 : Int32)), (.ref b1), (.ref b1)])) rfl (hb hby at_44)
  refine goS (n := 47) (Ls' := #[.val (.int p1), .unset, .unset, .unset, .unset, .unset]) (st' := [(.ref (W 6)), (.int (6 : Int32)), (.ref b1), (.ref b1)]) st20 ?_
  obtain ⟨cl21, Ar21, q21, S21, Nn21, H21, G21⟩ := V_b1
  have hin21 : ¬ ((6 : Int32) < 0 ∨ cl21.slots.size ≤ ((6 : Int32)).toNatClampNeg) := inb_of S21 ⟨by decide, by decide⟩
  obtain ⟨T22, h22, X22, e22, W22, st22⟩ := stR X20 hx hZ e20 Ar21 (j := (6 : Int32)) hin21 rfl (Sto.ofV Ar21 q21 O_1 (Ins.self ((EX 6 (by decide)).ext O19.2))) (g := (mkF m 47 #[.val (.int p1), .unset, .unset, .unset, .unset, .unset] [(.ref (W 6)), (.int (6 : Int32)), (.ref b1), (.ref b1)])) rfl rfl (hb hby at_47)
  have V_b1 : Arv Z h22 b1 k1 (.object "com/example/holler/holler/model/Face") (15 : Int32) [(.ref (W 0)), (.ref (W 1)), (.ref (W 2)), (.ref (W 3)), (.ref (W 4)), (.ref (W 5)), (.ref (W 6)), .null, .null, .null, .null, .null, .null, .null, .null] .null := Arv.set Ar21 q21 S21 Nn21 H21 G21 rfl W22 6 rfl (Nat.le_of_ble_eq_true rfl)
  have N22 := Fr.snoc X22 N19 g_b1
  have O22 := O19.wr W22 g_b1
  refine goS (n := 48) (Ls' := #[.val (.int p1), .unset, .unset, .unset, .unset, .unset]) (st' := [(.ref b1)]) st22 ?_
  refine goS (n := 49) (Ls' := #[.val (.int p1), .unset, .unset, .unset, .unset, .unset]) (st' := [(.ref b1), (.ref b1)]) (fun _ kz => XS.dup X22.here hx rfl (hb hby at_48) rfl rfl kz) ?_
  refine goS (n := 51) (Ls' := #[.val (.int p1), .unset, .unset, .unset, .unset, .unset]) (st' := [(.int (7 : Int32)), (.ref b1), (.ref b1)]) (fun _ kz => XS.bipush X22.here hx rfl (hb hby at_49) kz) ?_
  obtain ⟨T23, X23, e23, st23⟩ := getS2 X22 hx hZ hown (host := "") (Or.inl (hw _ (List.mem_of_getElem? (i := 18) rfl))) Via.refl e22 (S_SEVEN.ext O22.2) (g := (mkF m 51 #[.val (.int p1), .unset, .unset, .unset, .unset, .unset] [(.int (7 : Int32)), (.ref b1), (.ref b1)])) rfl (hb hby at_51)
  refine goS (n := 54) (Ls' := #[.val (.int p1), .unset, .unset, .unset, .unset, .unset]) (st' := [(.ref (W 7)), (.int (7 : Int32)), (.ref b1), (.ref b1)]) st23 ?_
  obtain ⟨cl24, Ar24, q24, S24, Nn24, H24, G24⟩ := V_b1
  have hin24 : ¬ ((7 : Int32) < 0 ∨ cl24.slots.size ≤ ((7 : Int32)).toNatClampNeg) := inb_of S24 ⟨by decide, by decide⟩
  obtain ⟨T25, h25, X25, e25, W25, st25⟩ := stR X23 hx hZ e23 Ar24 (j := (7 : Int32)) hin24 rfl (Sto.ofV Ar24 q24 O_1 (Ins.self ((EX 7 (by decide)).ext O22.2))) (g := (mkF m 54 #[.val (.int p1), .unset, .unset, .unset, .unset, .unset] [(.ref (W 7)), (.int (7 : Int32)), (.ref b1), (.ref b1)])) rfl rfl (hb hby at_54)
  have V_b1 : Arv Z h25 b1 k1 (.object "com/example/holler/holler/model/Face") (15 : Int32) [(.ref (W 0)), (.ref (W 1)), (.ref (W 2)), (.ref (W 3)), (.ref (W 4)), (.ref (W 5)), (.ref (W 6)), (.ref (W 7)), .null, .null, .null, .null, .null, .null, .null] .null := Arv.set Ar24 q24 S24 Nn24 H24 G24 rfl W25 7 rfl (Nat.le_of_ble_eq_true rfl)
  have N25 := Fr.snoc X25 N22 g_b1
  have O25 := O22.wr W25 g_b1
  refine goS (n := 55) (Ls' := #[.val (.int p1), .unset, .unset, .unset, .unset, .unset]) (st' := [(.ref b1)]) st25 ?_
  refine goS (n := 56) (Ls' := #[.val (.int p1), .unset, .unset, .unset, .unset, .unset]) (st' := [(.ref b1), (.ref b1)]) (fun _ kz => XS.dup X25.here hx rfl (hb hby at_55) rfl rfl kz) ?_
  refine goS (n := 58) (Ls' := #[.val (.int p1), .unset, .unset, .unset, .unset, .unset]) (st' := [(.int (8 : Int32)), (.ref b1), (.ref b1)]) (fun _ kz => XS.bipush X25.here hx rfl (hb hby at_56) kz) ?_
  obtain ⟨T26, X26, e26, st26⟩ := getS2 X25 hx hZ hown (host := "") (Or.inl (hw _ (List.mem_of_getElem? (i := 20) rfl))) Via.refl e25 (S_EIGHT.ext O25.2) (g := (mkF m 58 #[.val (.int p1), .unset, .unset, .unset, .unset, .unset] [(.int (8 : Int32)), (.ref b1), (.ref b1)])) rfl (hb hby at_58)
  refine goS (n := 61) (Ls' := #[.val (.int p1), .unset, .unset, .unset, .unset, .unset]) (st' := [(.ref (W 8)), (.int (8 : Int32)), (.ref b1), (.ref b1)]) st26 ?_
  obtain ⟨cl27, Ar27, q27, S27, Nn27, H27, G27⟩ := V_b1
  have hin27 : ¬ ((8 : Int32) < 0 ∨ cl27.slots.size ≤ ((8 : Int32)).toNatClampNeg) := inb_of S27 ⟨by decide, by decide⟩
  obtain ⟨T28, h28, X28, e28, W28, st28⟩ := stR X26 hx hZ e26 Ar27 (j := (8 : Int32)) hin27 rfl (Sto.ofV Ar27 q27 O_1 (Ins.self ((EX 8 (by decide)).ext O25.2))) (g := (mkF m 61 #[.val (.int p1), .unset, .unset, .unset, .unset, .unset] [(.ref (W 8)), (.int (8 : Int32)), (.ref b1), (.ref b1)])) rfl rfl (hb hby at_61)
  have V_b1 : Arv Z h28 b1 k1 (.object "com/example/holler/holler/model/Face") (15 : Int32) [(.ref (W 0)), (.ref (W 1)), (.ref (W 2)), (.ref (W 3)), (.ref (W 4)), (.ref (W 5)), (.ref (W 6)), (.ref (W 7)), (.ref (W 8)), .null, .null, .null, .null, .null, .null] .null := Arv.set Ar27 q27 S27 Nn27 H27 G27 rfl W28 8 rfl (Nat.le_of_ble_eq_true rfl)
  have N28 := Fr.snoc X28 N25 g_b1
  have O28 := O25.wr W28 g_b1
  refine goS (n := 62) (Ls' := #[.val (.int p1), .unset, .unset, .unset, .unset, .unset]) (st' := [(.ref b1)]) st28 ?_
  refine goS (n := 63) (Ls' := #[.val (.int p1), .unset, .unset, .unset, .unset, .unset]) (st' := [(.ref b1), (.ref b1)]) (fun _ kz => XS.dup X28.here hx rfl (hb hby at_62) rfl rfl kz) ?_
  refine goS (n := 65) (Ls' := #[.val (.int p1), .unset, .unset, .unset, .unset, .unset]) (st' := [(.int (9 : Int32)), (.ref b1), (.ref b1)]) (fun _ kz => XS.bipush X28.here hx rfl (hb hby at_63) kz) ?_
  obtain ⟨T29, X29, e29, st29⟩ := getS2 X28 hx hZ hown (host := "") (Or.inl (hw _ (List.mem_of_getElem? (i := 22) rfl))) Via.refl e28 (S_NINE.ext O28.2) (g := (mkF m 65 #[.val (.int p1), .unset, .unset, .unset, .unset, .unset] [(.int (9 : Int32)), (.ref b1), (.ref b1)])) rfl (hb hby at_65)
  refine goS (n := 68) (Ls' := #[.val (.int p1), .unset, .unset, .unset, .unset, .unset]) (st' := [(.ref (W 9)), (.int (9 : Int32)), (.ref b1), (.ref b1)]) st29 ?_
  obtain ⟨cl30, Ar30, q30, S30, Nn30, H30, G30⟩ := V_b1
  have hin30 : ¬ ((9 : Int32) < 0 ∨ cl30.slots.size ≤ ((9 : Int32)).toNatClampNeg) := inb_of S30 ⟨by decide, by decide⟩
  obtain ⟨T31, h31, X31, e31, W31, st31⟩ := stR X29 hx hZ e29 Ar30 (j := (9 : Int32)) hin30 rfl (Sto.ofV Ar30 q30 O_1 (Ins.self ((EX 9 (by decide)).ext O28.2))) (g := (mkF m 68 #[.val (.int p1), .unset, .unset, .unset, .unset, .unset] [(.ref (W 9)), (.int (9 : Int32)), (.ref b1), (.ref b1)])) rfl rfl (hb hby at_68)
  have V_b1 : Arv Z h31 b1 k1 (.object "com/example/holler/holler/model/Face") (15 : Int32) [(.ref (W 0)), (.ref (W 1)), (.ref (W 2)), (.ref (W 3)), (.ref (W 4)), (.ref (W 5)), (.ref (W 6)), (.ref (W 7)), (.ref (W 8)), (.ref (W 9)), .null, .null, .null, .null, .null] .null := Arv.set Ar30 q30 S30 Nn30 H30 G30 rfl W31 9 rfl (Nat.le_of_ble_eq_true rfl)
  have N31 := Fr.snoc X31 N28 g_b1
  have O31 := O28.wr W31 g_b1
  refine goS (n := 69) (Ls' := #[.val (.int p1), .unset, .unset, .unset, .unset, .unset]) (st' := [(.ref b1)]) st31 ?_
  refine goS (n := 70) (Ls' := #[.val (.int p1), .unset, .unset, .unset, .unset, .unset]) (st' := [(.ref b1), (.ref b1)]) (fun _ kz => XS.dup X31.here hx rfl (hb hby at_69) rfl rfl kz) ?_
  refine goS (n := 72) (Ls' := #[.val (.int p1), .unset, .unset, .unset, .unset, .unset]) (st' := [(.int (10 : Int32)), (.ref b1), (.ref b1)]) (fun _ kz => XS.bipush X31.here hx rfl (hb hby at_70) kz) ?_
  obtain ⟨T32, X32, e32, st32⟩ := getS2 X31 hx hZ hown (host := "") (Or.inl (hw _ (List.mem_of_getElem? (i := 24) rfl))) Via.refl e31 (S_SKIP.ext O31.2) (g := (mkF m 72 #[.val (.int p1), .unset, .unset, .unset, .unset, .unset] [(.int (10 : Int32)), (.ref b1), (.ref b1)])) rfl (hb hby at_72)
  refine goS (n := 75) (Ls' := #[.val (.int p1), .unset, .unset, .unset, .unset, .unset]) (st' := [(.ref (W 10)), (.int (10 : Int32)), (.ref b1), (.ref b1)]) st32 ?_
  obtain ⟨cl33, Ar33, q33, S33, Nn33, H33, G33⟩ := V_b1
  have hin33 : ¬ ((10 : Int32) < 0 ∨ cl33.slots.size ≤ ((10 : Int32)).toNatClampNeg) := inb_of S33 ⟨by decide, by decide⟩
  obtain ⟨T34, h34, X34, e34, W34, st34⟩ := stR X32 hx hZ e32 Ar33 (j := (10 : Int32)) hin33 rfl (Sto.ofV Ar33 q33 O_1 (Ins.self ((EX 10 (by decide)).ext O31.2))) (g := (mkF m 75 #[.val (.int p1), .unset, .unset, .unset, .unset, .unset] [(.ref (W 10)), (.int (10 : Int32)), (.ref b1), (.ref b1)])) rfl rfl (hb hby at_75)
  have V_b1 : Arv Z h34 b1 k1 (.object "com/example/holler/holler/model/Face") (15 : Int32) [(.ref (W 0)), (.ref (W 1)), (.ref (W 2)), (.ref (W 3)), (.ref (W 4)), (.ref (W 5)), (.ref (W 6)), (.ref (W 7)), (.ref (W 8)), (.ref (W 9)), (.ref (W 10)), .null, .null, .null, .null] .null := Arv.set Ar33 q33 S33 Nn33 H33 G33 rfl W34 10 rfl (Nat.le_of_ble_eq_true rfl)
  have N34 := Fr.snoc X34 N31 g_b1
  have O34 := O31.wr W34 g_b1
  refine goS (n := 76) (Ls' := #[.val (.int p1), .unset, .unset, .unset, .unset, .unset]) (st' := [(.ref b1)]) st34 ?_
  refine goS (n := 77) (Ls' := #[.val (.int p1), .unset, .unset, .unset, .unset, .unset]) (st' := [(.ref b1), (.ref b1)]) (fun _ kz => XS.dup X34.here hx rfl (hb hby at_76) rfl rfl kz) ?_
  refine goS (n := 79) (Ls' := #[.val (.int p1), .unset, .unset, .unset, .unset, .unset]) (st' := [(.int (11 : Int32)), (.ref b1), (.ref b1)]) (fun _ kz => XS.bipush X34.here hx rfl (hb hby at_77) kz) ?_
  obtain ⟨T35, X35, e35, st35⟩ := getS2 X34 hx hZ hown (host := "") (Or.inl (hw _ (List.mem_of_getElem? (i := 26) rfl))) Via.refl e34 (S_REVERSE.ext O34.2) (g := (mkF m 79 #[.val (.int p1), .unset, .unset, .unset, .unset, .unset] [(.int (11 : Int32)), (.ref b1), (.ref b1)])) rfl (hb hby at_79)
  refine goS (n := 82) (Ls' := #[.val (.int p1), .unset, .unset, .unset, .unset, .unset]) (st' := [(.ref (W 11)), (.int (11 : Int32)), (.ref b1), (.ref b1)]) st35 ?_
  obtain ⟨cl36, Ar36, q36, S36, Nn36, H36, G36⟩ := V_b1
  have hin36 : ¬ ((11 : Int32) < 0 ∨ cl36.slots.size ≤ ((11 : Int32)).toNatClampNeg) := inb_of S36 ⟨by decide, by decide⟩
  obtain ⟨T37, h37, X37, e37, W37, st37⟩ := stR X35 hx hZ e35 Ar36 (j := (11 : Int32)) hin36 rfl (Sto.ofV Ar36 q36 O_1 (Ins.self ((EX 11 (by decide)).ext O34.2))) (g := (mkF m 82 #[.val (.int p1), .unset, .unset, .unset, .unset, .unset] [(.ref (W 11)), (.int (11 : Int32)), (.ref b1), (.ref b1)])) rfl rfl (hb hby at_82)
  have V_b1 : Arv Z h37 b1 k1 (.object "com/example/holler/holler/model/Face") (15 : Int32) [(.ref (W 0)), (.ref (W 1)), (.ref (W 2)), (.ref (W 3)), (.ref (W 4)), (.ref (W 5)), (.ref (W 6)), (.ref (W 7)), (.ref (W 8)), (.ref (W 9)), (.ref (W 10)), (.ref (W 11)), .null, .null, .null] .null := Arv.set Ar36 q36 S36 Nn36 H36 G36 rfl W37 11 rfl (Nat.le_of_ble_eq_true rfl)
  have N37 := Fr.snoc X37 N34 g_b1
  have O37 := O34.wr W37 g_b1
  refine goS (n := 83) (Ls' := #[.val (.int p1), .unset, .unset, .unset, .unset, .unset]) (st' := [(.ref b1)]) st37 ?_
  refine goS (n := 84) (Ls' := #[.val (.int p1), .unset, .unset, .unset, .unset, .unset]) (st' := [(.ref b1), (.ref b1)]) (fun _ kz => XS.dup X37.here hx rfl (hb hby at_83) rfl rfl kz) ?_
  refine goS (n := 86) (Ls' := #[.val (.int p1), .unset, .unset, .unset, .unset, .unset]) (st' := [(.int (12 : Int32)), (.ref b1), (.ref b1)]) (fun _ kz => XS.bipush X37.here hx rfl (hb hby at_84) kz) ?_
  obtain ⟨T38, X38, e38, st38⟩ := getS2 X37 hx hZ hown (host := "") (Or.inl (hw _ (List.mem_of_getElem? (i := 28) rfl))) Via.refl e37 (S_DRAW_TWO.ext O37.2) (g := (mkF m 86 #[.val (.int p1), .unset, .unset, .unset, .unset, .unset] [(.int (12 : Int32)), (.ref b1), (.ref b1)])) rfl (hb hby at_86)
  refine goS (n := 89) (Ls' := #[.val (.int p1), .unset, .unset, .unset, .unset, .unset]) (st' := [(.ref (W 12)), (.int (12 : Int32)), (.ref b1), (.ref b1)]) st38 ?_
  obtain ⟨cl39, Ar39, q39, S39, Nn39, H39, G39⟩ := V_b1
  have hin39 : ¬ ((12 : Int32) < 0 ∨ cl39.slots.size ≤ ((12 : Int32)).toNatClampNeg) := inb_of S39 ⟨by decide, by decide⟩
  obtain ⟨T40, h40, X40, e40, W40, st40⟩ := stR X38 hx hZ e38 Ar39 (j := (12 : Int32)) hin39 rfl (Sto.ofV Ar39 q39 O_1 (Ins.self ((EX 12 (by decide)).ext O37.2))) (g := (mkF m 89 #[.val (.int p1), .unset, .unset, .unset, .unset, .unset] [(.ref (W 12)), (.int (12 : Int32)), (.ref b1), (.ref b1)])) rfl rfl (hb hby at_89)
  have V_b1 : Arv Z h40 b1 k1 (.object "com/example/holler/holler/model/Face") (15 : Int32) [(.ref (W 0)), (.ref (W 1)), (.ref (W 2)), (.ref (W 3)), (.ref (W 4)), (.ref (W 5)), (.ref (W 6)), (.ref (W 7)), (.ref (W 8)), (.ref (W 9)), (.ref (W 10)), (.ref (W 11)), (.ref (W 12)), .null, .null] .null := Arv.set Ar39 q39 S39 Nn39 H39 G39 rfl W40 12 rfl (Nat.le_of_ble_eq_true rfl)
  have N40 := Fr.snoc X40 N37 g_b1
  have O40 := O37.wr W40 g_b1
  refine goS (n := 90) (Ls' := #[.val (.int p1), .unset, .unset, .unset, .unset, .unset]) (st' := [(.ref b1)]) st40 ?_
  refine goS (n := 91) (Ls' := #[.val (.int p1), .unset, .unset, .unset, .unset, .unset]) (st' := [(.ref b1), (.ref b1)]) (fun _ kz => XS.dup X40.here hx rfl (hb hby at_90) rfl rfl kz) ?_
  refine goS (n := 93) (Ls' := #[.val (.int p1), .unset, .unset, .unset, .unset, .unset]) (st' := [(.int (13 : Int32)), (.ref b1), (.ref b1)]) (fun _ kz => XS.bipush X40.here hx rfl (hb hby at_91) kz) ?_
  obtain ⟨T41, X41, e41, st41⟩ := getS2 X40 hx hZ hown (host := "") (Or.inl (hw _ (List.mem_of_getElem? (i := 30) rfl))) Via.refl e40 (S_WILD.ext O40.2) (g := (mkF m 93 #[.val (.int p1), .unset, .unset, .unset, .unset, .unset] [(.int (13 : Int32)), (.ref b1), (.ref b1)])) rfl (hb hby at_93)
  refine goS (n := 96) (Ls' := #[.val (.int p1), .unset, .unset, .unset, .unset, .unset]) (st' := [(.ref (W 13)), (.int (13 : Int32)), (.ref b1), (.ref b1)]) st41 ?_
  obtain ⟨cl42, Ar42, q42, S42, Nn42, H42, G42⟩ := V_b1
  have hin42 : ¬ ((13 : Int32) < 0 ∨ cl42.slots.size ≤ ((13 : Int32)).toNatClampNeg) := inb_of S42 ⟨by decide, by decide⟩
  obtain ⟨T43, h43, X43, e43, W43, st43⟩ := stR X41 hx hZ e41 Ar42 (j := (13 : Int32)) hin42 rfl (Sto.ofV Ar42 q42 O_1 (Ins.self ((EX 13 (by decide)).ext O40.2))) (g := (mkF m 96 #[.val (.int p1), .unset, .unset, .unset, .unset, .unset] [(.ref (W 13)), (.int (13 : Int32)), (.ref b1), (.ref b1)])) rfl rfl (hb hby at_96)
  have V_b1 : Arv Z h43 b1 k1 (.object "com/example/holler/holler/model/Face") (15 : Int32) [(.ref (W 0)), (.ref (W 1)), (.ref (W 2)), (.ref (W 3)), (.ref (W 4)), (.ref (W 5)), (.ref (W 6)), (.ref (W 7)), (.ref (W 8)), (.ref (W 9)), (.ref (W 10)), (.ref (W 11)), (.ref (W 12)), (.ref (W 13)), .null] .null := Arv.set Ar42 q42 S42 Nn42 H42 G42 rfl W43 13 rfl (Nat.le_of_ble_eq_true rfl)
  have N43 := Fr.snoc X43 N40 g_b1
  have O43 := O40.wr W43 g_b1
  refine goS (n := 97) (Ls' := #[.val (.int p1), .unset, .unset, .unset, .unset, .unset]) (st' := [(.ref b1)]) st43 ?_
  refine goS (n := 98) (Ls' := #[.val (.int p1), .unset, .unset, .unset, .unset, .unset]) (st' := [(.ref b1), (.ref b1)]) (fun _ kz => XS.dup X43.here hx rfl (hb hby at_97) rfl rfl kz) ?_
  refine goS (n := 100) (Ls' := #[.val (.int p1), .unset, .unset, .unset, .unset, .unset]) (st' := [(.int (14 : Int32)), (.ref b1), (.ref b1)]) (fun _ kz => XS.bipush X43.here hx rfl (hb hby at_98) kz) ?_
  obtain ⟨T44, X44, e44, st44⟩ := getS2 X43 hx hZ hown (host := "") (Or.inl (hw _ (List.mem_of_getElem? (i := 32) rfl))) Via.refl e43 (S_WILD_DRAW_FOUR.ext O43.2) (g := (mkF m 100 #[.val (.int p1), .unset, .unset, .unset, .unset, .unset] [(.int (14 : Int32)), (.ref b1), (.ref b1)])) rfl (hb hby at_100)
  refine goS (n := 103) (Ls' := #[.val (.int p1), .unset, .unset, .unset, .unset, .unset]) (st' := [(.ref (W 14)), (.int (14 : Int32)), (.ref b1), (.ref b1)]) st44 ?_
  obtain ⟨cl45, Ar45, q45, S45, Nn45, H45, G45⟩ := V_b1
  have hin45 : ¬ ((14 : Int32) < 0 ∨ cl45.slots.size ≤ ((14 : Int32)).toNatClampNeg) := inb_of S45 ⟨by decide, by decide⟩
  obtain ⟨T46, h46, X46, e46, W46, st46⟩ := stR X44 hx hZ e44 Ar45 (j := (14 : Int32)) hin45 rfl (Sto.ofV Ar45 q45 O_1 (Ins.self ((EX 14 (by decide)).ext O43.2))) (g := (mkF m 103 #[.val (.int p1), .unset, .unset, .unset, .unset, .unset] [(.ref (W 14)), (.int (14 : Int32)), (.ref b1), (.ref b1)])) rfl rfl (hb hby at_103)
  have V_b1 : Arv Z h46 b1 k1 (.object "com/example/holler/holler/model/Face") (15 : Int32) [(.ref (W 0)), (.ref (W 1)), (.ref (W 2)), (.ref (W 3)), (.ref (W 4)), (.ref (W 5)), (.ref (W 6)), (.ref (W 7)), (.ref (W 8)), (.ref (W 9)), (.ref (W 10)), (.ref (W 11)), (.ref (W 12)), (.ref (W 13)), (.ref (W 14))] .null := Arv.set Ar45 q45 S45 Nn45 H45 G45 rfl W46 14 rfl (Nat.le_of_ble_eq_true rfl)
  have N46 := Fr.snoc X46 N43 g_b1
  have O46 := O43.wr W46 g_b1
  refine goS (n := 104) (Ls' := #[.val (.int p1), .unset, .unset, .unset, .unset, .unset]) (st' := [(.ref b1)]) st46 ?_
  refine goS (n := 105) (Ls' := #[.val (.int p1), .val (.ref b1), .unset, .unset, .unset, .unset]) (st' := []) (fun _ kz => XS.astoreN X46.here hx rfl (hb hby at_104) rfl rfl (l' := #[.val (.int p1), .val (.ref b1), .unset, .unset, .unset, .unset]) rfl kz) ?_
  refine goS (n := 106) (Ls' := #[.val (.int p1), .val (.ref b1), .unset, .unset, .unset, .unset]) (st' := [(.int p1)]) (fun _ kz => XS.iloadN X46.here hx rfl (hb hby at_105) rfl kz) ?_
  refine goS (n := 108) (Ls' := #[.val (.int p1), .val (.ref b1), .unset, .unset, .unset, .unset]) (st' := [(.int (2147483647 : Int32)), (.int p1)]) (X46.ldcInt hx hown (mvT hZ (hw _ (List.mem_of_getElem? (i := 34) rfl))) (g := (mkF m 106 #[.val (.int p1), .val (.ref b1), .unset, .unset, .unset, .unset] [(.int p1)])) rfl (hb hby at_106)) ?_
  refine goS (n := 109) (Ls' := #[.val (.int p1), .val (.ref b1), .unset, .unset, .unset, .unset]) (st' := [(.int (p1 &&& (2147483647 : Int32)))]) (fun _ kz => XS.iand X46.here hx rfl (hb hby at_108) rfl kz) ?_
  refine goS (n := 111) (Ls' := #[.val (.int p1), .val (.ref b1), .unset, .unset, .unset, .unset]) (st' := [(.int (15 : Int32)), (.int (p1 &&& (2147483647 : Int32)))]) (fun _ kz => XS.bipush X46.here hx rfl (hb hby at_109) kz) ?_
  refine goS (n := 112) (Ls' := #[.val (.int p1), .val (.ref b1), .unset, .unset, .unset, .unset]) (st' := [(.int ((p1 &&& (2147483647 : Int32)) % (15 : Int32)))]) (fun _ kz => iremM X46 hx rfl (hb hby at_111) rfl (by decide) kz) ?_
  refine goS (n := 113) (Ls' := #[.val (.int p1), .val (.ref b1), .val (.int ((p1 &&& (2147483647 : Int32)) % (15 : Int32))), .unset, .unset, .unset]) (st' := []) (fun _ kz => XS.istoreN X46.here hx rfl (hb hby at_112) rfl (l' := #[.val (.int p1), .val (.ref b1), .val (.int ((p1 &&& (2147483647 : Int32)) % (15 : Int32))), .unset, .unset, .unset]) rfl kz) ?_
  obtain ⟨i, hi⟩ : ∃ i : Int32, i = ((p1 &&& (2147483647 : Int32)) % (15 : Int32)) := ⟨_, rfl⟩
  rw [← hi]
  obtain ⟨n, hn, ht, hk, hneg⟩ := idx (i := i) (n := 15) (by rw [hi]; exact modk p1 15 15 (by decide) (by decide))
  have hlt : i < (15 : Int32) := by rw [Int32.lt_iff_toInt_lt]; show i.toInt < 15; omega
  have h13 : i < (13 : Int32) ↔ n < 13 := by rw [Int32.lt_iff_toInt_lt]; show i.toInt < 13 ↔ _; omega
  refine goS (n := 114) (Ls' := #[.val (.int p1), .val (.ref b1), .val (.int i), .unset, .unset, .unset]) (st' := [(.ref b1)]) (fun _ kz => XS.aloadN X46.here hx rfl (hb hby at_113) rfl rfl kz) ?_
  refine goS (n := 115) (Ls' := #[.val (.int p1), .val (.ref b1), .val (.int i), .unset, .unset, .unset]) (st' := [(.int i), (.ref b1)]) (fun _ kz => XS.iloadN X46.here hx rfl (hb hby at_114) rfl kz) ?_
  have vv47 := V_b1
  obtain ⟨cl47, Ar47, q47, S47, Nn47, H47, G47⟩ := vv47
  have hin47 : ¬ (i < 0 ∨ cl47.slots.size ≤ (i).toNatClampNeg) := inb_of S47 ⟨hneg, hlt⟩
  have hat47 : cl47.slots[(i).toNatClampNeg]? = some (.ref (W n)) := Has.at H47 hin47 (by rw [hk]; exact own_at W n hn)
  refine goS (n := 116) (Ls' := #[.val (.int p1), .val (.ref b1), .val (.int i), .unset, .unset, .unset]) (st' := [(.ref (W n))]) (fun tz kz => X46.aaload hx (j := i) (v := (.ref (W n))) (by rw [e46]; exact Ar47.1) (State.isArrayOf_alike hZ.alike Ar47.2.1) rfl Ar47.2.2 hin47 hat47 (g := (mkF m 115 #[.val (.int p1), .val (.ref b1), .val (.int i), .unset, .unset, .unset] [(.int i), (.ref b1)])) rfl rfl (hb hby at_115) tz kz) ?_
  refine goS (n := 117) (Ls' := #[.val (.int p1), .val (.ref b1), .val (.int i), .val (.ref (W n)), .unset, .unset]) (st' := []) (fun _ kz => XS.astoreN X46.here hx rfl (hb hby at_116) rfl rfl (l' := #[.val (.int p1), .val (.ref b1), .val (.int i), .val (.ref (W n)), .unset, .unset]) rfl kz) ?_
  refine goS (n := 118) (Ls' := #[.val (.int p1), .val (.ref b1), .val (.int i), .val (.ref (W n)), .unset, .unset]) (st' := [(.ref (W n))]) (fun _ kz => XS.aloadN X46.here hx rfl (hb hby at_117) rfl rfl kz) ?_
  obtain ⟨cq48, kq48, q48a, q48b, q48c⟩ := isOf hZ e46 ((EX n hn).ext O46.2)
  obtain ⟨_, _, ⟨T48, L48, k48, n48⟩, -, X48, ⟨Lc48, hQ48, l48, y48, z48⟩, st48⟩ := X46.virtualBack hx (y := (⟨"com/example/holler/holler/model/Face", "isWild", "()Z"⟩ : MethodName)) (z := (⟨"com/example/holler/holler/model/Face", "isWild", "()Z"⟩ : MethodName)) hown (mvT hZ (hw _ (List.mem_of_getElem? (i := 35) rfl))) (mvT hZ (hw _ (List.mem_of_getElem? (i := 36) rfl))) (notFace_of_selects (args := #[]) (mvT hZ (hw _ (List.mem_of_getElem? (i := 38) rfl)))) (mvT hZ (hw _ (List.mem_of_getElem? (i := 38) rfl))) (mvT hZ (hw _ (List.mem_of_getElem? (i := 37) rfl))) (by decide) (backOf (W := 0) (rm_wild l Z a0 hw [] (W n) (W 13) (W 14) h46 n0 O46 S_WILD S_WILD_DRAW_FOUR) hZ (hw _ (List.mem_of_getElem? (i := 39) rfl)) (hw _ (List.mem_of_getElem? (i := 3) rfl)) (by decide) (by decide)) q48a q48c (g := (mkF m 118 #[.val (.int p1), .val (.ref b1), .val (.int i), .val (.ref (W n)), .unset, .unset] [(.ref (W n))])) rfl (by rw [hml]; rfl) (Steps.refl _) (argsL := []) (rest := []) (lenOf pd_0 rfl) rfl (by show 2 * 0 + _ ≤ _; exact Nat.le_of_eq rfl) (hb hby at_118) (fun _ _ => ⟨rfl, e46, (Nat.le_of_ble_eq_true rfl), (Nat.le_of_ble_eq_true rfl)⟩)
  dsimp only [Pt.U, Pt.locs, Pt.cells, Pt.slots] at X48 l48 y48 z48 st48 hQ48
  subst l48 y48 z48
  obtain ⟨v48, N48q, e48⟩ := hQ48
  obtain ⟨r, hr⟩ : ∃ r, r = bi (W n = W 13 ∨ W n = W 14) := ⟨_, rfl⟩
  rw [← hr] at v48
  subst v48
  have N48 := Fr.app N46 N48q
  refine goT (n := 121) (Ls' := #[.val (.int p1), .val (.ref b1), .val (.int i), .val (.ref (W n)), .unset, .unset]) (st' := [(.int r)]) st48 ?_
  refine goS (n := 123) (Ls' := #[.val (.int p1), .val (.ref b1), .val (.int i), .val (.ref (W n)), .val (.int r), .unset]) (st' := []) (fun _ kz => XS.istore X48.here hx rfl (hb hby at_121) rfl (l' := #[.val (.int p1), .val (.ref b1), .val (.int i), .val (.ref (W n)), .val (.int r), .unset]) rfl kz) ?_
  refine goS (n := 124) (Ls' := #[.val (.int p1), .val (.ref b1), .val (.int i), .val (.ref (W n)), .val (.int r), .unset]) (st' := [(.int i)]) (fun _ kz => XS.iloadN X48.here hx rfl (hb hby at_123) rfl kz) ?_
  refine goS (n := 126) (Ls' := #[.val (.int p1), .val (.ref b1), .val (.int i), .val (.ref (W n)), .val (.int r), .unset]) (st' := [(.int (13 : Int32)), (.int i)]) (fun _ kz => XS.bipush X48.here hx rfl (hb hby at_124) kz) ?_
  by_cases hc49 : i < (13 : Int32)
  · refine goS (n := 133) (Ls' := #[.val (.int p1), .val (.ref b1), .val (.int i), .val (.ref (W n)), .val (.int r), .unset]) (st' := []) (fun _ kz => XS.icmpYes X48.here hx rfl (pc0 := 126) (pc' := 133) rfl (hb hby at_126) rfl (tlt hc49).1 (by decide) (by decide) kz) ?_
    have hr0 : r = (0 : Int32) := by rw [hr]; exact bi_f (fun q => by rcases q with q | q <;> (have := INJ _ _ hn (by decide) q; have := h13.mp hc49; omega))
    have hp : ¬ (P n = (50 : Int32)) := by have := (P50 n hn); have := h13; exact fun q => absurd (h13.mp hc49) (by have := this; exact Nat.not_lt.mpr ((P50 n hn).mp q))
    refine goS (n := 134) (Ls' := #[.val (.int p1), .val (.ref b1), .val (.int i), .val (.ref (W n)), .val (.int r), .unset]) (st' := [(.int (0 : Int32))]) (fun _ kz => XS.iconst X48.here hx rfl (hb hby at_133) kz) ?_
    refine goS (n := 136) (Ls' := #[.val (.int p1), .val (.ref b1), .val (.int i), .val (.ref (W n)), .val (.int r), .val (.int (0 : Int32))]) (st' := []) (fun _ kz => XS.istore X48.here hx rfl (hb hby at_134) rfl (l' := #[.val (.int p1), .val (.ref b1), .val (.int i), .val (.ref (W n)), .val (.int r), .val (.int (0 : Int32))]) rfl kz) ?_
    refine goS (n := 138) (Ls' := #[.val (.int p1), .val (.ref b1), .val (.int i), .val (.ref (W n)), .val (.int r), .val (.int (0 : Int32))]) (st' := [(.int r)]) (fun _ kz => XS.iload X48.here hx rfl (hb hby at_136) rfl kz) ?_
    refine goS (n := 140) (Ls' := #[.val (.int p1), .val (.ref b1), .val (.int i), .val (.ref (W n)), .val (.int r), .val (.int (0 : Int32))]) (st' := [(.int (0 : Int32)), (.int r)]) (fun _ kz => XS.iload X48.here hx rfl (hb hby at_138) rfl kz) ?_
    refine goS (n := 143) (Ls' := #[.val (.int p1), .val (.ref b1), .val (.int i), .val (.ref (W n)), .val (.int r), .val (.int (0 : Int32))]) (st' := []) (fun _ kz => XS.icmpNo X48.here hx rfl (hb hby at_140) rfl (teq hr0).2 kz) ?_
    refine goS (n := 145) (Ls' := #[.val (.int p1), .val (.ref b1), .val (.int i), .val (.ref (W n)), .val (.int r), .val (.int (0 : Int32))]) (st' := [(.int r)]) (fun _ kz => XS.iload X48.here hx rfl (hb hby at_143) rfl kz) ?_
    refine goS (n := 146) (Ls' := #[.val (.int p1), .val (.ref b1), .val (.int i), .val (.ref (W n)), .val (.int r), .val (.int (0 : Int32))]) (st' := [(.ref (W n)), (.int r)]) (fun _ kz => XS.aloadN X48.here hx rfl (hb hby at_145) rfl rfl kz) ?_
    obtain ⟨cq50, kq50, q50a, q50b, q50c⟩ := isOf hZ e48 ((EX n hn).ext O46.2)
    obtain ⟨_, _, ⟨T50, L50, k50, n50⟩, -, X50, ⟨Lc50, hQ50, l50, y50, z50⟩, st50⟩ := X48.virtualBack hx (y := (⟨"com/example/holler/holler/model/Face", "points", "()I"⟩ : MethodName)) (z := (⟨"com/example/holler/holler/model/Face", "points", "()I"⟩ : MethodName)) hown (mvT hZ (hw _ (List.mem_of_getElem? (i := 42) rfl))) (mvT hZ (hw _ (List.mem_of_getElem? (i := 43) rfl))) (notFace_of_selects (args := #[]) (mvT hZ (hw _ (List.mem_of_getElem? (i := 45) rfl)))) (mvT hZ (hw _ (List.mem_of_getElem? (i := 45) rfl))) (mvT hZ (hw _ (List.mem_of_getElem? (i := 44) rfl))) (by decide) (backOf (W := 1) (rm_pts l Z a0 hw [] (W n) (P n) h46 n0 O46 (PT n hn)) hZ (hw _ (List.mem_of_getElem? (i := 46) rfl)) (hw _ (List.mem_of_getElem? (i := 3) rfl)) (by decide) (by decide)) q50a q50c (g := (mkF m 146 #[.val (.int p1), .val (.ref b1), .val (.int i), .val (.ref (W n)), .val (.int r), .val (.int (0 : Int32))] [(.ref (W n)), (.int r)])) rfl (by rw [hml]; rfl) (Steps.refl _) (argsL := []) (rest := [(.int r)]) (lenOf pd_1 rfl) rfl (by show 2 * 0 + _ ≤ _; exact Nat.le_of_eq rfl) (hb hby at_146) (fun _ _ => ⟨rfl, e48, (Nat.le_of_ble_eq_true rfl), (Nat.le_of_ble_eq_true rfl)⟩)
    dsimp only [Pt.U, Pt.locs, Pt.cells, Pt.slots] at X50 l50 y50 z50 st50 hQ50
    subst l50 y50 z50
    obtain ⟨rfl, N50q, e50⟩ := hQ50
    have N50 := Fr.app N48 N50q
    refine goT (n := 149) (Ls' := #[.val (.int p1), .val (.ref b1), .val (.int i), .val (.ref (W n)), .val (.int r), .val (.int (0 : Int32))]) (st' := [(.int (P n)), (.int r)]) st50 ?_
    refine goS (n := 151) (Ls' := #[.val (.int p1), .val (.ref b1), .val (.int i), .val (.ref (W n)), .val (.int r), .val (.int (0 : Int32))]) (st' := [(.int (50 : Int32)), (.int (P n)), (.int r)]) (fun _ kz => XS.bipush X50.here hx rfl (hb hby at_149) kz) ?_
    refine goS (n := 158) (Ls' := #[.val (.int p1), .val (.ref b1), .val (.int i), .val (.ref (W n)), .val (.int r), .val (.int (0 : Int32))]) (st' := [(.int r)]) (fun _ kz => XS.icmpYes X50.here hx rfl (pc0 := 151) (pc' := 158) rfl (hb hby at_151) rfl (feq hp).2 (by decide) (by decide) kz) ?_
    refine goS (n := 159) (Ls' := #[.val (.int p1), .val (.ref b1), .val (.int i), .val (.ref (W n)), .val (.int r), .val (.int (0 : Int32))]) (st' := [(.int (0 : Int32)), (.int r)]) (fun _ kz => XS.iconst X50.here hx rfl (hb hby at_158) kz) ?_
    refine goS (n := 162) (Ls' := #[.val (.int p1), .val (.ref b1), .val (.int i), .val (.ref (W n)), .val (.int r), .val (.int (0 : Int32))]) (st' := []) (fun _ kz => XS.icmpNo X50.here hx rfl (hb hby at_159) rfl (teq hr0).2 kz) ?_
    refine goS (n := 163) (Ls' := #[.val (.int p1), .val (.ref b1), .val (.int i), .val (.ref (W n)), .val (.int r), .val (.int (0 : Int32))]) (st' := [(.int (1 : Int32))]) (fun _ kz => XS.iconst X50.here hx rfl (hb hby at_162) kz) ?_
    refine goS (n := 167) (Ls' := #[.val (.int p1), .val (.ref b1), .val (.int i), .val (.ref (W n)), .val (.int r), .val (.int (0 : Int32))]) (st' := [(.int (1 : Int32))]) (fun _ kz => XS.goto X50.here hx rfl (pc0 := 163) (pc' := 167) rfl (hb hby at_163) (by decide) (by decide) kz) ?_
    exact goRetZ X50 hx hlk Bd.returns (Or.inr rfl) (hb hby at_167) (by decide) (by decide) (by rw [e50]; exact ⟨rfl, N50⟩)
  · refine goS (n := 129) (Ls' := #[.val (.int p1), .val (.ref b1), .val (.int i), .val (.ref (W n)), .val (.int r), .unset]) (st' := []) (fun _ kz => XS.icmpNo X48.here hx rfl (hb hby at_126) rfl (flt hc49).1 kz) ?_
    have hr0 : r = (1 : Int32) := by rw [hr]; exact bi_t (by have h := mt h13.mpr hc49; rcases (show n = 13 ∨ n = 14 by omega) with q | q <;> rw [q] <;> simp)
    have hp : (P n = (50 : Int32)) := by have := (P50 n hn); have := h13; exact (P50 n hn).mpr (Nat.not_lt.mp (mt h13.mpr hc49))
    refine goS (n := 130) (Ls' := #[.val (.int p1), .val (.ref b1), .val (.int i), .val (.ref (W n)), .val (.int r), .unset]) (st' := [(.int (1 : Int32))]) (fun _ kz => XS.iconst X48.here hx rfl (hb hby at_129) kz) ?_
    refine goS (n := 134) (Ls' := #[.val (.int p1), .val (.ref b1), .val (.int i), .val (.ref (W n)), .val (.int r), .unset]) (st' := [(.int (1 : Int32))]) (fun _ kz => XS.goto X48.here hx rfl (pc0 := 130) (pc' := 134) rfl (hb hby at_130) (by decide) (by decide) kz) ?_
    refine goS (n := 136) (Ls' := #[.val (.int p1), .val (.ref b1), .val (.int i), .val (.ref (W n)), .val (.int r), .val (.int (1 : Int32))]) (st' := []) (fun _ kz => XS.istore X48.here hx rfl (hb hby at_134) rfl (l' := #[.val (.int p1), .val (.ref b1), .val (.int i), .val (.ref (W n)), .val (.int r), .val (.int (1 : Int32))]) rfl kz) ?_
    refine goS (n := 138) (Ls' := #[.val (.int p1), .val (.ref b1), .val (.int i), .val (.ref (W n)), .val (.int r), .val (.int (1 : Int32))]) (st' := [(.int r)]) (fun _ kz => XS.iload X48.here hx rfl (hb hby at_136) rfl kz) ?_
    refine goS (n := 140) (Ls' := #[.val (.int p1), .val (.ref b1), .val (.int i), .val (.ref (W n)), .val (.int r), .val (.int (1 : Int32))]) (st' := [(.int (1 : Int32)), (.int r)]) (fun _ kz => XS.iload X48.here hx rfl (hb hby at_138) rfl kz) ?_
    refine goS (n := 143) (Ls' := #[.val (.int p1), .val (.ref b1), .val (.int i), .val (.ref (W n)), .val (.int r), .val (.int (1 : Int32))]) (st' := []) (fun _ kz => XS.icmpNo X48.here hx rfl (hb hby at_140) rfl (teq hr0).2 kz) ?_
    refine goS (n := 145) (Ls' := #[.val (.int p1), .val (.ref b1), .val (.int i), .val (.ref (W n)), .val (.int r), .val (.int (1 : Int32))]) (st' := [(.int r)]) (fun _ kz => XS.iload X48.here hx rfl (hb hby at_143) rfl kz) ?_
    refine goS (n := 146) (Ls' := #[.val (.int p1), .val (.ref b1), .val (.int i), .val (.ref (W n)), .val (.int r), .val (.int (1 : Int32))]) (st' := [(.ref (W n)), (.int r)]) (fun _ kz => XS.aloadN X48.here hx rfl (hb hby at_145) rfl rfl kz) ?_
    obtain ⟨cq51, kq51, q51a, q51b, q51c⟩ := isOf hZ e48 ((EX n hn).ext O46.2)
    obtain ⟨_, _, ⟨T51, L51, k51, n51⟩, -, X51, ⟨Lc51, hQ51, l51, y51, z51⟩, st51⟩ := X48.virtualBack hx (y := (⟨"com/example/holler/holler/model/Face", "points", "()I"⟩ : MethodName)) (z := (⟨"com/example/holler/holler/model/Face", "points", "()I"⟩ : MethodName)) hown (mvT hZ (hw _ (List.mem_of_getElem? (i := 42) rfl))) (mvT hZ (hw _ (List.mem_of_getElem? (i := 43) rfl))) (notFace_of_selects (args := #[]) (mvT hZ (hw _ (List.mem_of_getElem? (i := 45) rfl)))) (mvT hZ (hw _ (List.mem_of_getElem? (i := 45) rfl))) (mvT hZ (hw _ (List.mem_of_getElem? (i := 44) rfl))) (by decide) (backOf (W := 1) (rm_pts l Z a0 hw [] (W n) (P n) h46 n0 O46 (PT n hn)) hZ (hw _ (List.mem_of_getElem? (i := 46) rfl)) (hw _ (List.mem_of_getElem? (i := 3) rfl)) (by decide) (by decide)) q51a q51c (g := (mkF m 146 #[.val (.int p1), .val (.ref b1), .val (.int i), .val (.ref (W n)), .val (.int r), .val (.int (1 : Int32))] [(.ref (W n)), (.int r)])) rfl (by rw [hml]; rfl) (Steps.refl _) (argsL := []) (rest := [(.int r)]) (lenOf pd_1 rfl) rfl (by show 2 * 0 + _ ≤ _; exact Nat.le_of_eq rfl) (hb hby at_146) (fun _ _ => ⟨rfl, e48, (Nat.le_of_ble_eq_true rfl), (Nat.le_of_ble_eq_true rfl)⟩)
    dsimp only [Pt.U, Pt.locs, Pt.cells, Pt.slots] at X51 l51 y51 z51 st51 hQ51
    subst l51 y51 z51
    obtain ⟨rfl, N51q, e51⟩ := hQ51
    have N51 := Fr.app N48 N51q
    refine goT (n := 149) (Ls' := #[.val (.int p1), .val (.ref b1), .val (.int i), .val (.ref (W n)), .val (.int r), .val (.int (1 : Int32))]) (st' := [(.int (P n)), (.int r)]) st51 ?_
    refine goS (n := 151) (Ls' := #[.val (.int p1), .val (.ref b1), .val (.int i), .val (.ref (W n)), .val (.int r), .val (.int (1 : Int32))]) (st' := [(.int (50 : Int32)), (.int (P n)), (.int r)]) (fun _ kz => XS.bipush X51.here hx rfl (hb hby at_149) kz) ?_
    refine goS (n := 154) (Ls' := #[.val (.int p1), .val (.ref b1), .val (.int i), .val (.ref (W n)), .val (.int r), .val (.int (1 : Int32))]) (st' := [(.int r)]) (fun _ kz => XS.icmpNo X51.here hx rfl (hb hby at_151) rfl (teq hp).2 kz) ?_
    refine goS (n := 155) (Ls' := #[.val (.int p1), .val (.ref b1), .val (.int i), .val (.ref (W n)), .val (.int r), .val (.int (1 : Int32))]) (st' := [(.int (1 : Int32)), (.int r)]) (fun _ kz => XS.iconst X51.here hx rfl (hb hby at_154) kz) ?_
    refine goS (n := 159) (Ls' := #[.val (.int p1), .val (.ref b1), .val (.int i), .val (.ref (W n)), .val (.int r), .val (.int (1 : Int32))]) (st' := [(.int (1 : Int32)), (.int r)]) (fun _ kz => XS.goto X51.here hx rfl (pc0 := 155) (pc' := 159) rfl (hb hby at_155) (by decide) (by decide) kz) ?_
    refine goS (n := 162) (Ls' := #[.val (.int p1), .val (.ref b1), .val (.int i), .val (.ref (W n)), .val (.int r), .val (.int (1 : Int32))]) (st' := []) (fun _ kz => XS.icmpNo X51.here hx rfl (hb hby at_159) rfl (teq hr0).2 kz) ?_
    refine goS (n := 163) (Ls' := #[.val (.int p1), .val (.ref b1), .val (.int i), .val (.ref (W n)), .val (.int r), .val (.int (1 : Int32))]) (st' := [(.int (1 : Int32))]) (fun _ kz => XS.iconst X51.here hx rfl (hb hby at_162) kz) ?_
    refine goS (n := 167) (Ls' := #[.val (.int p1), .val (.ref b1), .val (.int i), .val (.ref (W n)), .val (.int r), .val (.int (1 : Int32))]) (st' := [(.int (1 : Int32))]) (fun _ kz => XS.goto X51.here hx rfl (pc0 := 163) (pc' := 167) rfl (hb hby at_163) (by decide) (by decide) kz) ?_
    exact goRetZ X51 hx hlk Bd.returns (Or.inr rfl) (hb hby at_167) (by decide) (by decide) (by rw [e51]; exact ⟨rfl, N51⟩)
set_option maxRecDepth 65536 in
set_option maxHeartbeats 40000000 in
theorem comes_1 {Post : Tables → Env → Array Value → State → Outcome → State → Prop} (hpost : ∀ tb e args s v u, (limb_1_1.after args s (.returned v) u = true ∧ limb_1_2.after args s (.returned v) u = true ∧ True) → FrameEnd s (.returned v) u (Jvm.fieldLocs frame_1_writes args s ++ Jvm.arrayLocs frame_1_arrays args s ++ Jvm.staticLocs frame_1_statics s) 16 128 → Post tb e args s (.returned v) u) :
    ArmFor flags0 classFile x code maxLocals ret World_1 tables_1 room_1 Calls_1 rest_1 Pre_1 Post := by
  intro l hfl _ _ p e ha hc hk s m args below hf hA hF happ hP
  obtain ⟨hcalls, hrest, hpre⟩ := hP
  obtain ⟨-, -, -, hnamed, -, -, -, hat⟩ := (Spec.applies_iff hf).mp happ
  obtain ⟨hg, hn⟩ := and_e (Cond.before_iff.mp (show (Jvm.Cond.and given_1 narrow_1).before args s = true from hpre))
  obtain ⟨g1, g2⟩ := and_e hg
  obtain ⟨w0, rfl⟩ : ∃ w0 : Value, args = #[w0] := by
    have hs : args.size = 1 := by simpa [Cond.value, given_1] using g1
    obtain ⟨L⟩ := args
    match L, hs with
    | [w0], _ => exact ⟨w0, rfl⟩
  have hw := fun d (hd : d ∈ tables_1) => atoms_spec (ws := Jvm.Cond.code x code maxLocals ret :: tables_1) hat d (List.mem_cons_of_mem _ hd)
  have hfit : Fit s := fun {y c} hc i hi => by
    obtain ⟨ha, rfl⟩ := Array.getElem?_eq_some_iff.mp hc
    have q := List.all_eq_true.mp ((Array.all_eq_true_iff_forall_mem.mp hF) _ (Array.getElem_mem ha)) i (List.mem_range.mpr hi)
    simpa [Array.getElem?_eq_getElem hi] using q
  obtain ⟨i0, ei0⟩ := is_v g2
  obtain rfl : w0 = (.int i0) := Option.some.inj ei0
  obtain ⟨nr1, nr2⟩ := and_e hn
  obtain ⟨nr3, nr4⟩ := and_e nr2
  obtain ⟨nr5, nr6⟩ := and_e nr4
  obtain ⟨nr7, nr8⟩ := and_e nr6
  obtain ⟨nr9, nr10⟩ := and_e nr8
  obtain ⟨nr11, nr12⟩ := and_e nr10
  obtain ⟨nr13, nr14⟩ := and_e nr12
  obtain ⟨nr15, nr16⟩ := and_e nr14
  obtain ⟨nr17, nr18⟩ := and_e nr16
  obtain ⟨nr19, nr20⟩ := and_e nr18
  obtain ⟨nr21, nr22⟩ := and_e nr20
  obtain ⟨nr23, nr24⟩ := and_e nr22
  obtain ⟨nr25, nr26⟩ := and_e nr24
  obtain ⟨nr27, nr28⟩ := and_e nr26
  obtain ⟨nr29, nr30⟩ := and_e nr28
  obtain ⟨nr31, nr32⟩ := and_e nr30
  obtain ⟨nr33, nr34⟩ := and_e nr32
  obtain ⟨nr35, nr36⟩ := and_e nr34
  obtain ⟨nr37, nr38⟩ := and_e nr36
  obtain ⟨nr39, nr40⟩ := and_e nr38
  obtain ⟨nr41, nr42⟩ := and_e nr40
  obtain ⟨nr43, nr44⟩ := and_e nr42
  obtain ⟨nr45, nr46⟩ := and_e nr44
  obtain ⟨nr47, nr48⟩ := and_e nr46
  obtain ⟨nr49, nr50⟩ := and_e nr48
  obtain ⟨nr51, nr52⟩ := and_e nr50
  obtain ⟨nr53, nr54⟩ := and_e nr52
  obtain ⟨nr55, nr56⟩ := and_e nr54
  obtain ⟨nr57, nr58⟩ := and_e nr56
  obtain ⟨nr59, nr60⟩ := and_e nr58
  obtain ⟨nr61, nr62⟩ := and_e nr60
  obtain ⟨nr63, nr64⟩ := and_e nr62
  obtain ⟨nr65, nr66⟩ := and_e nr64
  obtain ⟨nr67, nr68⟩ := and_e nr66
  obtain ⟨nr69, nr70⟩ := and_e nr68
  obtain ⟨nr71, nr72⟩ := and_e nr70
  obtain ⟨nr73, nr74⟩ := and_e nr72
  obtain ⟨nr75, nr76⟩ := and_e nr74
  obtain ⟨nr77, nr78⟩ := and_e nr76
  obtain ⟨nr79, nr80⟩ := and_e nr78
  obtain ⟨nr81, nr82⟩ := and_e nr80
  obtain ⟨nr83, nr84⟩ := and_e nr82
  obtain ⟨nr85, nr86⟩ := and_e nr84
  obtain ⟨nr87, nr88⟩ := and_e nr86
  obtain ⟨w_ZERO, ev_ZERO⟩ := exa_v nr1
  have EX_ZERO : Exa s s.heap w_ZERO "com/example/holler/holler/model/Face" := Exa.start ev_ZERO nr1
  have ST_ZERO : Sta s s.heap "com/example/holler/holler/model/Face" "ZERO" "Lcom/example/holler/holler/model/Face;" (.ref w_ZERO) := Sta.start ev_ZERO (Or.inr ⟨(hw _ (List.mem_of_getElem? (i := 3) rfl)), (hw _ (List.mem_of_getElem? (i := 4) rfl))⟩)
  obtain ⟨w_ONE, ev_ONE⟩ := exa_v nr3
  have EX_ONE : Exa s s.heap w_ONE "com/example/holler/holler/model/Face" := Exa.start ev_ONE nr3
  have ST_ONE : Sta s s.heap "com/example/holler/holler/model/Face" "ONE" "Lcom/example/holler/holler/model/Face;" (.ref w_ONE) := Sta.start ev_ONE (Or.inr ⟨(hw _ (List.mem_of_getElem? (i := 3) rfl)), (hw _ (List.mem_of_getElem? (i := 7) rfl))⟩)
  obtain ⟨w_TWO, ev_TWO⟩ := exa_v nr5
  have EX_TWO : Exa s s.heap w_TWO "com/example/holler/holler/model/Face" := Exa.start ev_TWO nr5
  have ST_TWO : Sta s s.heap "com/example/holler/holler/model/Face" "TWO" "Lcom/example/holler/holler/model/Face;" (.ref w_TWO) := Sta.start ev_TWO (Or.inr ⟨(hw _ (List.mem_of_getElem? (i := 3) rfl)), (hw _ (List.mem_of_getElem? (i := 9) rfl))⟩)
  obtain ⟨w_THREE, ev_THREE⟩ := exa_v nr7
  have EX_THREE : Exa s s.heap w_THREE "com/example/holler/holler/model/Face" := Exa.start ev_THREE nr7
  have ST_THREE : Sta s s.heap "com/example/holler/holler/model/Face" "THREE" "Lcom/example/holler/holler/model/Face;" (.ref w_THREE) := Sta.start ev_THREE (Or.inr ⟨(hw _ (List.mem_of_getElem? (i := 3) rfl)), (hw _ (List.mem_of_getElem? (i := 11) rfl))⟩)
  obtain ⟨w_FOUR, ev_FOUR⟩ := exa_v nr9
  have EX_FOUR : Exa s s.heap w_FOUR "com/example/holler/holler/model/Face" := Exa.start ev_FOUR nr9
  have ST_FOUR : Sta s s.heap "com/example/holler/holler/model/Face" "FOUR" "Lcom/example/holler/holler/model/Face;" (.ref w_FOUR) := Sta.start ev_FOUR (Or.inr ⟨(hw _ (List.mem_of_getElem? (i := 3) rfl)), (hw _ (List.mem_of_getElem? (i := 13) rfl))⟩)
  obtain ⟨w_FIVE, ev_FIVE⟩ := exa_v nr11
  have EX_FIVE : Exa s s.heap w_FIVE "com/example/holler/holler/model/Face" := Exa.start ev_FIVE nr11
  have ST_FIVE : Sta s s.heap "com/example/holler/holler/model/Face" "FIVE" "Lcom/example/holler/holler/model/Face;" (.ref w_FIVE) := Sta.start ev_FIVE (Or.inr ⟨(hw _ (List.mem_of_getElem? (i := 3) rfl)), (hw _ (List.mem_of_getElem? (i := 15) rfl))⟩)
  obtain ⟨w_SIX, ev_SIX⟩ := exa_v nr13
  have EX_SIX : Exa s s.heap w_SIX "com/example/holler/holler/model/Face" := Exa.start ev_SIX nr13
  have ST_SIX : Sta s s.heap "com/example/holler/holler/model/Face" "SIX" "Lcom/example/holler/holler/model/Face;" (.ref w_SIX) := Sta.start ev_SIX (Or.inr ⟨(hw _ (List.mem_of_getElem? (i := 3) rfl)), (hw _ (List.mem_of_getElem? (i := 17) rfl))⟩)
  obtain ⟨w_SEVEN, ev_SEVEN⟩ := exa_v nr15
  have EX_SEVEN : Exa s s.heap w_SEVEN "com/example/holler/holler/model/Face" := Exa.start ev_SEVEN nr15
  have ST_SEVEN : Sta s s.heap "com/example/holler/holler/model/Face" "SEVEN" "Lcom/example/holler/holler/model/Face;" (.ref w_SEVEN) := Sta.start ev_SEVEN (Or.inr ⟨(hw _ (List.mem_of_getElem? (i := 3) rfl)), (hw _ (List.mem_of_getElem? (i := 19) rfl))⟩)
  obtain ⟨w_EIGHT, ev_EIGHT⟩ := exa_v nr17
  have EX_EIGHT : Exa s s.heap w_EIGHT "com/example/holler/holler/model/Face" := Exa.start ev_EIGHT nr17
  have ST_EIGHT : Sta s s.heap "com/example/holler/holler/model/Face" "EIGHT" "Lcom/example/holler/holler/model/Face;" (.ref w_EIGHT) := Sta.start ev_EIGHT (Or.inr ⟨(hw _ (List.mem_of_getElem? (i := 3) rfl)), (hw _ (List.mem_of_getElem? (i := 21) rfl))⟩)
  obtain ⟨w_NINE, ev_NINE⟩ := exa_v nr19
  have EX_NINE : Exa s s.heap w_NINE "com/example/holler/holler/model/Face" := Exa.start ev_NINE nr19
  have ST_NINE : Sta s s.heap "com/example/holler/holler/model/Face" "NINE" "Lcom/example/holler/holler/model/Face;" (.ref w_NINE) := Sta.start ev_NINE (Or.inr ⟨(hw _ (List.mem_of_getElem? (i := 3) rfl)), (hw _ (List.mem_of_getElem? (i := 23) rfl))⟩)
  obtain ⟨w_SKIP, ev_SKIP⟩ := exa_v nr21
  have EX_SKIP : Exa s s.heap w_SKIP "com/example/holler/holler/model/Face" := Exa.start ev_SKIP nr21
  have ST_SKIP : Sta s s.heap "com/example/holler/holler/model/Face" "SKIP" "Lcom/example/holler/holler/model/Face;" (.ref w_SKIP) := Sta.start ev_SKIP (Or.inr ⟨(hw _ (List.mem_of_getElem? (i := 3) rfl)), (hw _ (List.mem_of_getElem? (i := 25) rfl))⟩)
  obtain ⟨w_REVERSE, ev_REVERSE⟩ := exa_v nr23
  have EX_REVERSE : Exa s s.heap w_REVERSE "com/example/holler/holler/model/Face" := Exa.start ev_REVERSE nr23
  have ST_REVERSE : Sta s s.heap "com/example/holler/holler/model/Face" "REVERSE" "Lcom/example/holler/holler/model/Face;" (.ref w_REVERSE) := Sta.start ev_REVERSE (Or.inr ⟨(hw _ (List.mem_of_getElem? (i := 3) rfl)), (hw _ (List.mem_of_getElem? (i := 27) rfl))⟩)
  obtain ⟨w_DRAW_TWO, ev_DRAW_TWO⟩ := exa_v nr25
  have EX_DRAW_TWO : Exa s s.heap w_DRAW_TWO "com/example/holler/holler/model/Face" := Exa.start ev_DRAW_TWO nr25
  have ST_DRAW_TWO : Sta s s.heap "com/example/holler/holler/model/Face" "DRAW_TWO" "Lcom/example/holler/holler/model/Face;" (.ref w_DRAW_TWO) := Sta.start ev_DRAW_TWO (Or.inr ⟨(hw _ (List.mem_of_getElem? (i := 3) rfl)), (hw _ (List.mem_of_getElem? (i := 29) rfl))⟩)
  obtain ⟨w_WILD, ev_WILD⟩ := exa_v nr27
  have EX_WILD : Exa s s.heap w_WILD "com/example/holler/holler/model/Face" := Exa.start ev_WILD nr27
  have ST_WILD : Sta s s.heap "com/example/holler/holler/model/Face" "WILD" "Lcom/example/holler/holler/model/Face;" (.ref w_WILD) := Sta.start ev_WILD (Or.inr ⟨(hw _ (List.mem_of_getElem? (i := 3) rfl)), (hw _ (List.mem_of_getElem? (i := 31) rfl))⟩)
  obtain ⟨w_WILD_DRAW_FOUR, ev_WILD_DRAW_FOUR⟩ := exa_v nr29
  have EX_WILD_DRAW_FOUR : Exa s s.heap w_WILD_DRAW_FOUR "com/example/holler/holler/model/Face" := Exa.start ev_WILD_DRAW_FOUR nr29
  have ST_WILD_DRAW_FOUR : Sta s s.heap "com/example/holler/holler/model/Face" "WILD_DRAW_FOUR" "Lcom/example/holler/holler/model/Face;" (.ref w_WILD_DRAW_FOUR) := Sta.start ev_WILD_DRAW_FOUR (Or.inr ⟨(hw _ (List.mem_of_getElem? (i := 3) rfl)), (hw _ (List.mem_of_getElem? (i := 33) rfl))⟩)
  have FL_ZERO_ordinal : Fld s s.heap w_ZERO "java/lang/Enum" "ordinal" "I" (.int (0 : Int32)) := fldStart ev_ZERO nr31
  have FL_WILD_ordinal : Fld s s.heap w_WILD "java/lang/Enum" "ordinal" "I" (.int (13 : Int32)) := fldStart ev_WILD nr33
  have FL_WILD_DRAW_FOUR_ordinal : Fld s s.heap w_WILD_DRAW_FOUR "java/lang/Enum" "ordinal" "I" (.int (14 : Int32)) := fldStart ev_WILD_DRAW_FOUR nr35
  have FL_ZERO_points : Fld s s.heap w_ZERO "com/example/holler/holler/model/Face" "points" "I" (.int (0 : Int32)) := fldStart ev_ZERO nr37
  have FL_THREE_ordinal : Fld s s.heap w_THREE "java/lang/Enum" "ordinal" "I" (.int (3 : Int32)) := fldStart ev_THREE nr39
  have FL_THREE_points : Fld s s.heap w_THREE "com/example/holler/holler/model/Face" "points" "I" (.int (3 : Int32)) := fldStart ev_THREE nr41
  have FL_FIVE_ordinal : Fld s s.heap w_FIVE "java/lang/Enum" "ordinal" "I" (.int (5 : Int32)) := fldStart ev_FIVE nr43
  have FL_FIVE_points : Fld s s.heap w_FIVE "com/example/holler/holler/model/Face" "points" "I" (.int (5 : Int32)) := fldStart ev_FIVE nr45
  have FL_WILD_points : Fld s s.heap w_WILD "com/example/holler/holler/model/Face" "points" "I" (.int (50 : Int32)) := fldStart ev_WILD nr47
  have FL_SIX_ordinal : Fld s s.heap w_SIX "java/lang/Enum" "ordinal" "I" (.int (6 : Int32)) := fldStart ev_SIX nr49
  have FL_SIX_points : Fld s s.heap w_SIX "com/example/holler/holler/model/Face" "points" "I" (.int (6 : Int32)) := fldStart ev_SIX nr51
  have FL_WILD_DRAW_FOUR_points : Fld s s.heap w_WILD_DRAW_FOUR "com/example/holler/holler/model/Face" "points" "I" (.int (50 : Int32)) := fldStart ev_WILD_DRAW_FOUR nr53
  have FL_SEVEN_ordinal : Fld s s.heap w_SEVEN "java/lang/Enum" "ordinal" "I" (.int (7 : Int32)) := fldStart ev_SEVEN nr55
  have FL_SEVEN_points : Fld s s.heap w_SEVEN "com/example/holler/holler/model/Face" "points" "I" (.int (7 : Int32)) := fldStart ev_SEVEN nr57
  have FL_TWO_ordinal : Fld s s.heap w_TWO "java/lang/Enum" "ordinal" "I" (.int (2 : Int32)) := fldStart ev_TWO nr59
  have FL_TWO_points : Fld s s.heap w_TWO "com/example/holler/holler/model/Face" "points" "I" (.int (2 : Int32)) := fldStart ev_TWO nr61
  have FL_REVERSE_ordinal : Fld s s.heap w_REVERSE "java/lang/Enum" "ordinal" "I" (.int (11 : Int32)) := fldStart ev_REVERSE nr63
  have FL_REVERSE_points : Fld s s.heap w_REVERSE "com/example/holler/holler/model/Face" "points" "I" (.int (20 : Int32)) := fldStart ev_REVERSE nr65
  have FL_SKIP_ordinal : Fld s s.heap w_SKIP "java/lang/Enum" "ordinal" "I" (.int (10 : Int32)) := fldStart ev_SKIP nr67
  have FL_SKIP_points : Fld s s.heap w_SKIP "com/example/holler/holler/model/Face" "points" "I" (.int (20 : Int32)) := fldStart ev_SKIP nr69
  have FL_EIGHT_ordinal : Fld s s.heap w_EIGHT "java/lang/Enum" "ordinal" "I" (.int (8 : Int32)) := fldStart ev_EIGHT nr71
  have FL_EIGHT_points : Fld s s.heap w_EIGHT "com/example/holler/holler/model/Face" "points" "I" (.int (8 : Int32)) := fldStart ev_EIGHT nr73
  have FL_ONE_ordinal : Fld s s.heap w_ONE "java/lang/Enum" "ordinal" "I" (.int (1 : Int32)) := fldStart ev_ONE nr75
  have FL_ONE_points : Fld s s.heap w_ONE "com/example/holler/holler/model/Face" "points" "I" (.int (1 : Int32)) := fldStart ev_ONE nr77
  have FL_DRAW_TWO_ordinal : Fld s s.heap w_DRAW_TWO "java/lang/Enum" "ordinal" "I" (.int (12 : Int32)) := fldStart ev_DRAW_TWO nr79
  have FL_DRAW_TWO_points : Fld s s.heap w_DRAW_TWO "com/example/holler/holler/model/Face" "points" "I" (.int (20 : Int32)) := fldStart ev_DRAW_TWO nr81
  have FL_FOUR_ordinal : Fld s s.heap w_FOUR "java/lang/Enum" "ordinal" "I" (.int (4 : Int32)) := fldStart ev_FOUR nr83
  have FL_FOUR_points : Fld s s.heap w_FOUR "com/example/holler/holler/model/Face" "points" "I" (.int (4 : Int32)) := fldStart ev_FOUR nr85
  have FL_NINE_ordinal : Fld s s.heap w_NINE "java/lang/Enum" "ordinal" "I" (.int (9 : Int32)) := fldStart ev_NINE nr87
  have FL_NINE_points : Fld s s.heap w_NINE "com/example/holler/holler/model/Face" "points" "I" (.int (9 : Int32)) := fldStart ev_NINE nr88
  let W : Nat → Addr := fun n => [w_ZERO, w_ONE, w_TWO, w_THREE, w_FOUR, w_FIVE, w_SIX, w_SEVEN, w_EIGHT, w_NINE, w_SKIP, w_REVERSE, w_DRAW_TWO, w_WILD, w_WILD_DRAW_FOUR].getD n 0
  let P : Nat → Int32 := fun n => ([0, 1, 2, 3, 4, 5, 6, 7, 8, 9, 20, 20, 20, 50, 50] : List Int32).getD n 0
  have EX : ∀ n, n < 15 → Exa s s.heap (W n) "com/example/holler/holler/model/Face" := by
    intro n hn
    rcases n with _ | n; · exact EX_ZERO
    rcases n with _ | n; · exact EX_ONE
    rcases n with _ | n; · exact EX_TWO
    rcases n with _ | n; · exact EX_THREE
    rcases n with _ | n; · exact EX_FOUR
    rcases n with _ | n; · exact EX_FIVE
    rcases n with _ | n; · exact EX_SIX
    rcases n with _ | n; · exact EX_SEVEN
    rcases n with _ | n; · exact EX_EIGHT
    rcases n with _ | n; · exact EX_NINE
    rcases n with _ | n; · exact EX_SKIP
    rcases n with _ | n; · exact EX_REVERSE
    rcases n with _ | n; · exact EX_DRAW_TWO
    rcases n with _ | n; · exact EX_WILD
    rcases n with _ | n; · exact EX_WILD_DRAW_FOUR
    omega
  have PT : ∀ n, n < 15 → Fld s s.heap (W n) "com/example/holler/holler/model/Face" "points" "I" (.int (P n)) := by
    intro n hn
    rcases n with _ | n; · exact FL_ZERO_points
    rcases n with _ | n; · exact FL_ONE_points
    rcases n with _ | n; · exact FL_TWO_points
    rcases n with _ | n; · exact FL_THREE_points
    rcases n with _ | n; · exact FL_FOUR_points
    rcases n with _ | n; · exact FL_FIVE_points
    rcases n with _ | n; · exact FL_SIX_points
    rcases n with _ | n; · exact FL_SEVEN_points
    rcases n with _ | n; · exact FL_EIGHT_points
    rcases n with _ | n; · exact FL_NINE_points
    rcases n with _ | n; · exact FL_SKIP_points
    rcases n with _ | n; · exact FL_REVERSE_points
    rcases n with _ | n; · exact FL_DRAW_TWO_points
    rcases n with _ | n; · exact FL_WILD_points
    rcases n with _ | n; · exact FL_WILD_DRAW_FOUR_points
    omega
  have OR : ∀ n, n < 15 → Fld s s.heap (W n) "java/lang/Enum" "ordinal" "I" (.int (Int32.ofNat n)) := by
    intro n hn
    rcases n with _ | n; · exact FL_ZERO_ordinal
    rcases n with _ | n; · exact FL_ONE_ordinal
    rcases n with _ | n; · exact FL_TWO_ordinal
    rcases n with _ | n; · exact FL_THREE_ordinal
    rcases n with _ | n; · exact FL_FOUR_ordinal
    rcases n with _ | n; · exact FL_FIVE_ordinal
    rcases n with _ | n; · exact FL_SIX_ordinal
    rcases n with _ | n; · exact FL_SEVEN_ordinal
    rcases n with _ | n; · exact FL_EIGHT_ordinal
    rcases n with _ | n; · exact FL_NINE_ordinal
    rcases n with _ | n; · exact FL_SKIP_ordinal
    rcases n with _ | n; · exact FL_REVERSE_ordinal
    rcases n with _ | n; · exact FL_DRAW_TWO_ordinal
    rcases n with _ | n; · exact FL_WILD_ordinal
    rcases n with _ | n; · exact FL_WILD_DRAW_FOUR_ordinal
    omega
  have INJ : ∀ i j, i < 15 → j < 15 → W i = W j → i = j := by
    intro i j hi hj q
    refine Decidable.byContradiction fun hne => Fld.ne (OR i hi) (OR j hj) (fun z => ?_) q
    have z1 : (Int32.ofNat i).toInt = (Int32.ofNat j).toInt := by rw [Value.int.inj z]
    rw [Int32.toInt_ofNat_small (by omega), Int32.toInt_ofNat_small (by omega)] at z1
    omega
  have P50 : ∀ n, n < 15 → (P n = (50 : Int32) ↔ 13 ≤ n) := by decide
  obtain ⟨n, o, h1, h2, h3, _, L, rfl, ⟨rfl, N⟩, hq⟩ := rm_law l s _ hw tables_1 i0 W P s.heap s.heap.size (Old.start s) ST_ZERO ST_ONE ST_TWO ST_THREE ST_FOUR ST_FIVE ST_SIX ST_SEVEN ST_EIGHT ST_NINE ST_SKIP ST_REVERSE ST_DRAW_TWO ST_WILD ST_WILD_DRAW_FOUR EX PT INJ P50 p e ha hc hk s m _ below hf ((Spec.applies_iff_loose hf).mp happ).1 ⟨rfl, State.Warmed39.refl s, rfl⟩ trivial
  refine ⟨n, _, h1, h2, h3, hpost _ _ _ _ _ _ ⟨Cond.after_iff.mpr rfl, Cond.after_iff.mpr (eq_i res_at (Term.int_eval (1)) rfl), trivial⟩ ⟨hq.1, hq.2.1, (hq.2.2.sift fun y hy => Or.inr (N y hy)).mono (by decide) (by decide)⟩⟩
theorem main_1_1 : Claimed_1_1 := comes_1 fun _ _ _ _ _ _ h hF => ⟨h.1, hF⟩
theorem main_1_2 : Claimed_1_2 := comes_1 fun _ _ _ _ _ _ h hF => ⟨h.2.1, hF⟩
end Jvm.Pilot.@@N@@
namespace Jvm.Pilot.@@N@@
open Jvm Jvm.ClassFile Sem Op Lib Jvm.Free Jvm.Stand Jvm.Pilot.@@N@@.Jvm.D
/-! MADE BY PROGRAM (witnessworld.py) out of the Statement's table words and the real class files: 13 classes; the members and pool entries that the words name. The judged class is class 1, her method 1. -/
namespace start1
open Jvm.ClassFile
def u (s : String) : CpInfo := .utf8 (stringToUtf16 s)
/-- a pool by its gaps: so many unusable entries, then the entry; so many at the end -/
def gap : Nat → List CpInfo → List CpInfo
  | 0, r => r
  | n + 1, r => .unusable :: gap n r
def poolList (es : List (Nat × CpInfo)) (last : Nat) : List CpInfo := es.foldr (fun e r => gap e.1 (e.2 :: r)) (gap last [])
def pool (es : List (Nat × CpInfo)) (last : Nat) : Array CpInfo := ⟨poolList es last⟩
def fileOf (pool : Array CpInfo) (this : Nat) (attrs : Array Attribute := #[]) (ms : Array MethodInfo := #[]) (fl : Nat := 33) (sup : Nat := 0) (ifs : Array Nat := #[]) (fds : Array FieldInfo := #[]) : ClassFile where
  minorVersion := 0
  majorVersion := 65
  constantPool := pool
  accessFlags := fl
  thisClass := this
  superClass := sup
  interfaces := ifs
  fields := fds
  methods := ms
  attributes := attrs
def plain (name : String) (sup : Option ClassId) : Class where
  name := name
  kind := .ordinary
  loader := none
  accessFlags := 33
  super := sup
  interfaces := #[]
  cf := none
  fields := #[]
  methods := #[]
  instanceTypes := #[]
  staticTypes := #[]
  resolved := #[]
  callSites := []
  init := .initialized
  statics := none
  mirror := none

def pool0 : Array CpInfo := pool [(5, u "<init>"), (0, u "()V"), (1, .class_ 10), (1, u "java/lang/Object")] 113

def k0m0 : Method := { name := "<init>", desc := "()V", sig := { parameters := [], returnType := none }, accessFlags := 1, code := none }
/-- java/lang/Object -/
def k0 : Class := { plain "java/lang/Object" none with
  accessFlags := 33
  interfaces := #[]
  cf := some (fileOf pool0 8 #[] #[{ accessFlags := 1, nameIndex := 5, descriptorIndex := 6, attributes := #[] }] 33 0 #[] #[])
  fields := #[]
  methods := #[k0m0]
  instanceTypes := #[]
  staticTypes := #[]
  resolved := Array.replicate 124 none
  statics := none }

def pool1 : Array CpInfo := pool [(2, .class_ 4), (1, u "java/lang/Object"), (0, u "<init>"), (0, u "()V"), (0, .class_ 8), (0, u "com/example/holler/holler/model/Face"), (0, .fieldref 7 10), (0, .nameAndType 11 12), (0, u "ZERO"), (0, u "Lcom/example/holler/holler/model/Face;"), (0, .fieldref 7 14), (0, .nameAndType 15 12), (0, u "ONE"), (0, .fieldref 7 17), (0, .nameAndType 18 12), (0, u "TWO"), (0, .fieldref 7 20), (0, .nameAndType 21 12), (0, u "THREE"), (0, .fieldref 7 23), (0, .nameAndType 24 12), (0, u "FOUR"), (0, .fieldref 7 26), (0, .nameAndType 27 12), (0, u "FIVE"), (0, .fieldref 7 29), (0, .nameAndType 30 12), (0, u "SIX"), (0, .fieldref 7 32), (0, .nameAndType 33 12), (0, u "SEVEN"), (0, .fieldref 7 35), (0, .nameAndType 36 12), (0, u "EIGHT"), (0, .fieldref 7 38), (0, .nameAndType 39 12), (0, u "NINE"), (0, .fieldref 7 41), (0, .nameAndType 42 12), (0, u "SKIP"), (0, .fieldref 7 44), (0, .nameAndType 45 12), (0, u "REVERSE"), (0, .fieldref 7 47), (0, .nameAndType 48 12), (0, u "DRAW_TWO"), (0, .fieldref 7 50), (0, .nameAndType 51 12), (0, u "WILD"), (0, .fieldref 7 53), (0, .nameAndType 54 12), (0, u "WILD_DRAW_FOUR"), (0, .integer 2147483647), (0, .methodref 7 57), (0, .nameAndType 58 59), (0, u "isWild"), (0, u "()Z"), (0, .methodref 7 61), (0, .nameAndType 62 63), (0, u "points"), (0, u "()I"), (0, .class_ 65), (0, u "com/example/holler/holler/model/FaceIsWildPinLaw"), (2, u "law"), (0, u "(I)Z")] 5

def k1m0 : Method := { name := "<init>", desc := "()V", sig := { parameters := [], returnType := none }, accessFlags := 1, code := none }
def k1c1 : Code := { maxStack := 4, maxLocals := 6, code := code, exceptionTable := #[], attributes := #[] }
def k1m1 : Method := { name := "law", desc := "(I)Z", sig := { parameters := [.int], returnType := some .boolean }, accessFlags := 9, code := some k1c1 }
/-- com/example/holler/holler/model/FaceIsWildPinLaw -/
def k1 : Class := { plain "com/example/holler/holler/model/FaceIsWildPinLaw" (some 0) with
  accessFlags := 49
  interfaces := #[]
  cf := some (fileOf pool1 64 #[] #[{ accessFlags := 1, nameIndex := 5, descriptorIndex := 6, attributes := #[] }, { accessFlags := 9, nameIndex := 68, descriptorIndex := 69, attributes := #[] }] 49 2 #[] #[])
  fields := #[]
  methods := #[k1m0, k1m1]
  instanceTypes := #[]
  staticTypes := #[]
  resolved := Array.replicate 75 none
  statics := none }

def pool2 : Array CpInfo := pool [(1, .class_ 2), (0, u "java/lang/constant/Constable"), (0, .class_ 4), (0, u "java/lang/Object")] 6

/-- java/lang/constant/Constable -/
def k2 : Class := { plain "java/lang/constant/Constable" (some 0) with
  accessFlags := 1537
  interfaces := #[]
  cf := some (fileOf pool2 1 #[] #[] 1537 3 #[] #[])
  fields := #[]
  methods := #[]
  instanceTypes := #[]
  staticTypes := #[]
  resolved := Array.replicate 11 none
  statics := none }

def pool3 : Array CpInfo := pool [(1, .class_ 2), (0, u "java/lang/Comparable"), (0, .class_ 4), (0, u "java/lang/Object")] 7

/-- java/lang/Comparable -/
def k3 : Class := { plain "java/lang/Comparable" (some 0) with
  accessFlags := 1537
  interfaces := #[]
  cf := some (fileOf pool3 1 #[] #[] 1537 3 #[] #[])
  fields := #[]
  methods := #[]
  instanceTypes := #[]
  staticTypes := #[]
  resolved := Array.replicate 12 none
  statics := none }

def pool4 : Array CpInfo := pool [(1, .class_ 2), (0, u "java/io/Serializable"), (0, .class_ 4), (0, u "java/lang/Object")] 2

/-- java/io/Serializable -/
def k4 : Class := { plain "java/io/Serializable" (some 0) with
  accessFlags := 1537
  interfaces := #[]
  cf := some (fileOf pool4 1 #[] #[] 1537 3 #[] #[])
  fields := #[]
  methods := #[]
  instanceTypes := #[]
  staticTypes := #[]
  resolved := Array.replicate 7 none
  statics := none }

def pool5 : Array CpInfo := pool [(2, .class_ 4), (1, u "java/lang/Enum"), (0, u "name"), (0, u "Ljava/lang/String;"), (2, u "ordinal"), (0, u "I"), (1, .class_ 14), (1, u "java/lang/Object"), (4, u "hash"), (86, .class_ 108), (1, u "java/lang/Enum$EnumDesc"), (2, .class_ 112), (0, u "java/lang/constant/Constable"), (0, .class_ 114), (0, u "java/lang/Comparable"), (0, .class_ 116), (0, u "java/io/Serializable")] 87

/-- java/lang/Enum -/
def k5 : Class := { plain "java/lang/Enum" (some 0) with
  accessFlags := 1057
  interfaces := #[2, 3, 4]
  cf := some (fileOf pool5 2 #[.nestMembers #[106]] #[] 1057 12 #[111, 113, 115] #[{ accessFlags := 18, nameIndex := 5, descriptorIndex := 6, attributes := #[] }, { accessFlags := 18, nameIndex := 9, descriptorIndex := 10, attributes := #[] }, { accessFlags := 2, nameIndex := 19, descriptorIndex := 10, attributes := #[] }])
  fields := #[{ name := "name", type := (.object "java/lang/String"), accessFlags := 18, slot := 0, constantValue := 0 }, { name := "ordinal", type := .int, accessFlags := 18, slot := 1, constantValue := 0 }, { name := "hash", type := .int, accessFlags := 2, slot := 2, constantValue := 0 }]
  methods := #[]
  instanceTypes := #[(.object "java/lang/String"), .int, .int]
  staticTypes := #[]
  resolved := Array.replicate 204 none
  statics := none }

def pool6 : Array CpInfo := pool [(1, .class_ 2), (0, u "com/example/holler/holler/model/Face"), (2, u "ZERO"), (0, u "Lcom/example/holler/holler/model/Face;"), (2, u "ONE"), (2, u "TWO"), (2, u "THREE"), (2, u "FOUR"), (2, u "FIVE"), (2, u "SIX"), (2, u "SEVEN"), (2, u "EIGHT"), (2, u "NINE"), (2, u "SKIP"), (2, u "REVERSE"), (2, u "DRAW_TWO"), (0, .fieldref 1 44), (0, .nameAndType 45 6), (0, u "WILD"), (0, .fieldref 1 47), (0, .nameAndType 48 6), (0, u "WILD_DRAW_FOUR"), (2, u "$VALUES"), (0, u "[Lcom/example/holler/holler/model/Face;"), (6, .class_ 61), (1, u "java/lang/Enum"), (6, .fieldref 1 69), (0, .nameAndType 70 71), (0, u "points"), (0, u "I"), (33, u "()I"), (1, u "()Z"), (1, u "isWild")] 5

def k6c0 : Code := { maxStack := 1, maxLocals := 1, code := prog_36_method_4_code, exceptionTable := #[], attributes := #[] }
def k6m0 : Method := { name := "points", desc := "()I", sig := { parameters := [], returnType := some .int }, accessFlags := 1, code := some k6c0 }
def k6c1 : Code := { maxStack := 2, maxLocals := 1, code := prog_36_method_6_code, exceptionTable := #[], attributes := #[] }
def k6m1 : Method := { name := "isWild", desc := "()Z", sig := { parameters := [], returnType := some .boolean }, accessFlags := 1, code := some k6c1 }
/-- com/example/holler/holler/model/Face -/
def k6 : Class := { plain "com/example/holler/holler/model/Face" (some 5) with
  accessFlags := 16433
  interfaces := #[]
  cf := some (fileOf pool6 1 #[] #[{ accessFlags := 1, nameIndex := 70, descriptorIndex := 105, attributes := #[] }, { accessFlags := 1, nameIndex := 109, descriptorIndex := 107, attributes := #[] }] 16433 59 #[] #[{ accessFlags := 16409, nameIndex := 5, descriptorIndex := 6, attributes := #[] }, { accessFlags := 16409, nameIndex := 9, descriptorIndex := 6, attributes := #[] }, { accessFlags := 16409, nameIndex := 12, descriptorIndex := 6, attributes := #[] }, { accessFlags := 16409, nameIndex := 15, descriptorIndex := 6, attributes := #[] }, { accessFlags := 16409, nameIndex := 18, descriptorIndex := 6, attributes := #[] }, { accessFlags := 16409, nameIndex := 21, descriptorIndex := 6, attributes := #[] }, { accessFlags := 16409, nameIndex := 24, descriptorIndex := 6, attributes := #[] }, { accessFlags := 16409, nameIndex := 27, descriptorIndex := 6, attributes := #[] }, { accessFlags := 16409, nameIndex := 30, descriptorIndex := 6, attributes := #[] }, { accessFlags := 16409, nameIndex := 33, descriptorIndex := 6, attributes := #[] }, { accessFlags := 16409, nameIndex := 36, descriptorIndex := 6, attributes := #[] }, { accessFlags := 16409, nameIndex := 39, descriptorIndex := 6, attributes := #[] }, { accessFlags := 16409, nameIndex := 42, descriptorIndex := 6, attributes := #[] }, { accessFlags := 16409, nameIndex := 45, descriptorIndex := 6, attributes := #[] }, { accessFlags := 16409, nameIndex := 48, descriptorIndex := 6, attributes := #[] }, { accessFlags := 18, nameIndex := 70, descriptorIndex := 71, attributes := #[] }, { accessFlags := 4122, nameIndex := 51, descriptorIndex := 52, attributes := #[] }])
  fields := #[{ name := "ZERO", type := (.object "com/example/holler/holler/model/Face"), accessFlags := 16409, slot := 0, constantValue := 0 }, { name := "ONE", type := (.object "com/example/holler/holler/model/Face"), accessFlags := 16409, slot := 1, constantValue := 0 }, { name := "TWO", type := (.object "com/example/holler/holler/model/Face"), accessFlags := 16409, slot := 2, constantValue := 0 }, { name := "THREE", type := (.object "com/example/holler/holler/model/Face"), accessFlags := 16409, slot := 3, constantValue := 0 }, { name := "FOUR", type := (.object "com/example/holler/holler/model/Face"), accessFlags := 16409, slot := 4, constantValue := 0 }, { name := "FIVE", type := (.object "com/example/holler/holler/model/Face"), accessFlags := 16409, slot := 5, constantValue := 0 }, { name := "SIX", type := (.object "com/example/holler/holler/model/Face"), accessFlags := 16409, slot := 6, constantValue := 0 }, { name := "SEVEN", type := (.object "com/example/holler/holler/model/Face"), accessFlags := 16409, slot := 7, constantValue := 0 }, { name := "EIGHT", type := (.object "com/example/holler/holler/model/Face"), accessFlags := 16409, slot := 8, constantValue := 0 }, { name := "NINE", type := (.object "com/example/holler/holler/model/Face"), accessFlags := 16409, slot := 9, constantValue := 0 }, { name := "SKIP", type := (.object "com/example/holler/holler/model/Face"), accessFlags := 16409, slot := 10, constantValue := 0 }, { name := "REVERSE", type := (.object "com/example/holler/holler/model/Face"), accessFlags := 16409, slot := 11, constantValue := 0 }, { name := "DRAW_TWO", type := (.object "com/example/holler/holler/model/Face"), accessFlags := 16409, slot := 12, constantValue := 0 }, { name := "WILD", type := (.object "com/example/holler/holler/model/Face"), accessFlags := 16409, slot := 13, constantValue := 0 }, { name := "WILD_DRAW_FOUR", type := (.object "com/example/holler/holler/model/Face"), accessFlags := 16409, slot := 14, constantValue := 0 }, { name := "points", type := .int, accessFlags := 18, slot := 3, constantValue := 0 }, { name := "$VALUES", type := (.array (.object "com/example/holler/holler/model/Face")), accessFlags := 4122, slot := 15, constantValue := 0 }]
  methods := #[k6m0, k6m1]
  instanceTypes := #[(.object "java/lang/String"), .int, .int, .int]
  staticTypes := #[(.object "com/example/holler/holler/model/Face"), (.object "com/example/holler/holler/model/Face"), (.object "com/example/holler/holler/model/Face"), (.object "com/example/holler/holler/model/Face"), (.object "com/example/holler/holler/model/Face"), (.object "com/example/holler/holler/model/Face"), (.object "com/example/holler/holler/model/Face"), (.object "com/example/holler/holler/model/Face"), (.object "com/example/holler/holler/model/Face"), (.object "com/example/holler/holler/model/Face"), (.object "com/example/holler/holler/model/Face"), (.object "com/example/holler/holler/model/Face"), (.object "com/example/holler/holler/model/Face"), (.object "com/example/holler/holler/model/Face"), (.object "com/example/holler/holler/model/Face"), (.array (.object "com/example/holler/holler/model/Face"))]
  resolved := Array.replicate 115 none
  statics := some 0 }

def pool7 : Array CpInfo := pool [(1, u "java/lang/Cloneable"), (0, .class_ 1), (0, u "java/lang/Object"), (0, .class_ 3)] 3

/-- java/lang/Cloneable -/
def k7 : Class := { plain "java/lang/Cloneable" (some 0) with
  accessFlags := 1537
  interfaces := #[]
  cf := some (fileOf pool7 2 #[] #[] 1537 4 #[] #[])
  fields := #[]
  methods := #[]
  instanceTypes := #[]
  staticTypes := #[]
  resolved := Array.replicate 8 none
  statics := none }

/-- the primitive byte -/
def k8 : Class := { plain "byte" none with kind := .primitive 'B', accessFlags := 0x411 }
/-- [B -/
def k9 : Class := { plain "[B" (some 0) with kind := .array 8 .byte, interfaces := #[7, 4], accessFlags := 1041 }

/-- the primitive int -/
def k10 : Class := { plain "int" none with kind := .primitive 'I', accessFlags := 0x411 }
/-- [I -/
def k11 : Class := { plain "[I" (some 0) with kind := .array 10 .int, interfaces := #[7, 4], accessFlags := 1041 }

/-- [Lcom/example/holler/holler/model/Face; -/
def k12 : Class := { plain "[Lcom/example/holler/holler/model/Face;" (some 0) with kind := .array 6 (.object "com/example/holler/holler/model/Face"), interfaces := #[7, 4], accessFlags := 1041 }

def heap : Heap := #[{ cls := 6, slots := #[.ref 1, .ref 2, .ref 3, .ref 4, .ref 5, .ref 6, .ref 7, .ref 8, .ref 9, .ref 10, .ref 11, .ref 12, .ref 13, .ref 14, .ref 15, .null], vm := .statics 6 },
  { cls := 6, slots := #[.null, .int 0, .int 0, .int 0], vm := .none },
  { cls := 6, slots := #[.null, .int 1, .int 0, .int 1], vm := .none },
  { cls := 6, slots := #[.null, .int 2, .int 0, .int 2], vm := .none },
  { cls := 6, slots := #[.null, .int 3, .int 0, .int 3], vm := .none },
  { cls := 6, slots := #[.null, .int 4, .int 0, .int 4], vm := .none },
  { cls := 6, slots := #[.null, .int 5, .int 0, .int 5], vm := .none },
  { cls := 6, slots := #[.null, .int 6, .int 0, .int 6], vm := .none },
  { cls := 6, slots := #[.null, .int 7, .int 0, .int 7], vm := .none },
  { cls := 6, slots := #[.null, .int 8, .int 0, .int 8], vm := .none },
  { cls := 6, slots := #[.null, .int 9, .int 0, .int 9], vm := .none },
  { cls := 6, slots := #[.null, .int 10, .int 0, .int 20], vm := .none },
  { cls := 6, slots := #[.null, .int 11, .int 0, .int 20], vm := .none },
  { cls := 6, slots := #[.null, .int 12, .int 0, .int 20], vm := .none },
  { cls := 6, slots := #[.null, .int 13, .int 0, .int 50], vm := .none },
  { cls := 6, slots := #[.null, .int 14, .int 0, .int 50], vm := .none }]
def classes : Array Class := #[k0, k1, k2, k3, k4, k5, k6, k7, k8, k9, k10, k11, k12]
def interned : List (Array UInt16 × Addr) := []
def slotsUsed : Nat := 76
def theMethod : MethodId := ⟨1, 1⟩
def args0 : Array Value := #[.int 5]
def aboutOver (below : List Frame) : State where
  vm := { classes := classes, interned := interned.toArray }
  heap := heap
  slotsUsed := slotsUsed
  threads := #[{ frames := .invoking theMethod args0 :: below }]
def below0 : List Frame := [.native { method := ⟨0, 0⟩, args := #[] }]
def about1 : State := aboutOver below0
def p0 : Program := .bare "" "" ""
def e0 : Env := launch0.env 0 0 0
theorem w_frames : about1.frames = Frame.invoking theMethod args0 :: below0 := rfl
set_option maxRecDepth 65536 in
theorem w_args : argsFit about1.vm theMethod args0 = true := by decide +kernel
set_option maxRecDepth 65536 in
theorem w_heap : heapFits about1 = true := by decide +kernel
set_option maxRecDepth 65536 in
theorem w_runnable : about1.curStatus? = some .runnable := by decide +kernel
set_option maxRecDepth 65536 in
theorem w_alone : about1.alone = true := by decide +kernel
set_option maxRecDepth 65536 in
theorem w_named : about1.methodNamed? x = some theMethod := by decide +kernel
set_option maxRecDepth 65536 in
theorem w_hears : about1.hears theMethod below0 = true := by decide +kernel
set_option maxRecDepth 65536 in
theorem w_ripe : about1.ripe theMethod args0 below0 = true := by decide +kernel
theorem w_running : about1.status = .running := rfl
set_option maxRecDepth 65536 in
theorem w_room : about1.hasRoom e0.platform room_1 = true :=
  launch0.hasRoom_least _ room_1 (by decide +kernel) (by decide +kernel) (by decide +kernel) (by decide +kernel) (by decide +kernel) (by decide +kernel)
theorem allAtoms_all (ts : List Jvm.Cond) (a : Array Jvm.Value) (st : Jvm.State) : (allAtoms ts).before a st = ts.all (fun c => c.before a st) := by
  induction ts with
  | nil => rfl
  | cons c t ih =>
    show (Jvm.Cond.and c (allAtoms t)).before a st = _
    rw [Jvm.Cond.before_and, ih, List.all_cons]
def words1 : List Jvm.Cond := Jvm.Cond.code x code maxLocals ret :: tables_1
/-- a 'code' word, met by the world's own term for the bytes: nothing is compared byte by byte -/
theorem code_word {y : MethodName} {bytes : ByteArray} {mx : Nat} {rt : Option FieldType} {a : Array Value} {s : State} {m : MethodId} {meth : Method} {c : Code} (h1 : s.methodNamed? y = some m) (h2 : s.vm.method? m = some meth) (h3 : meth.code = some c) (h4 : c.code = bytes)
    (h5 : (c.maxLocals == mx && c.exceptionTable.isEmpty && decide (c.maxStack ≤ mostOperands) && decide (meth.sig.returnType = rt) && !meth.locks && decide (parseMethodDescriptor y.desc = some meth.sig)) = true) : (Jvm.Cond.code y bytes mx rt).before a s = true := by
  simp only [Bool.and_eq_true, beq_iff_eq, Bool.not_eq_true', decide_eq_true_eq] at h5
  obtain ⟨⟨⟨⟨⟨g1, g2⟩, g3⟩, g4⟩, g5⟩, g6⟩ := h5
  simp [Cond.before, Cond.holds, Cond.value, h1, h2, h3, h4, g1, g2, g3, g4, g5, g6]
def isCode : Jvm.Cond → Bool
  | .code _ _ _ _ => true
  | _ => false
theorem all_split {L : List Jvm.Cond} {P : Jvm.Cond → Bool} (h1 : L.all (fun c => isCode c || P c) = true) (h2 : ∀ c ∈ L.filter isCode, P c = true) : L.all P = true := by
  refine List.all_eq_true.mpr fun c hc => ?_
  have h := List.all_eq_true.mp h1 c hc
  rcases Bool.eq_false_or_eq_true (isCode c) with hi | hi
  · exact h2 c (List.mem_filter.mpr ⟨hc, hi⟩)
  · simpa [hi] using h
set_option maxRecDepth 65536 in
theorem w_c0 : (Jvm.Cond.code x code maxLocals ret).before args0 about1 = true := code_word (m := ⟨1, 1⟩) (meth := k1m1) (c := k1c1) (by decide +kernel) rfl rfl rfl (by decide +kernel)
set_option maxRecDepth 65536 in
theorem w_c1 : (Jvm.Cond.code ({ cls := "com/example/holler/holler/model/Face", name := "isWild", desc := "()Z" } : Jvm.MethodName) prog_36_method_6_code (1 : Nat) (Option.some Jvm.ClassFile.FieldType.boolean)).before args0 about1 = true := code_word (m := ⟨6, 1⟩) (meth := k6m1) (c := k6c1) (by decide +kernel) rfl rfl rfl (by decide +kernel)
set_option maxRecDepth 65536 in
theorem w_c2 : (Jvm.Cond.code ({ cls := "com/example/holler/holler/model/Face", name := "points", desc := "()I" } : Jvm.MethodName) prog_36_method_4_code (1 : Nat) (Option.some Jvm.ClassFile.FieldType.int)).before args0 about1 = true := code_word (m := ⟨6, 0⟩) (meth := k6m0) (c := k6c0) (by decide +kernel) rfl rfl rfl (by decide +kernel)
def codes1 : List Jvm.Cond := [Jvm.Cond.code x code maxLocals ret, Jvm.Cond.code ({ cls := "com/example/holler/holler/model/Face", name := "isWild", desc := "()Z" } : Jvm.MethodName) prog_36_method_6_code (1 : Nat) (Option.some Jvm.ClassFile.FieldType.boolean), Jvm.Cond.code ({ cls := "com/example/holler/holler/model/Face", name := "points", desc := "()I" } : Jvm.MethodName) prog_36_method_4_code (1 : Nat) (Option.some Jvm.ClassFile.FieldType.int)]
set_option maxRecDepth 65536 in
theorem codes_eq : words1.filter isCode = codes1 := rfl
theorem w_codes : ∀ c ∈ words1.filter isCode, c.before args0 about1 = true := by
  rw [codes_eq]
  intro c hc
  simp only [codes1, List.mem_cons, List.not_mem_nil, or_false] at hc
  rcases hc with rfl | rfl | rfl
  · exact w_c0
  · exact w_c1
  · exact w_c2
set_option maxRecDepth 65536 in
theorem w_t1 : (words1.take 24).all (fun c => isCode c || c.before args0 about1) = true := by decide +kernel
set_option maxRecDepth 65536 in
theorem w_t2 : ((words1.drop 24).take 24).all (fun c => isCode c || c.before args0 about1) = true := by decide +kernel
set_option maxRecDepth 65536 in
theorem w_t3 : ((words1.drop 24).drop 24).all (fun c => isCode c || c.before args0 about1) = true := by decide +kernel
theorem w_tables : (allAtoms (Jvm.Cond.code x code maxLocals ret :: tables_1)).before args0 about1 = true := by
  rw [allAtoms_all]
  show words1.all (fun c => c.before args0 about1) = true
  refine all_split ?_ w_codes
  rw [← List.take_append_drop 24 words1, List.all_append, w_t1, ← List.take_append_drop 24 (words1.drop 24), List.all_append, w_t2, w_t3]
  rfl
set_option maxRecDepth 65536 in
theorem w_case : (Jvm.Cond.and given_1 narrow_1).before args0 about1 = true := by decide +kernel
theorem w_applies : (headSpec (Jvm.Cond.code x code maxLocals ret :: tables_1) room_1).applies x e0.platform about1 = true :=
  (Spec.applies_iff w_frames).mpr ⟨w_running, w_runnable, w_alone, w_named, w_hears, w_ripe, w_room, w_tables⟩
theorem atStart : AtStart classFile x code maxLocals ret World_1 tables_1 room_1 Calls_1 rest_1 Pre_1 launch0 p0 e0 about1 theMethod args0 below0 :=
  ⟨lists_1, trivial, launch0.admits_env _ _ _, launch0.least_env, fairChoices_fair.cas, fairChoices_fair.clock, w_frames, w_args, w_heap, w_applies, trivial, trivial, w_case⟩
end start1
theorem witness_1 : WitnessClaimed_1 := ⟨start1.p0, start1.e0, start1.about1, start1.theMethod, start1.args0, start1.below0, start1.atStart⟩
end Jvm.Pilot.@@N@@
