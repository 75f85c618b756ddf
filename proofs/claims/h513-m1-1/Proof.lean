import JvmDerived
import JvmDerived.Pilot.@@N@@Statement
import JvmDerived.Pilot.@@N@@Code
set_option linter.unusedVariables false
set_option linter.unusedSimpArgs false
namespace Jvm.Pilot.@@N@@.Own
open Jvm Jvm.ClassFile Sem Op Lib Jvm.Free Jvm.Stand Jvm.LawKit Jvm.RoadKit
/-- from S the run comes to an end of which P holds -/
def Go (tb : Tables) (e : Env) (below : List Frame) (P : State → Outcome → Prop) (S : State) : Prop :=
  ∃ s₂ o, Steps tb e below S s₂ ∧ s₂.status = .running ∧ Ended s₂ below o ∧ P s₂ o
theorem Go.step {tb : Tables} {e : Env} {below : List Frame} {P : State → Outcome → Prop} {S S' : State}
    (h : ∀ t, Steps tb e below S' t → Steps tb e below S t) (g : Go tb e below P S') : Go tb e below P S := by
  obtain ⟨t, o, h1, h2⟩ := g; exact ⟨t, o, h t h1, h2⟩
theorem Go.tr {tb : Tables} {e : Env} {below : List Frame} {P : State → Outcome → Prop} {S S' : State}
    (h : Steps tb e below S S') (g : Go tb e below P S') : Go tb e below P S := by
  obtain ⟨t, o, h1, h2⟩ := g; exact ⟨t, o, h.trans h1, h2⟩
theorem Go.start {tb : Tables} {e : Env} {below : List Frame} {P₀ : State → Outcome → Prop} {S S' : State} (q : S = S')
    (h : ∀ P : State → Outcome → Prop, (∀ s₂ o, P₀ s₂ o → P s₂ o) → Go tb e below P S') : Go tb e below P₀ S := by
  subst q; exact h P₀ fun _ _ h => h
/-- a value gets a name -/
theorem nm {α : Type} (F : α → Prop) (x : α) (H : ∀ z, z = x → F z) : F x := H x rfl
section Ends
variable {p : Program} {l : Launch} {e : Env} {R : Room} {s : State} {m : MethodId} {args : Array Value} {below : List Frame} {meth : Method} {c : Code} {T : State} {locs : List Loc} {cells slots : Nat}
theorem retGo (X : Stand p l e R s m args below meth c T locs cells slots) (hx : p.tables.exec = Jvm.exec) {P : State → Outcome → Prop} {Q : Option Value → Heap → List Loc → Prop} {kc ks : Nat}
    (hP : ∀ s₂ o, (∃ v L, o = .returned v ∧ Q v s₂.heap L ∧ FrameEnd s o s₂ L kc ks) → P s₂ o) {pc : Nat} {Ls : Array Slot} {w : Value} {t : FieldType} {i : Instr} {rest : List Value} (hret : meth.sig.returnType = some t) (hlk : meth.locks = false) (hn : narrow t w = w)
    (hi : (i = .ireturn ∧ (t = .int ∨ t = .boolean ∨ t = .byte ∨ t = .char ∨ t = .short) ∧ ∃ z, w = .int z) ∨ (i = .lreturn ∧ t = .long ∧ ∃ z, w = .long z) ∨ (i = .dreturn ∧ t = .double ∧ ∃ z, w = .double z) ∨ (i = .freturn ∧ t = .float ∧ ∃ z, w = .float z) ∨ (i = .areturn ∧ t.isReference = true ∧ w.isRef = true))
    (hd : decode c.code pc = .ok (i, 1)) (hc : cells ≤ kc) (hs : slots ≤ ks) (hQ : Q (some w) T.heap locs) : Go p.tables e below P (T.setTop (mkF m pc Ls (w :: rest))) := by
  obtain ⟨fs, hr, hrun, hended, hW, hsame⟩ := X.leave (v := some w) (fun h => by rw [hret] at h; cases h) hlk
  exact ⟨_, _, retOut X hx hret hn hi hd hr, hrun, hended, hP _ _ ⟨_, _, rfl, hQ, ⟨_, rfl⟩, hW, hsame.mono hc hs⟩⟩
theorem retGoW {vm1 : Vm} (X : Stand p l e R (s.setVm vm1) m args below meth c T locs cells slots) (hx : p.tables.exec = Jvm.exec) {n1 : Nat} (hS : s.Since vm1 n1) (hn1 : n1 ≤ T.heap.size) {P : State → Outcome → Prop} {Q : Option Value → Heap → List Loc → Prop} {kc ks : Nat}
    (hP : ∀ s₂ o, (∃ v L, o = .returned v ∧ Q v s₂.heap L ∧ ReturnedEndW s o s₂ L kc ks) → P s₂ o) {pc : Nat} {Ls : Array Slot} {w : Value} {t : FieldType} {i : Instr} {rest : List Value} (hret : meth.sig.returnType = some t) (hlk : meth.locks = false) (hn : narrow t w = w)
    (hi : (i = .ireturn ∧ (t = .int ∨ t = .boolean ∨ t = .byte ∨ t = .char ∨ t = .short) ∧ ∃ z, w = .int z) ∨ (i = .lreturn ∧ t = .long ∧ ∃ z, w = .long z) ∨ (i = .dreturn ∧ t = .double ∧ ∃ z, w = .double z) ∨ (i = .freturn ∧ t = .float ∧ ∃ z, w = .float z) ∨ (i = .areturn ∧ t.isReference = true ∧ w.isRef = true))
    (hd : decode c.code pc = .ok (i, 1)) (hc : cells ≤ kc) (hs : slots ≤ ks) (hQ : Q (some w) T.heap locs) : Go p.tables e below P (T.setTop (mkF m pc Ls (w :: rest))) := by
  obtain ⟨fs, hr, hrun, hended, _, hW, hI, hsame⟩ := X.leaveW hS hn1 (v := some w) (fun h => by rw [hret] at h; cases h) hlk
  exact ⟨_, _, retOut X hx hret hn hi hd hr, hrun, hended, hP _ _ ⟨_, _, rfl, hQ, ⟨_, rfl⟩, hW, hI, hsame.mono hc hs⟩⟩
theorem voidGo (X : Stand p l e R s m args below meth c T locs cells slots) (hx : p.tables.exec = Jvm.exec) {P : State → Outcome → Prop} {Q : Option Value → Heap → List Loc → Prop} {kc ks : Nat}
    (hP : ∀ s₂ o, (∃ v L, o = .returned v ∧ Q v s₂.heap L ∧ FrameEnd s o s₂ L kc ks) → P s₂ o) {pc : Nat} {Ls : Array Slot} (hret : meth.sig.returnType = none) (hlk : meth.locks = false)
    (hd : decode c.code pc = .ok (.return_, 1)) (hc : cells ≤ kc) (hs : slots ≤ ks) (hQ : Q none T.heap locs) : Go p.tables e below P (T.setTop (mkF m pc Ls [])) := by
  obtain ⟨fs, hr, hrun, hended, hW, hsame⟩ := X.leave (v := none) (fun _ => rfl) hlk
  exact ⟨_, _, X.returnOut hx hret hd hr, hrun, hended, hP _ _ ⟨_, _, rfl, hQ, ⟨_, rfl⟩, hW, hsame.mono hc hs⟩⟩
end Ends
/-! branches: what is compared, as whole numbers -/
def rel : ClassFile.Cond → Int → Int → Prop
  | .eq, a, b => a = b
  | .ne, a, b => ¬ a = b
  | .lt, a, b => a < b
  | .ge, a, b => b ≤ a
  | .gt, a, b => b < a
  | .le, a, b => a ≤ b
theorem icY {cd : ClassFile.Cond} {x y : Int32} (h : rel cd x.toInt y.toInt) : if_icmp.holds cd x y = true := by
  cases cd <;> simp only [rel] at h <;> simp [if_icmp.holds, Int32.lt_iff_toInt_lt, Int32.le_iff_toInt_le, ← Int32.toInt_inj] <;> omega
theorem icN {cd : ClassFile.Cond} {x y : Int32} (h : ¬ rel cd x.toInt y.toInt) : if_icmp.holds cd x y = false := by
  cases cd <;> simp only [rel] at h <;> simp [if_icmp.holds, Int32.lt_iff_toInt_lt, Int32.le_iff_toInt_le, ← Int32.toInt_inj] <;> omega
theorem ifY {cd : ClassFile.Cond} {x : Int32} (h : rel cd x.toInt 0) : ifCond.holds cd x = true := (if0 cd x).trans (icY h)
theorem ifN {cd : ClassFile.Cond} {x : Int32} (h : ¬ rel cd x.toInt 0) : ifCond.holds cd x = false := (if0 cd x).trans (icN h)
theorem lcmp_rel {cd : ClassFile.Cond} {x y : Int64} : rel cd (lcmpW x y).toInt 0 ↔ rel cd x.toInt y.toInt := by
  have h1 : x < y ↔ x.toInt < y.toInt := Int64.lt_iff_toInt_lt
  have h2 : y < x ↔ y.toInt < x.toInt := Int64.lt_iff_toInt_lt
  have h3 : x = y ↔ x.toInt = y.toInt := Int64.toInt_inj.symm
  have e1 : (1 : Int32).toInt = 1 := rfl
  have e2 : (-1 : Int32).toInt = -1 := rfl
  have e3 : (0 : Int32).toInt = 0 := rfl
  unfold lcmpW
  by_cases c1 : x > y
  · rw [if_pos c1, e1]; have := h2.mp c1; cases cd <;> simp only [rel] <;> omega
  · rw [if_neg c1]
    have n1 : ¬ y.toInt < x.toInt := fun q => c1 (h2.mpr q)
    by_cases c2 : x = y
    · rw [if_pos c2, e3]; have q := h3.mp c2; cases cd <;> simp only [rel] <;> first | omega | simp [q]
    · rw [if_neg c2, e2]
      have n2 : ¬ x.toInt = y.toInt := fun q => c2 (h3.mpr q)
      cases cd <;> simp only [rel] <;> omega
theorem lcY {cd : ClassFile.Cond} {x y : Int64} (h : rel cd x.toInt y.toInt) : ifCond.holds cd (lcmpW x y) = true := ifY (lcmp_rel.mpr h)
theorem lcN {cd : ClassFile.Cond} {x y : Int64} (h : ¬ rel cd x.toInt y.toInt) : ifCond.holds cd (lcmpW x y) = false := ifN fun q => h (lcmp_rel.mp q)
theorem cmpV_rel {cd : ClassFile.Cond} {op : CmpOp} {i j : Int} : rel cd (cmpValue (some (compare i j)) op).toInt 0 ↔ rel cd i j := by
  have e1 : (1 : Int32).toInt = 1 := rfl
  have e2 : (-1 : Int32).toInt = -1 := rfl
  have e3 : (0 : Int32).toInt = 0 := rfl
  cases h : compare i j with
  | lt => have := (FP.Core.compare_lt_iff i j).mp h; show rel cd (-1 : Int32).toInt 0 ↔ _; rw [e2]; cases cd <;> simp only [rel] <;> omega
  | eq => have := (FP.Core.compare_eq_iff i j).mp h; show rel cd (0 : Int32).toInt 0 ↔ _; rw [e3]; cases cd <;> simp only [rel] <;> first | omega | simp [this]
  | gt => have := (FP.Core.compare_gt_iff i j).mp h; show rel cd (1 : Int32).toInt 0 ↔ _; rw [e1]; cases cd <;> simp only [rel] <;> omega
theorem dcY {cd : ClassFile.Cond} {op : CmpOp} {r : Option Ordering} {i j : Int} (q : r = some (compare i j)) (h : rel cd i j) : ifCond.holds cd (cmpValue r op) = true := by subst q; exact ifY (cmpV_rel.mpr h)
theorem dcN {cd : ClassFile.Cond} {op : CmpOp} {r : Option Ordering} {i j : Int} (q : r = some (compare i j)) (h : ¬ rel cd i j) : ifCond.holds cd (cmpValue r op) = false := by subst q; exact ifN fun z => h (cmpV_rel.mp z)
end Jvm.Pilot.@@N@@.Own
namespace Jvm.Pilot.@@N@@.Own
open Jvm Jvm.FP Jvm.FP.Core
/-! ## doubles as whole numbers of 2^-1074: what rounding leaves -/
/-- a double's value in units of 2^-1074 -/
def zv (a : UInt64) : Int := zval b64 (val64 a)
/-- a is finite and lies between lo * 2^k and hi * 2^k units -/
def DB (k : Nat) (lo hi : Int) (a : UInt64) : Prop := DFin a ∧ lo * ((2 ^ k : Nat) : Int) ≤ zv a ∧ zv a ≤ hi * ((2 ^ k : Nat) : Int)
/-- a is finite and is i * 2^k units -/
abbrev DE (k : Nat) (i : Int) (a : UInt64) : Prop := DB k i i a
theorem DE.eq {k : Nat} {i : Int} {a : UInt64} (h : DE k i a) : zv a = i * ((2 ^ k : Nat) : Int) := Int.le_antisymm h.2.2 h.2.1
theorem DE.of {k : Nat} {i : Int} {a : UInt64} (hf : DFin a) (h : zv a = i * ((2 ^ k : Nat) : Int)) : DE k i a := ⟨hf, Int.le_of_eq h.symm, Int.le_of_eq h⟩
theorem tn32 {q : Int32} (h0 : 0 ≤ q.toInt) : (q.toBitVec.toNat : Int) = q.toInt := by
  have l := q.toBitVec.isLt
  have e : q.toInt = q.toBitVec.toInt := rfl
  rw [e] at h0 ⊢
  rw [BitVec.toInt_eq_toNat_cond] at h0 ⊢
  split at h0 <;> split <;> omega
theorem nmul {a b : Int} {A B : Nat} (ha : a.natAbs ≤ A) (hb : b.natAbs ≤ B) : (a * b).natAbs ≤ A * B := by rw [Int.natAbs_mul]; exact Nat.mul_le_mul ha hb
theorem nab {a : Int} {A : Nat} (h : -(A : Int) ≤ a ∧ a ≤ A) : a.natAbs ≤ A := by omega
theorem bmul {a b : Int} {A B : Nat} (ha : -(A : Int) ≤ a ∧ a ≤ A) (hb : -(B : Int) ≤ b ∧ b ≤ B) : -((A * B : Nat) : Int) ≤ a * b ∧ a * b ≤ ((A * B : Nat) : Int) := by
  have := nmul (nab ha) (nab hb)
  omega
theorem le_mul1 {a b : Int} (ha : 0 ≤ a) (hb : 1 ≤ b) : a ≤ a * b := by have := Int.mul_le_mul_of_nonneg_left hb ha; rwa [Int.mul_one] at this
theorem pw_pos (k : Nat) : (0 : Int) < ((2 ^ k : Nat) : Int) := Int.natCast_pos.mpr (Nat.two_pow_pos k)
theorem DB.nn {k : Nat} {lo hi : Int} {a : UInt64} (h : DB k lo hi a) : Jvm.Free.Fl.NoNaN64 a := Jvm.Free.Fl.noNaN64_no.mpr h.1.notNaN
theorem DB.ne {k : Nat} {lo hi : Int} {a : UInt64} (h : DB k lo hi a) : val64 a ≠ .nan := h.1.ne_nan
/-- a number of 53 digits is a double -/
theorem rep {n : Int} {k : Nat} (hn : n.natAbs ≤ 2 ^ 53) (hk : k ≤ 2044) : ∃ s c q, FP.Core.fits b64 (.fin s c q) ∧ zval b64 (.fin s c q) = n * ((2 ^ k : Nat) : Int) := by
  have key : ∀ (n : Int) (k : Nat), n.natAbs < 2 ^ 53 → k ≤ 2045 → ∃ s c q, FP.Core.fits b64 (.fin s c q) ∧ zval b64 (.fin s c q) = n * ((2 ^ k : Nat) : Int) := by
    intro n k hn hk
    have q1 : b64.qmin = -1074 := by decide
    have q2 : b64.qmax = 971 := by decide
    obtain ⟨c', q', h1, h2⟩ := round_exact good_b64 (decide (n < 0)) (c := n.natAbs) (q := b64.qmin + (k : Int)) (show n.natAbs < 2 ^ b64.p from hn) (by omega) (by omega)
    refine ⟨_, c', q', h1 ▸ round_fits good_b64 _, ?_⟩
    show signed (decide (n < 0)) (inUnits c' q' b64.qmin) = _
    rw [h2]
    unfold inUnits
    rw [signed_mul, show (b64.qmin + (k : Int) - b64.qmin).toNat = k by omega]
    congr 1
    unfold signed
    by_cases h : n < 0 <;> simp [h] <;> omega
  by_cases h : n.natAbs < 2 ^ 53
  · exact key n k h (by omega)
  · have e : n.natAbs = 2 ^ 53 := by omega
    have : ∃ m : Int, n = m * 2 ∧ m.natAbs < 2 ^ 53 := by
      rcases Int.natAbs_eq n with q | q
      · exact ⟨2 ^ 52, by rw [q, e]; decide, by decide⟩
      · exact ⟨-2 ^ 52, by rw [q, e]; decide, by decide⟩
    obtain ⟨m, rfl, hm⟩ := this
    obtain ⟨s, c, q, h1, h2⟩ := key m (k + 1) hm (by omega)
    refine ⟨s, c, q, h1, ?_⟩
    rw [h2, Nat.pow_succ, Int.natCast_mul, Int.mul_assoc]
    congr 1
    rw [Int.mul_comm]; rfl
/-- a number between two finite ones is finite -/
theorem fin_between {a : UInt64} {lo hi : Int} {k : Nat} (hl : lo.natAbs ≤ 2 ^ 53) (hh : hi.natAbs ≤ 2 ^ 53) (hk : k ≤ 2044) (hn : val64 a ≠ .nan) (h1 : lo * ((2 ^ k : Nat) : Int) ≤ zv a) (h2 : zv a ≤ hi * ((2 ^ k : Nat) : Int)) : DB k lo hi a := by
  refine ⟨?_, h1, h2⟩
  obtain ⟨s1, c1, q1, f1, e1⟩ := rep hl hk
  obtain ⟨s2, c2, q2, f2, e2⟩ := rep hh hk
  have t1 : zmag b64 (.fin s1 c1 q1) < b64.tails * 2 ^ (b64.exps - 2) := zmag_lt_top good_b64 f1
  have t2 : zmag b64 (.fin s2 c2 q2) < b64.tails * 2 ^ (b64.exps - 2) := zmag_lt_top good_b64 f2
  rw [← e1] at h1
  rw [← e2] at h2
  unfold zv at h1 h2
  cases hv : val64 a with
  | nan => exact absurd hv hn
  | fin s c q => exact ⟨s, c, q, hv⟩
  | inf s =>
    exfalso
    rw [hv] at h1 h2
    have z : zmag b64 (.inf s) = b64.tails * 2 ^ (b64.exps - 2) := rfl
    unfold zval at h1 h2
    rw [z] at h1 h2
    generalize b64.tails * 2 ^ (b64.exps - 2) = top at *
    generalize zmag b64 (.fin s1 c1 q1) = m1 at *
    generalize zmag b64 (.fin s2 c2 q2) = m2 at *
    simp only [sgn] at h1 h2
    cases s <;> cases s1 <;> cases s2 <;> simp only [signed, if_true, Bool.false_eq_true, if_false] at h1 h2 <;> omega
theorem qmin_sub : ((2 ^ (b64.qmin - b64.qmin).toNat : Nat) : Int) = 1 := by rw [Int.sub_self]; rfl
/-- what lies between two numbers of 53 digits is rounded to something between them -/
theorem round_between {s : Bool} {c : Nat} {q : Int} {lo hi : Int} {k : Nat} {a : UInt64} (ha : val64 a = round b64 (.fin s c q)) (hl : lo.natAbs ≤ 2 ^ 53) (hh : hi.natAbs ≤ 2 ^ 53) (hk : k ≤ 2044) {e0 : Int} (h0 : e0 ≤ b64.qmin) (h0e : e0 ≤ q)
    (h1 : lo * ((2 ^ k : Nat) : Int) * ((2 ^ (b64.qmin - e0).toNat : Nat) : Int) ≤ signed s (inUnits c q e0)) (h2 : signed s (inUnits c q e0) ≤ hi * ((2 ^ k : Nat) : Int) * ((2 ^ (b64.qmin - e0).toNat : Nat) : Int)) : DB k lo hi a := by
  obtain ⟨s1, c1, q1, f1, e1⟩ := rep hl hk
  obtain ⟨s2, c2, q2, f2, e2⟩ := rep hh hk
  have hn : val64 a ≠ .nan := by rw [ha]; exact roundRatio_ne_nan _ _ _ _ _
  refine fin_between hl hh hk hn ?_ ?_
  · unfold zv; rw [ha, ← e1]; exact zval_round_ge good_b64 f1 (by simp) h0 h0e (by rw [e1]; exact h1)
  · unfold zv; rw [ha, ← e2]; exact zval_round_le good_b64 f2 (by simp) h0 h0e (by rw [e2]; exact h2)
theorem add_b {a b : UInt64} {k : Nat} {l1 h1 l2 h2 lo hi : Int} (ha : DB k l1 h1 a) (hb : DB k l2 h2 b) (hlo : lo ≤ l1 + l2) (hhi : h1 + h2 ≤ hi) (hl : lo.natAbs ≤ 2 ^ 53) (hh : hi.natAbs ≤ 2 ^ 53) (hk : k ≤ 2044) : DB k lo hi (FP.dadd a b) := by
  obtain ⟨⟨s, c, q, va⟩, a1, a2⟩ := ha
  obtain ⟨⟨t, d, r, vb⟩, b1, b2⟩ := hb
  have hv := val64_dadd a b
  have fa := val64_fits a
  have fb := val64_fits b
  unfold zv at a1 a2 b1 b2
  rw [va] at hv fa a1 a2
  rw [vb] at hv fb b1 b2
  obtain ⟨sg, n, e, h3, h4, h5⟩ := sum_units fa fb
  rw [h3] at hv
  have hp := pw_pos k
  refine round_between hv hl hh hk (e0 := b64.qmin) (Int.le_refl _) h4 ?_ ?_
  · rw [h5, qmin_sub, Int.mul_one]
    have := Int.mul_le_mul_of_nonneg_right hlo (Int.le_of_lt hp)
    rw [Int.add_mul] at this
    omega
  · rw [h5, qmin_sub, Int.mul_one]
    have := Int.mul_le_mul_of_nonneg_right hhi (Int.le_of_lt hp)
    rw [Int.add_mul] at this
    omega
theorem zv_dneg {a : UInt64} : zv (FP.dneg a) = -zv a := by unfold zv; rw [FP.val64_dneg, zval_negate]
theorem neg_b {a : UInt64} {k : Nat} {lo hi : Int} (ha : DB k lo hi a) : DB k (-hi) (-lo) (FP.dneg a) := by
  refine ⟨?_, ?_, ?_⟩
  · obtain ⟨s, c, q, va⟩ := ha.1
    exact ⟨!s, c, q, by rw [FP.val64_dneg, va]; rfl⟩
  · rw [zv_dneg, Int.neg_mul]; have := ha.2.2; omega
  · rw [zv_dneg, Int.neg_mul]; have := ha.2.1; omega
theorem sub_b {a b : UInt64} {k : Nat} {l1 h1 l2 h2 lo hi : Int} (ha : DB k l1 h1 a) (hb : DB k l2 h2 b) (hlo : lo ≤ l1 - h2) (hhi : h1 - l2 ≤ hi) (hl : lo.natAbs ≤ 2 ^ 53) (hh : hi.natAbs ≤ 2 ^ 53) (hk : k ≤ 2044) : DB k lo hi (FP.dsub a b) := by
  have e : FP.dsub a b = FP.dadd a (FP.dneg b) := by
    rw [FP.dneg_core hb.1.notNaN]; exact dsub_eq a b
  rw [e]
  exact add_b ha (neg_b hb) (by omega) (by omega) hl hh hk
theorem pw_1074 : ((2 ^ (b64.qmin - 2 * b64.qmin).toNat : Nat) : Int) = ((2 ^ 1074 : Nat) : Int) := by
  rw [show (b64.qmin - 2 * b64.qmin).toNat = 1074 by decide]
/-- the exact product of the two lies between -/
theorem mul_z {a b : UInt64} {k : Nat} {lo hi : Int} (fa : DFin a) (fb : DFin b) (h1 : lo * ((2 ^ k : Nat) : Int) * ((2 ^ 1074 : Nat) : Int) ≤ zv a * zv b) (h2 : zv a * zv b ≤ hi * ((2 ^ k : Nat) : Int) * ((2 ^ 1074 : Nat) : Int)) (hl : lo.natAbs ≤ 2 ^ 53) (hh : hi.natAbs ≤ 2 ^ 53) (hk : k ≤ 2044) : DB k lo hi (FP.dmul a b) := by
  obtain ⟨s, c, q, va⟩ := fa
  obtain ⟨t, d, r, vb⟩ := fb
  have hv := val64_dmul a b
  have fa := val64_fits a
  have fb := val64_fits b
  unfold zv at h1 h2
  rw [va] at hv fa h1 h2
  rw [vb] at hv fb h1 h2
  obtain ⟨g1, g2, g3⟩ := product_units fa fb
  rw [g1] at hv
  have e : signed (s != t) (inUnits (c * d) (q + r) (2 * b64.qmin)) = zval b64 (.fin s c q) * zval b64 (.fin t d r) := by
    rw [g3, signed_xor]; rfl
  refine round_between hv hl hh hk (e0 := 2 * b64.qmin) (by decide) g2 ?_ ?_
  · rw [e, pw_1074]; exact h1
  · rw [e, pw_1074]; exact h2
theorem pw_add (a b : Nat) : ((2 ^ (a + b) : Nat) : Int) = ((2 ^ a : Nat) : Int) * ((2 ^ b : Nat) : Int) := by rw [Nat.pow_add, Int.natCast_mul]
theorem mul_e {a b : UInt64} {k k1 k2 : Nat} {i j n : Int} (ha : DE k1 i a) (hb : DE k2 j b) (hk : k1 + k2 = k + 1074) (hn : i * j = n) (hh : n.natAbs ≤ 2 ^ 53) (hk' : k ≤ 2044) : DE k n (FP.dmul a b) := by
  have e : zv a * zv b = n * ((2 ^ k : Nat) : Int) * ((2 ^ 1074 : Nat) : Int) := by
    rw [ha.eq, hb.eq, ← hn, Int.mul_assoc (i * j), ← pw_add, ← hk, pw_add]
    simp only [Int.mul_assoc, Int.mul_left_comm]
  exact mul_z ha.1 hb.1 (Int.le_of_eq e.symm) (Int.le_of_eq e) hh hh hk'
/-- a bounded one times a known one that isn't negative -/
theorem mul_b {a b : UInt64} {k k1 k2 : Nat} {l1 h1 j lo hi : Int} (ha : DB k1 l1 h1 a) (hb : DE k2 j b) (hj : 0 ≤ j) (hk : k1 + k2 = k + 1074) (hlo : lo ≤ l1 * j) (hhi : h1 * j ≤ hi) (hl : lo.natAbs ≤ 2 ^ 53) (hh : hi.natAbs ≤ 2 ^ 53) (hk' : k ≤ 2044) : DB k lo hi (FP.dmul a b) := by
  have p1 := pw_pos k1
  have p2 := pw_pos k2
  have hz : 0 ≤ zv b := by rw [hb.eq]; exact Int.mul_nonneg hj (Int.le_of_lt p2)
  have e : ∀ x : Int, x * j * ((2 ^ k : Nat) : Int) * ((2 ^ 1074 : Nat) : Int) = x * ((2 ^ k1 : Nat) : Int) * zv b := fun x => by
    rw [hb.eq, Int.mul_assoc (x * j), ← pw_add, ← hk, pw_add]
    simp only [Int.mul_assoc, Int.mul_left_comm]
  have up : ∀ {x y : Int}, x ≤ y → x * ((2 ^ k : Nat) : Int) * ((2 ^ 1074 : Nat) : Int) ≤ y * ((2 ^ k : Nat) : Int) * ((2 ^ 1074 : Nat) : Int) := fun h =>
    Int.mul_le_mul_of_nonneg_right (Int.mul_le_mul_of_nonneg_right h (Int.le_of_lt (pw_pos _))) (Int.le_of_lt (pw_pos _))
  refine mul_z ha.1 hb.1 ?_ ?_ hl hh hk'
  · refine Int.le_trans (up hlo) ?_
    rw [e]; exact Int.mul_le_mul_of_nonneg_right ha.2.1 hz
  · refine Int.le_trans ?_ (up hhi)
    rw [e]; exact Int.mul_le_mul_of_nonneg_right ha.2.2 hz
theorem pw3 {A B C D E : Nat} (c : Nat) (h : A + B = C + D + E) : c * 2 ^ A * 2 ^ B = c * 2 ^ C * 2 ^ D * 2 ^ E := by
  rw [Nat.mul_assoc, ← Nat.pow_add, h, Nat.pow_add, Nat.pow_add, ← Nat.mul_assoc, ← Nat.mul_assoc]
theorem ev_aux (V : Int) (n d y : Nat) : V * ((2 ^ n * d : Nat) : Int) * ((2 ^ y : Nat) : Int) = V * ((d * 2 ^ y : Nat) : Int) * ((2 ^ n : Nat) : Int) := by
  rw [Int.natCast_mul, Int.natCast_mul]
  generalize ((2 ^ n : Nat) : Int) = x
  generalize ((2 ^ y : Nat) : Int) = z
  simp only [Int.mul_assoc, Int.mul_comm, Int.mul_left_comm]
/-- the quotient, with signs -/
theorem ratio_le {s : Bool} {A B : Nat} {e e0 : Int} {V : Datum} (hB : 0 < B) (hV : FP.Core.fits b64 V) (hn : V ≠ .nan) (h0 : e0 ≤ b64.qmin) (h0e : e0 ≤ e)
    (h : signed s (inUnits A e e0) ≤ zval b64 V * ((2 ^ (b64.qmin - e0).toNat * B : Nat) : Int)) : zval b64 (roundRatio b64 s A B e) ≤ zval b64 V := by
  have hle := zmag_roundRatio_le good_b64 (s := s) (A := A) hB hV hn h0 h0e
  have hge := zmag_roundRatio_ge good_b64 (s := s) (A := A) hB hV h0 h0e
  rw [Nat.mul_assoc] at hle hge
  have hP : 0 < 2 ^ (b64.qmin - e0).toNat * B := Nat.mul_pos (Nat.two_pow_pos _) hB
  unfold zval at h ⊢
  rw [sgn_roundRatio]
  rw [← signed_mul] at h
  have hz : zmag b64 V * (2 ^ (b64.qmin - e0).toNat * B) = 0 → zmag b64 V = 0 := by
    intro h
    rcases Nat.mul_eq_zero.mp h with h | h <;> omega
  generalize zmag b64 V * (2 ^ (b64.qmin - e0).toNat * B) = vP at *
  generalize sgn V = t at *
  cases s <;> cases t <;> simp only [signed, if_true, Bool.false_eq_true, if_false] at h ⊢
  · have := hle (by omega); omega
  · have := hle (by omega); have := hz (by omega); omega
  · omega
  · have := hge (by omega); omega
theorem ratio_ge {s : Bool} {A B : Nat} {e e0 : Int} {V : Datum} (hB : 0 < B) (hV : FP.Core.fits b64 V) (hn : V ≠ .nan) (h0 : e0 ≤ b64.qmin) (h0e : e0 ≤ e)
    (h : zval b64 V * ((2 ^ (b64.qmin - e0).toNat * B : Nat) : Int) ≤ signed s (inUnits A e e0)) : zval b64 V ≤ zval b64 (roundRatio b64 s A B e) := by
  have h1 := ratio_le (s := !s) (A := A) (B := B) (e := e) (V := negate V) hB (negate_fits hV) (negate_ne_nan hn) h0 h0e (by
    rw [zval_negate, Int.neg_mul]
    have : signed (!s) (inUnits A e e0) = -signed s (inUnits A e e0) := by cases s <;> simp [signed]
    rw [this]; omega)
  rw [zval_negate, ← negate_roundRatio, zval_negate] at h1
  omega
/-- the quotient by a positive number: no NaN, and at the least, at the most, what is so when multiplied back -/
theorem div_zz {a b : UInt64} (fa : DFin a) (fb : DFin b) (hb : 0 < zv b) : val64 (FP.ddiv a b) ≠ .nan ∧
    (∀ {k : Nat} {lo : Int}, lo.natAbs ≤ 2 ^ 53 → k ≤ 2044 → lo * ((2 ^ k : Nat) : Int) * zv b ≤ zv a * ((2 ^ 1074 : Nat) : Int) → lo * ((2 ^ k : Nat) : Int) ≤ zv (FP.ddiv a b)) ∧
    (∀ {k : Nat} {hi : Int}, hi.natAbs ≤ 2 ^ 53 → k ≤ 2044 → zv a * ((2 ^ 1074 : Nat) : Int) ≤ hi * ((2 ^ k : Nat) : Int) * zv b → zv (FP.ddiv a b) ≤ hi * ((2 ^ k : Nat) : Int)) := by
  obtain ⟨s, c, q, va⟩ := fa
  obtain ⟨t, d, r, vb⟩ := fb
  have hv := val64_ddiv a b
  have fa := val64_fits a
  have fb := val64_fits b
  have zea : zv a = zval b64 (.fin s c q) := by unfold zv; rw [va]
  have zeb : zv b = zval b64 (.fin t d r) := by unfold zv; rw [vb]
  rw [zea, zeb]
  rw [zeb] at hb
  rw [va] at hv fa
  rw [vb] at hv fb
  have qn : b64.qmin = -1074 := by decide
  have qx : b64.qmax = 971 := by decide
  have fa2 := fa.2.1
  have fb2 := fb.2.1
  have fb3 := fb.2.2.1
  have zb : zval b64 (.fin t d r) = signed t (d * 2 ^ (r - b64.qmin).toNat) := rfl
  have za : zval b64 (.fin s c q) = signed s (c * 2 ^ (q - b64.qmin).toNat) := rfl
  have hd : 0 < d := by
    refine Nat.pos_of_ne_zero fun e => ?_
    rw [zb, e, Nat.zero_mul, signed_zero] at hb
    omega
  have ht : t = false := by
    cases t with
    | false => rfl
    | true => rw [zb] at hb; simp only [signed, if_true] at hb; omega
  subst ht
  have hq : quotient b64 (.fin s c q) (.fin false d r) = roundRatio b64 s c d (q - r) := by
    show (if d = 0 then _ else roundRatio b64 (s != false) c d (q - r)) = _
    rw [if_neg (by omega)]; cases s <;> rfl
  rw [hq] at hv
  have hn : val64 (Core.ddiv a b) ≠ .nan := by rw [hv]; exact roundRatio_ne_nan _ _ _ _ _
  -- both sides times 2^(r - qmin)
  have hP := pw_pos (r - b64.qmin).toNat
  have ex : signed s (inUnits c (q - r) (2 * b64.qmin)) * ((2 ^ (r - b64.qmin).toNat : Nat) : Int) = zval b64 (.fin s c q) * ((2 ^ 1074 : Nat) : Int) * ((2 ^ 1074 : Nat) : Int) := by
    rw [za, ← signed_mul, ← signed_mul, ← signed_mul]
    exact congrArg (signed s) (pw3 (A := (q - r - 2 * b64.qmin).toNat) (D := 1074) (E := 1074) c (by omega))
  have ev : ∀ V : Int, V * ((2 ^ (b64.qmin - 2 * b64.qmin).toNat * d : Nat) : Int) * ((2 ^ (r - b64.qmin).toNat : Nat) : Int) = V * zval b64 (.fin false d r) * ((2 ^ 1074 : Nat) : Int) := fun V => by
    rw [zb, show (b64.qmin - 2 * b64.qmin).toNat = 1074 by decide]
    exact ev_aux V 1074 d _
  have p1074 := pw_pos 1074
  refine ⟨hn, fun {k lo} hl hk h1 => ?_, fun {k hi} hh hk h2 => ?_⟩
  · obtain ⟨s1, c1, q1, f1, e1⟩ := rep hl hk
    unfold zv; rw [hv, ← e1]
    refine ratio_ge hd f1 (by simp) (e0 := 2 * b64.qmin) (by decide) (by omega) ?_
    refine Int.le_of_mul_le_mul_right ?_ hP
    rw [ev, ex, e1]
    exact Int.mul_le_mul_of_nonneg_right h1 (Int.le_of_lt p1074)
  · obtain ⟨s2, c2, q2, f2, e2⟩ := rep hh hk
    unfold zv; rw [hv, ← e2]
    refine ratio_le hd f2 (by simp) (e0 := 2 * b64.qmin) (by decide) (by omega) ?_
    refine Int.le_of_mul_le_mul_right ?_ hP
    rw [ev, ex, e2]
    exact Int.mul_le_mul_of_nonneg_right h2 (Int.le_of_lt p1074)
/-- between lo and hi -/
theorem div_z {a b : UInt64} {k : Nat} {lo hi : Int} (fa : DFin a) (fb : DFin b) (hb : 0 < zv b) (h1 : lo * ((2 ^ k : Nat) : Int) * zv b ≤ zv a * ((2 ^ 1074 : Nat) : Int)) (h2 : zv a * ((2 ^ 1074 : Nat) : Int) ≤ hi * ((2 ^ k : Nat) : Int) * zv b) (hl : lo.natAbs ≤ 2 ^ 53) (hh : hi.natAbs ≤ 2 ^ 53) (hk : k ≤ 2044) : DB k lo hi (FP.ddiv a b) := by
  obtain ⟨n, ge, le⟩ := div_zz fa fb hb
  exact fin_between hl hh hk n (ge hl hk h1) (le hh hk h2)
/-- the quotient of two known numbers, the second one positive -/
theorem div_b {a b : UInt64} {k k1 k2 : Nat} {i j lo hi : Int} (ha : DE k1 i a) (hb : DE k2 j b) (hj : 0 < j) (hk : k1 + 1074 = k + k2) (hlo : lo * j ≤ i) (hhi : i ≤ hi * j) (hl : lo.natAbs ≤ 2 ^ 53) (hh : hi.natAbs ≤ 2 ^ 53) (hk' : k ≤ 2044) : DB k lo hi (FP.ddiv a b) := by
  have p2 := pw_pos k2
  have e : ∀ x : Int, x * ((2 ^ k : Nat) : Int) * zv b = x * j * ((2 ^ (k1 + 1074) : Nat) : Int) := fun x => by
    rw [hb.eq, hk, pw_add]
    simp only [Int.mul_assoc, Int.mul_left_comm]
  have e2 : zv a * ((2 ^ 1074 : Nat) : Int) = i * ((2 ^ (k1 + 1074) : Nat) : Int) := by rw [ha.eq, pw_add, Int.mul_assoc]
  refine div_z ha.1 hb.1 (by rw [hb.eq]; exact Int.mul_pos hj p2) ?_ ?_ hl hh hk'
  · rw [e, e2]; exact Int.mul_le_mul_of_nonneg_right hlo (Int.le_of_lt (pw_pos _))
  · rw [e, e2]; exact Int.mul_le_mul_of_nonneg_right hhi (Int.le_of_lt (pw_pos _))
theorem div_e {a b : UInt64} {k k1 k2 : Nat} {i j n : Int} (ha : DE k1 i a) (hb : DE k2 j b) (hj : 0 < j) (hk : k1 + 1074 = k + k2) (hn : n * j = i) (hh : n.natAbs ≤ 2 ^ 53) (hk' : k ≤ 2044) : DE k n (FP.ddiv a b) :=
  div_b ha hb hj hk (Int.le_of_eq hn) (Int.le_of_eq hn.symm) hh hh hk'
theorem add_e {a b : UInt64} {k : Nat} {i j n : Int} (ha : DE k i a) (hb : DE k j b) (hn : i + j = n) (hh : n.natAbs ≤ 2 ^ 53) (hk : k ≤ 2044) : DE k n (FP.dadd a b) := add_b ha hb (Int.le_of_eq hn.symm) (Int.le_of_eq hn) hh hh hk
theorem sub_e {a b : UInt64} {k : Nat} {i j n : Int} (ha : DE k i a) (hb : DE k j b) (hn : i - j = n) (hh : n.natAbs ≤ 2 ^ 53) (hk : k ≤ 2044) : DE k n (FP.dsub a b) := sub_b ha hb (Int.le_of_eq hn.symm) (Int.le_of_eq hn) hh hh hk
theorem i2d_e (x : Int32) : DE 1074 x.toInt (FP.i2d x) := DE.of (Core.i2d_fin x) (DInt_zval (i2d_int x))
theorem l2d_e {x : Int64} (h : x.toInt.natAbs ≤ 2 ^ 53) : DE 1074 x.toInt (FP.l2d x) := DE.of (Core.l2d_fin x) (DInt_zval (l2d_int h))
theorem zero_e (k : Nat) : DE k 0 FP.dconst0 := DE.of ⟨_, _, _, rfl⟩ (by rw [Int.zero_mul]; exact zval64_zero)
/-- in smaller units -/
theorem DB.down {a : UInt64} {k : Nat} {lo hi : Int} (h : DB k lo hi a) {k' n : Nat} (hk : k = k' + n) : DB k' (lo * ((2 ^ n : Nat) : Int)) (hi * ((2 ^ n : Nat) : Int)) a := by
  subst hk
  refine ⟨h.1, ?_, ?_⟩
  · have := h.2.1; rw [Nat.add_comm, pw_add, ← Int.mul_assoc] at this; exact this
  · have := h.2.2; rw [Nat.add_comm, pw_add, ← Int.mul_assoc] at this; exact this
/-- the quotient from below alone -/
theorem div_ge {a b : UInt64} {k k1 k2 : Nat} {i j lo : Int} (ha : DE k1 i a) (hb : DE k2 j b) (hj : 0 < j) (hk : k1 + 1074 = k + k2) (hlo : lo * j ≤ i) (hl : lo.natAbs ≤ 2 ^ 53) (hk' : k ≤ 2044) : lo * ((2 ^ k : Nat) : Int) ≤ zv (FP.ddiv a b) := by
  have p2 := pw_pos k2
  have e : ∀ x : Int, x * ((2 ^ k : Nat) : Int) * zv b = x * j * ((2 ^ (k1 + 1074) : Nat) : Int) := fun x => by
    rw [hb.eq, hk, pw_add]
    simp only [Int.mul_assoc, Int.mul_left_comm]
  have e2 : zv a * ((2 ^ 1074 : Nat) : Int) = i * ((2 ^ (k1 + 1074) : Nat) : Int) := by rw [ha.eq, pw_add, Int.mul_assoc]
  refine (div_zz ha.1 hb.1 (by rw [hb.eq]; exact Int.mul_pos hj p2)).2.1 hl hk' ?_
  rw [e, e2]; exact Int.mul_le_mul_of_nonneg_right hlo (Int.le_of_lt (pw_pos _))
/-- in greater units -/
theorem DB.up {a : UInt64} {k : Nat} {lo hi : Int} {n : Nat} (h : DB k (lo * ((2 ^ n : Nat) : Int)) (hi * ((2 ^ n : Nat) : Int)) a) : DB (k + n) lo hi a := by
  refine ⟨h.1, ?_, ?_⟩
  · have := h.2.1; rw [Int.mul_assoc, ← pw_add, Nat.add_comm] at this; exact this
  · have := h.2.2; rw [Int.mul_assoc, ← pw_add, Nat.add_comm] at this; exact this
/-- the product of two known numbers, between two that lie on a grid 2^g times as coarse -/
theorem mul_g {a b : UInt64} {k k1 k2 g : Nat} {i j lo hi : Int} (ha : DE k1 i a) (hb : DE k2 j b) (hk : k1 + k2 + g = k + 1074) (hlo : lo * ((2 ^ g : Nat) : Int) ≤ i * j) (hhi : i * j ≤ hi * ((2 ^ g : Nat) : Int)) (hl : lo.natAbs ≤ 2 ^ 53) (hh : hi.natAbs ≤ 2 ^ 53) (hk' : k ≤ 2044) : DB k lo hi (FP.dmul a b) := by
  have e : zv a * zv b = i * j * ((2 ^ (k1 + k2) : Nat) : Int) := by
    rw [ha.eq, hb.eq, pw_add]
    simp only [Int.mul_assoc, Int.mul_left_comm]
  have e2 : ∀ x : Int, x * ((2 ^ k : Nat) : Int) * ((2 ^ 1074 : Nat) : Int) = x * ((2 ^ g : Nat) : Int) * ((2 ^ (k1 + k2) : Nat) : Int) := fun x => by
    rw [Int.mul_assoc, ← pw_add, ← hk, Nat.add_comm, pw_add, ← Int.mul_assoc]
  refine mul_z ha.1 hb.1 ?_ ?_ hl hh hk'
  · rw [e, e2]; exact Int.mul_le_mul_of_nonneg_right hlo (Int.le_of_lt (pw_pos _))
  · rw [e, e2]; exact Int.mul_le_mul_of_nonneg_right hhi (Int.le_of_lt (pw_pos _))
theorem DB.wide {a : UInt64} {k : Nat} {lo hi lo' hi' : Int} (h : DB k lo hi a) (h1 : lo' ≤ lo) (h2 : hi ≤ hi') : DB k lo' hi' a :=
  ⟨h.1, Int.le_trans (Int.mul_le_mul_of_nonneg_right h1 (Int.le_of_lt (pw_pos k))) h.2.1, Int.le_trans h.2.2 (Int.mul_le_mul_of_nonneg_right h2 (Int.le_of_lt (pw_pos k)))⟩
theorem DE.cmp {a b : UInt64} {k : Nat} {i j : Int} (ha : DE k i a) (hb : DE k j b) : FP.dcmp a b = some (compare i j) := by
  rw [show FP.dcmp a b = some (compare (zv a) (zv b)) from dcmp_zval ha.ne hb.ne, ha.eq, hb.eq, compare_mul_pos _ _ _ (pw_pos k)]
theorem DB.lt {a b : UInt64} {k : Nat} {l1 h1 l2 h2 : Int} (ha : DB k l1 h1 a) (hb : DB k l2 h2 b) (h : h1 < l2) : FP.dcmp a b = some .lt := by
  rw [show FP.dcmp a b = some (compare (zv a) (zv b)) from dcmp_zval ha.ne hb.ne]
  congr 1
  rw [compare_lt_iff]
  have := Int.mul_lt_mul_of_pos_right h (pw_pos k)
  have := ha.2.2; have := hb.2.1
  omega
theorem DB.gt {a b : UInt64} {k : Nat} {l1 h1 l2 h2 : Int} (ha : DB k l1 h1 a) (hb : DB k l2 h2 b) (h : h2 < l1) : FP.dcmp a b = some .gt := by
  rw [show FP.dcmp a b = some (compare (zv a) (zv b)) from dcmp_zval ha.ne hb.ne]
  congr 1
  rw [compare_gt_iff]
  have := Int.mul_lt_mul_of_pos_right h (pw_pos k)
  have := ha.2.1; have := hb.2.2
  omega
/-- two doubles of one value that isn't nought are one -/
theorem DE.uniq {a b : UInt64} {k : Nat} {i : Int} (ha : DE k i a) (hb : DE k i b) (hi : i ≠ 0) : a = b := by
  have h1 := dcmp_key ha.ne hb.ne
  rw [dcmp_zval ha.ne hb.ne] at h1
  have e : zval b64 (val64 a) = zval b64 (val64 b) := (ha.eq).trans hb.eq.symm
  have h2 := Option.some.inj h1
  rw [(compare_eq_iff _ _).mpr e] at h2
  have h3 := (compare_eq_iff _ _).mp h2.symm
  have nz : ∀ {c : UInt64}, DE k i c → dkey c ≠ 0 := fun {c} hc h0 => by
    have q := dcmp_key hc.ne (b := 0) (by rw [val64_zero]; simp)
    rw [dcmp_zval hc.ne (by rw [val64_zero]; simp), zval64_zero] at q
    have q2 := Option.some.inj q
    have z : dkey 0 = 0 := by decide
    rw [h0, z, (compare_eq_iff (0 : Int) 0).mpr rfl] at q2
    have q3 := (compare_eq_iff _ _).mp q2
    have q4 : zv c = 0 := q3
    rw [hc.eq] at q4
    rcases Int.mul_eq_zero.mp q4 with q5 | q5
    · exact hi q5
    · have := pw_pos k; omega
  have n1 := nz ha
  have n2 := nz hb
  unfold dkey at h3 n1 n2
  apply UInt64.toNat_inj.mp
  have l1 := a.toNat_lt; have l2 := b.toNat_lt
  split at h3 <;> split at h3 <;> simp_all <;> omega
end Jvm.Pilot.@@N@@.Own
namespace Jvm.Pilot.@@N@@.Own
open Jvm Jvm.ClassFile Sem Op Lib Jvm.Free Jvm.Stand Jvm.LawKit Jvm.RoadKit
theorem i2l_v {tb : Tables} [Ours tb] {e : Env} {below : List Frame} {T target : State} {m : MethodId} {c : Code} {g : JFrame} (h : At T m c below) (hx : tb.exec = Jvm.exec) (hg : g.method = m) {x : Int32} {v : Int64} {rest : List Value} (hd : decode c.code g.pc = .ok (.i2l, 1)) (hs : g.stack = .int x :: rest) (hv : x.toInt64 = v)
    (hr : Steps tb e below (T.setTop { g with pc := g.pc + 1, stack := .long v :: rest }) target) : Steps tb e below (T.setTop g) target := by subst hv; exact XS.i2l h hx hg hd hs hr
theorem iushr_v {tb : Tables} [Ours tb] {e : Env} {below : List Frame} {T target : State} {m : MethodId} {c : Code} {g : JFrame} (h : At T m c below) (hx : tb.exec = Jvm.exec) (hg : g.method = m) {x : Int32} {y : Int32} {v : Int32} {rest : List Value} (hd : decode c.code g.pc = .ok (.iushr, 1)) (hs : g.stack = .int y :: .int x :: rest) (hv : ((x.toUInt32 >>> (y &&& 31).toUInt32).toInt32) = v)
    (hr : Steps tb e below (T.setTop { g with pc := g.pc + 1, stack := .int v :: rest }) target) : Steps tb e below (T.setTop g) target := by subst hv; exact XS.iushr h hx hg hd hs hr
theorem iand_v {tb : Tables} [Ours tb] {e : Env} {below : List Frame} {T target : State} {m : MethodId} {c : Code} {g : JFrame} (h : At T m c below) (hx : tb.exec = Jvm.exec) (hg : g.method = m) {x : Int32} {y : Int32} {v : Int32} {rest : List Value} (hd : decode c.code g.pc = .ok (.iand, 1)) (hs : g.stack = .int y :: .int x :: rest) (hv : x &&& y = v)
    (hr : Steps tb e below (T.setTop { g with pc := g.pc + 1, stack := .int v :: rest }) target) : Steps tb e below (T.setTop g) target := by subst hv; exact XS.iand h hx hg hd hs hr
theorem lsub_v {tb : Tables} [Ours tb] {e : Env} {below : List Frame} {T target : State} {m : MethodId} {c : Code} {g : JFrame} (h : At T m c below) (hx : tb.exec = Jvm.exec) (hg : g.method = m) {x : Int64} {y : Int64} {v : Int64} {rest : List Value} (hd : decode c.code g.pc = .ok (.lsub, 1)) (hs : g.stack = .long y :: .long x :: rest) (hv : x - y = v)
    (hr : Steps tb e below (T.setTop { g with pc := g.pc + 1, stack := .long v :: rest }) target) : Steps tb e below (T.setTop g) target := by subst hv; exact XS.lsub h hx hg hd hs hr
theorem irem_v {tb : Tables} [Ours tb] {e : Env} {below : List Frame} {T target : State} {m : MethodId} {c : Code} {g : JFrame} (h : At T m c below) (hx : tb.exec = Jvm.exec) (hg : g.method = m) {x : Int32} {y : Int32} {v : Int32} {rest : List Value} (hd : decode c.code g.pc = .ok (.irem, 1)) (hs : g.stack = .int y :: .int x :: rest) (hy : ¬ y = 0) (hv : x % y = v)
    (hr : Steps tb e below (T.setTop { g with pc := g.pc + 1, stack := .int v :: rest }) target) : Steps tb e below (T.setTop g) target := by subst hv; exact XS.irem h hx hg hd hs hy (by rw [irem_eq_mod]; exact hr)
theorem ladd_v {tb : Tables} [Ours tb] {e : Env} {below : List Frame} {T target : State} {m : MethodId} {c : Code} {g : JFrame} (h : At T m c below) (hx : tb.exec = Jvm.exec) (hg : g.method = m) {x : Int64} {y : Int64} {v : Int64} {rest : List Value} (hd : decode c.code g.pc = .ok (.ladd, 1)) (hs : g.stack = .long y :: .long x :: rest) (hv : x + y = v)
    (hr : Steps tb e below (T.setTop { g with pc := g.pc + 1, stack := .long v :: rest }) target) : Steps tb e below (T.setTop g) target := by subst hv; exact XS.ladd h hx hg hd hs hr
end Jvm.Pilot.@@N@@.Own
namespace Jvm.Pilot.@@N@@.Own
open Jvm Jvm.FP Jvm.FP.Core
theorem same_cmp {a : UInt64} (h : val64 a ≠ .nan) : FP.dcmp a a = some (compare (dkey a) (dkey a)) := dcmp_key h h
/-- a true fraction of small whole numbers lies strictly between 0 and 1 -/
theorem frac {a b : UInt64} {i j : Int} (ha : DE 1074 i a) (hb : DE 1074 j b) (h1 : 0 < i) (h2 : i < j) (h3 : j ≤ 17179869184) : DB 1040 1 17179869183 (FP.ddiv a b) := by
  have ha' := ha.down (k' := 1040) (n := 34) rfl
  have e : ((2 ^ 34 : Nat) : Int) = 17179869184 := by decide
  rw [e] at ha'
  exact div_b (k := 1040) (k1 := 1040) (k2 := 1074) ha' hb (by omega) rfl (by omega) (by omega) (by decide) (by decide) (by decide)
theorem one_1040 : DE 1040 17179869184 FP.dconst1 := DE.of ⟨_, _, _, rfl⟩ (by decide +kernel)
theorem one_1074 : DE 1074 1 FP.dconst1 := DE.of ⟨_, _, _, rfl⟩ (by decide +kernel)
end Jvm.Pilot.@@N@@.Own
namespace Jvm.Pilot.@@N@@
open Jvm Jvm.ClassFile Sem Op Lib Jvm.Free Jvm.Stand Jvm.LawKit Jvm.RoadKit Bundle Jvm.Pilot.@@N@@.Jvm.D Jvm.Pilot.@@N@@.Own
theorem pd_0 : parseMethodDescriptor "()V" = some ⟨[], none⟩ := by decide +kernel
theorem pd_1 : parseMethodDescriptor "(Ljava/lang/String;DDD)V" = some ⟨[(.object "java/lang/String"), .double, .double, .double], none⟩ := by decide +kernel
theorem pd_2 : parseMethodDescriptor "(D)D" = some ⟨[.double], some .double⟩ := by decide +kernel
theorem pd_3 : parseMethodDescriptor "(JJ)J" = some ⟨[.long, .long], some .long⟩ := by decide +kernel
theorem d1_0 : decode jdk_30_method_1_code 0 = .ok (.aload_n 0, 1) := by decide +kernel
theorem d1_1 : decode jdk_30_method_1_code 1 = .ok (.invokespecial 1, 3) := by decide +kernel
theorem d1_4 : decode jdk_30_method_1_code 4 = .ok (.return_, 1) := by decide +kernel
theorem pn_1 : plainName "java/lang/Record" = true := by first | (simp [plainName, overriddenIn]; done) | decide +kernel
theorem ef_1 (m : MethodId) (x0 : Addr) : entryFrame m #[(.ref x0)] 1 = mkF m 0 #[.val (.ref x0)] [] := by first | (simp [entryFrame, mkF, argsToLocals, Value.category]; done) | rfl
def Q1 (Z : State) (a : Addr) (h0 : Heap) (n0 : Nat) (v : Option Value) (h : Heap) (L : List Loc) : Prop := v = none ∧ Fr n0 L ∧ h = h0
set_option maxRecDepth 65536 in
set_option maxHeartbeats 40000000 in
theorem rm1 (l : Launch) (Z : State) (a0 : Array Value) (hw : ∀ d ∈ tables_1, d.before a0 Z = true) (ws : List Jvm.Cond) (a : Addr) (h0 : Heap) (n0 : Nat) (Z0 : n0 ≤ h0.size) :
    MetFree l (⟨"java/lang/Record", "<init>", "()V"⟩ : MethodName) (head1 (Jvm.Cond.code (⟨"java/lang/Record", "<init>", "()V"⟩ : MethodName) jdk_30_method_1_code 1 none :: ws) ({ frames := 1, cells := 0, slots := 0, locals := 12 } : Room)) (fun a_ U => a_ = #[(.ref a)] ∧ Z.Warmed39 U.vm ∧ U.heap = h0) (fun _ _ _ _ _ => True) (fun _ U o U' => ∃ v L, o = .returned v ∧ Q1 Z a h0 n0 v U'.heap L ∧ FrameEnd U o U' L (({ frames := 1, cells := 0, slots := 0, locals := 12 } : Room)).cells (({ frames := 1, cells := 0, slots := 0, locals := 12 } : Room)).slots) := by
  refine MetFree.of_bodySF (plainFor_of_name pn_1) hisR ?_
  intro p e s m args below meth c s₁ Bd hml0 hP0 hK
  obtain ⟨rfl, hZ, hh⟩ := hP0
  have hx := Bd.exec
  have hby := Bd.bytes
  have hml : c.maxLocals = 1 := hml0
  have hown : s.vm.findClass "java/lang/Record" = some m.cls := findClass_of_methodNamed Bd.named
  have hnm := (name_of_methodNamed Bd.named Bd.method).1
  have X0 : Stand p l e ({ frames := 1, cells := 0, slots := 0, locals := 12 } : Room) s m #[(.ref a)] below meth c s₁ [] 0 0 := Stand.of_body Bd
  have e0 : s₁.heap = h0 := by rw [← hh, Bd.state]; rfl
  have N0 := Fr.nil n0
  have hlk : meth.locks = false := BodyLoose.notSynchronized Bd
  refine Go.start (P₀ := fun s₂ o => ∃ v L, o = .returned v ∧ Q1 Z a h0 n0 v s₂.heap L ∧ FrameEnd s o s₂ L (({ frames := 1, cells := 0, slots := 0, locals := 12 } : Room)).cells (({ frames := 1, cells := 0, slots := 0, locals := 12 } : Room)).slots) (congrArg s₁.setTop (ef_1 m a)) ?_
  intro P hP
  show Go p.tables e below P (s₁.setTop (mkF m 0 #[.val (.ref a)] []))
  refine Go.step (fun t k => XS.aloadN X0.here hx rfl (hb hby d1_0) rfl rfl k) ?_
  show Go p.tables e below P (s₁.setTop (mkF m 1 #[.val (.ref a)] [(.ref a)]))
  obtain ⟨T_1, X_1, e_1, st_1⟩ := initO X0 hx hZ hown (hw _ (List.mem_of_getElem? (i := 19) rfl)) (hw _ (List.mem_of_getElem? (i := 20) rfl)) (hw _ (List.mem_of_getElem? (i := 21) rfl)) e0 (g := (mkF m 1 #[.val (.ref a)] [(.ref a)])) rfl (by rw [hml]; rfl) rfl (hb hby d1_1) (by decide) (W := 0) (by show 2 * 0 + _ ≤ _; exact Nat.le_of_eq rfl) (by decide)
  refine Go.step (fun t k => st_1 t k) ?_
  show Go p.tables e below P (T_1.setTop (mkF m 4 #[.val (.ref a)] []))
  exact voidGo X_1 hx hP Bd.returns hlk (hb hby d1_4) (by decide) (by decide) (by rw [e_1]; exact ⟨rfl, N0, rfl⟩)
theorem d2_0 : decode jdk_29_method_70_code 0 = .ok (.lload_n 0, 1) := by decide +kernel
theorem d2_1 : decode jdk_29_method_70_code 1 = .ok (.lload_n 2, 1) := by decide +kernel
theorem d2_2 : decode jdk_29_method_70_code 2 = .ok (.lcmp, 1) := by decide +kernel
theorem d2_3 : decode jdk_29_method_70_code 3 = .ok (.ifCond .gt 7, 3) := by decide +kernel
theorem d2_6 : decode jdk_29_method_70_code 6 = .ok (.lload_n 0, 1) := by decide +kernel
theorem d2_7 : decode jdk_29_method_70_code 7 = .ok (.goto 4, 3) := by decide +kernel
theorem d2_10 : decode jdk_29_method_70_code 10 = .ok (.lload_n 2, 1) := by decide +kernel
theorem d2_11 : decode jdk_29_method_70_code 11 = .ok (.lreturn, 1) := by decide +kernel
theorem ef_2 (m : MethodId) (x0 : Int64) (x1 : Int64) : entryFrame m #[(.long x0), (.long x1)] 4 = mkF m 0 #[.val (.long x0), .second, .val (.long x1), .second] [] := by first | (simp [entryFrame, mkF, argsToLocals, Value.category]; done) | rfl
def Q2 (Z : State) (u1 : Int64) (u2 : Int64) (h0 : Heap) (n0 : Nat) (v : Option Value) (h : Heap) (L : List Loc) : Prop := ∃ r : Int64, v = some (.long r) ∧ r.toInt = min u1.toInt u2.toInt ∧ Fr n0 L ∧ h = h0
set_option maxRecDepth 65536 in
set_option maxHeartbeats 40000000 in
theorem rm2 (l : Launch) (Z : State) (a0 : Array Value) (hw : ∀ d ∈ tables_1, d.before a0 Z = true) (ws : List Jvm.Cond) (u1 : Int64) (u2 : Int64) (h0 : Heap) (n0 : Nat) (Z0 : n0 ≤ h0.size) :
    MetFree l (⟨"java/lang/Math", "min", "(JJ)J"⟩ : MethodName) (head1 (Jvm.Cond.code (⟨"java/lang/Math", "min", "(JJ)J"⟩ : MethodName) jdk_29_method_70_code 4 (some .long) :: ws) ({ frames := 0, cells := 0, slots := 0, locals := 0 } : Room)) (fun a_ U => a_ = #[(.long u1), (.long u2)] ∧ Z.Warmed39 U.vm ∧ U.heap = h0) (fun _ _ _ _ _ => True) (fun _ U o U' => ∃ v L, o = .returned v ∧ Q2 Z u1 u2 h0 n0 v U'.heap L ∧ FrameEnd U o U' L (({ frames := 0, cells := 0, slots := 0, locals := 0 } : Room)).cells (({ frames := 0, cells := 0, slots := 0, locals := 0 } : Room)).slots) := by
  refine MetFree.of_bodySF (Jvm.Free.JP.mathPlain rfl (by decide +kernel)) hisR ?_
  intro p e s m args below meth c s₁ Bd hml0 hP0 hK
  obtain ⟨rfl, hZ, hh⟩ := hP0
  have hx := Bd.exec
  have hby := Bd.bytes
  have hml : c.maxLocals = 4 := hml0
  have hown : s.vm.findClass "java/lang/Math" = some m.cls := findClass_of_methodNamed Bd.named
  have hnm := (name_of_methodNamed Bd.named Bd.method).1
  have X0 : Stand p l e ({ frames := 0, cells := 0, slots := 0, locals := 0 } : Room) s m #[(.long u1), (.long u2)] below meth c s₁ [] 0 0 := Stand.of_body Bd
  have e0 : s₁.heap = h0 := by rw [← hh, Bd.state]; rfl
  have N0 := Fr.nil n0
  have hlk : meth.locks = false := BodyLoose.notSynchronized Bd
  refine Go.start (P₀ := fun s₂ o => ∃ v L, o = .returned v ∧ Q2 Z u1 u2 h0 n0 v s₂.heap L ∧ FrameEnd s o s₂ L (({ frames := 0, cells := 0, slots := 0, locals := 0 } : Room)).cells (({ frames := 0, cells := 0, slots := 0, locals := 0 } : Room)).slots) (congrArg s₁.setTop (ef_2 m u1 u2)) ?_
  intro P hP
  show Go p.tables e below P (s₁.setTop (mkF m 0 #[.val (.long u1), .second, .val (.long u2), .second] []))
  refine Go.step (fun t k => XS.lloadN X0.here hx rfl (hb hby d2_0) rfl  k) ?_
  show Go p.tables e below P (s₁.setTop (mkF m 1 #[.val (.long u1), .second, .val (.long u2), .second] [(.long u1)]))
  refine Go.step (fun t k => XS.lloadN X0.here hx rfl (hb hby d2_1) rfl  k) ?_
  show Go p.tables e below P (s₁.setTop (mkF m 2 #[.val (.long u1), .second, .val (.long u2), .second] [(.long u2), (.long u1)]))
  refine Go.step (fun t k => XS.lcmp X0.here hx rfl (hb hby d2_2) rfl k) ?_
  show Go p.tables e below P (s₁.setTop (mkF m 3 #[.val (.long u1), .second, .val (.long u2), .second] [(.int (lcmpW u1 u2))]))
  by_cases hc3 : u2.toInt < u1.toInt
  · refine Go.step (fun t k => XS.ifYes X0.here hx rfl (pc0 := 3) (pc' := 10) rfl (hb hby d2_3) rfl (lcY (cd := .gt) hc3) (by decide) (by decide) k) ?_
    show Go p.tables e below P (s₁.setTop (mkF m 10 #[.val (.long u1), .second, .val (.long u2), .second] []))
    refine Go.step (fun t k => XS.lloadN X0.here hx rfl (hb hby d2_10) rfl  k) ?_
    show Go p.tables e below P (s₁.setTop (mkF m 11 #[.val (.long u1), .second, .val (.long u2), .second] [(.long u2)]))
    exact retGo X0 hx hP Bd.returns hlk rfl (Or.inr (Or.inl ⟨rfl, rfl, _, rfl⟩)) (hb hby d2_11) (by decide) (by decide) (by rw [e0]; exact ⟨u2, rfl, by omega, N0, rfl⟩)
  · refine Go.step (fun t k => XS.ifNo X0.here hx rfl (hb hby d2_3) rfl (lcN (cd := .gt) hc3) k) ?_
    show Go p.tables e below P (s₁.setTop (mkF m 6 #[.val (.long u1), .second, .val (.long u2), .second] []))
    refine Go.step (fun t k => XS.lloadN X0.here hx rfl (hb hby d2_6) rfl  k) ?_
    show Go p.tables e below P (s₁.setTop (mkF m 7 #[.val (.long u1), .second, .val (.long u2), .second] [(.long u1)]))
    refine Go.step (fun t k => XS.goto X0.here hx rfl (pc0 := 7) (pc' := 11) rfl (hb hby d2_7) (by decide) (by decide) k) ?_
    show Go p.tables e below P (s₁.setTop (mkF m 11 #[.val (.long u1), .second, .val (.long u2), .second] [(.long u1)]))
    exact retGo X0 hx hP Bd.returns hlk rfl (Or.inr (Or.inl ⟨rfl, rfl, _, rfl⟩)) (hb hby d2_11) (by decide) (by decide) (by rw [e0]; exact ⟨u1, rfl, by omega, N0, rfl⟩)
theorem d3_0 : decode jdk_29_method_66_code 0 = .ok (.lload_n 0, 1) := by decide +kernel
theorem d3_1 : decode jdk_29_method_66_code 1 = .ok (.lload_n 2, 1) := by decide +kernel
theorem d3_2 : decode jdk_29_method_66_code 2 = .ok (.lcmp, 1) := by decide +kernel
theorem d3_3 : decode jdk_29_method_66_code 3 = .ok (.ifCond .lt 7, 3) := by decide +kernel
theorem d3_6 : decode jdk_29_method_66_code 6 = .ok (.lload_n 0, 1) := by decide +kernel
theorem d3_7 : decode jdk_29_method_66_code 7 = .ok (.goto 4, 3) := by decide +kernel
theorem d3_10 : decode jdk_29_method_66_code 10 = .ok (.lload_n 2, 1) := by decide +kernel
theorem d3_11 : decode jdk_29_method_66_code 11 = .ok (.lreturn, 1) := by decide +kernel
theorem ef_3 (m : MethodId) (x0 : Int64) (x1 : Int64) : entryFrame m #[(.long x0), (.long x1)] 4 = mkF m 0 #[.val (.long x0), .second, .val (.long x1), .second] [] := by first | (simp [entryFrame, mkF, argsToLocals, Value.category]; done) | rfl
def Q3 (Z : State) (u1 : Int64) (u2 : Int64) (h0 : Heap) (n0 : Nat) (v : Option Value) (h : Heap) (L : List Loc) : Prop := ∃ r : Int64, v = some (.long r) ∧ r.toInt = max u1.toInt u2.toInt ∧ Fr n0 L ∧ h = h0
set_option maxRecDepth 65536 in
set_option maxHeartbeats 40000000 in
theorem rm3 (l : Launch) (Z : State) (a0 : Array Value) (hw : ∀ d ∈ tables_1, d.before a0 Z = true) (ws : List Jvm.Cond) (u1 : Int64) (u2 : Int64) (h0 : Heap) (n0 : Nat) (Z0 : n0 ≤ h0.size) :
    MetFree l (⟨"java/lang/Math", "max", "(JJ)J"⟩ : MethodName) (head1 (Jvm.Cond.code (⟨"java/lang/Math", "max", "(JJ)J"⟩ : MethodName) jdk_29_method_66_code 4 (some .long) :: ws) ({ frames := 0, cells := 0, slots := 0, locals := 0 } : Room)) (fun a_ U => a_ = #[(.long u1), (.long u2)] ∧ Z.Warmed39 U.vm ∧ U.heap = h0) (fun _ _ _ _ _ => True) (fun _ U o U' => ∃ v L, o = .returned v ∧ Q3 Z u1 u2 h0 n0 v U'.heap L ∧ FrameEnd U o U' L (({ frames := 0, cells := 0, slots := 0, locals := 0 } : Room)).cells (({ frames := 0, cells := 0, slots := 0, locals := 0 } : Room)).slots) := by
  refine MetFree.of_bodySF (Jvm.Free.JP.mathPlain rfl (by decide +kernel)) hisR ?_
  intro p e s m args below meth c s₁ Bd hml0 hP0 hK
  obtain ⟨rfl, hZ, hh⟩ := hP0
  have hx := Bd.exec
  have hby := Bd.bytes
  have hml : c.maxLocals = 4 := hml0
  have hown : s.vm.findClass "java/lang/Math" = some m.cls := findClass_of_methodNamed Bd.named
  have hnm := (name_of_methodNamed Bd.named Bd.method).1
  have X0 : Stand p l e ({ frames := 0, cells := 0, slots := 0, locals := 0 } : Room) s m #[(.long u1), (.long u2)] below meth c s₁ [] 0 0 := Stand.of_body Bd
  have e0 : s₁.heap = h0 := by rw [← hh, Bd.state]; rfl
  have N0 := Fr.nil n0
  have hlk : meth.locks = false := BodyLoose.notSynchronized Bd
  refine Go.start (P₀ := fun s₂ o => ∃ v L, o = .returned v ∧ Q3 Z u1 u2 h0 n0 v s₂.heap L ∧ FrameEnd s o s₂ L (({ frames := 0, cells := 0, slots := 0, locals := 0 } : Room)).cells (({ frames := 0, cells := 0, slots := 0, locals := 0 } : Room)).slots) (congrArg s₁.setTop (ef_3 m u1 u2)) ?_
  intro P hP
  show Go p.tables e below P (s₁.setTop (mkF m 0 #[.val (.long u1), .second, .val (.long u2), .second] []))
  refine Go.step (fun t k => XS.lloadN X0.here hx rfl (hb hby d3_0) rfl  k) ?_
  show Go p.tables e below P (s₁.setTop (mkF m 1 #[.val (.long u1), .second, .val (.long u2), .second] [(.long u1)]))
  refine Go.step (fun t k => XS.lloadN X0.here hx rfl (hb hby d3_1) rfl  k) ?_
  show Go p.tables e below P (s₁.setTop (mkF m 2 #[.val (.long u1), .second, .val (.long u2), .second] [(.long u2), (.long u1)]))
  refine Go.step (fun t k => XS.lcmp X0.here hx rfl (hb hby d3_2) rfl k) ?_
  show Go p.tables e below P (s₁.setTop (mkF m 3 #[.val (.long u1), .second, .val (.long u2), .second] [(.int (lcmpW u1 u2))]))
  by_cases hc3 : u1.toInt < u2.toInt
  · refine Go.step (fun t k => XS.ifYes X0.here hx rfl (pc0 := 3) (pc' := 10) rfl (hb hby d3_3) rfl (lcY (cd := .lt) hc3) (by decide) (by decide) k) ?_
    show Go p.tables e below P (s₁.setTop (mkF m 10 #[.val (.long u1), .second, .val (.long u2), .second] []))
    refine Go.step (fun t k => XS.lloadN X0.here hx rfl (hb hby d3_10) rfl  k) ?_
    show Go p.tables e below P (s₁.setTop (mkF m 11 #[.val (.long u1), .second, .val (.long u2), .second] [(.long u2)]))
    exact retGo X0 hx hP Bd.returns hlk rfl (Or.inr (Or.inl ⟨rfl, rfl, _, rfl⟩)) (hb hby d3_11) (by decide) (by decide) (by rw [e0]; exact ⟨u2, rfl, by omega, N0, rfl⟩)
  · refine Go.step (fun t k => XS.ifNo X0.here hx rfl (hb hby d3_3) rfl (lcN (cd := .lt) hc3) k) ?_
    show Go p.tables e below P (s₁.setTop (mkF m 6 #[.val (.long u1), .second, .val (.long u2), .second] []))
    refine Go.step (fun t k => XS.lloadN X0.here hx rfl (hb hby d3_6) rfl  k) ?_
    show Go p.tables e below P (s₁.setTop (mkF m 7 #[.val (.long u1), .second, .val (.long u2), .second] [(.long u1)]))
    refine Go.step (fun t k => XS.goto X0.here hx rfl (pc0 := 7) (pc' := 11) rfl (hb hby d3_7) (by decide) (by decide) k) ?_
    show Go p.tables e below P (s₁.setTop (mkF m 11 #[.val (.long u1), .second, .val (.long u2), .second] [(.long u1)]))
    exact retGo X0 hx hP Bd.returns hlk rfl (Or.inr (Or.inl ⟨rfl, rfl, _, rfl⟩)) (hb hby d3_11) (by decide) (by decide) (by rw [e0]; exact ⟨u1, rfl, by omega, N0, rfl⟩)
theorem d4_0 : decode prog_17_method_1_code 0 = .ok (.aload_n 0, 1) := by decide +kernel
theorem d4_1 : decode prog_17_method_1_code 1 = .ok (.invokespecial 1, 3) := by decide +kernel
theorem d4_4 : decode prog_17_method_1_code 4 = .ok (.aload_n 0, 1) := by decide +kernel
theorem d4_5 : decode prog_17_method_1_code 5 = .ok (.aload_n 1, 1) := by decide +kernel
theorem d4_6 : decode prog_17_method_1_code 6 = .ok (.putfield 7, 3) := by decide +kernel
theorem d4_9 : decode prog_17_method_1_code 9 = .ok (.aload_n 0, 1) := by decide +kernel
theorem d4_10 : decode prog_17_method_1_code 10 = .ok (.dload_n 2, 1) := by decide +kernel
theorem d4_11 : decode prog_17_method_1_code 11 = .ok (.putfield 13, 3) := by decide +kernel
theorem d4_14 : decode prog_17_method_1_code 14 = .ok (.aload_n 0, 1) := by decide +kernel
theorem d4_15 : decode prog_17_method_1_code 15 = .ok (.dload 4, 2) := by decide +kernel
theorem d4_17 : decode prog_17_method_1_code 17 = .ok (.putfield 17, 3) := by decide +kernel
theorem d4_20 : decode prog_17_method_1_code 20 = .ok (.aload_n 0, 1) := by decide +kernel
theorem d4_21 : decode prog_17_method_1_code 21 = .ok (.dload 6, 2) := by decide +kernel
theorem d4_23 : decode prog_17_method_1_code 23 = .ok (.putfield 20, 3) := by decide +kernel
theorem d4_26 : decode prog_17_method_1_code 26 = .ok (.return_, 1) := by decide +kernel
theorem pn_4 : plainName "com/example/orabona/orabona/model/FuzzySet$Triangular" = true := by first | (simp [plainName, overriddenIn]; done) | decide +kernel
theorem ef_4 (m : MethodId) (x0 : Addr) (x1 : Addr) (x2 : UInt64) (x3 : UInt64) (x4 : UInt64) : entryFrame m #[(.ref x0), (.ref x1), (.double x2), (.double x3), (.double x4)] 8 = mkF m 0 #[.val (.ref x0), .val (.ref x1), .val (.double x2), .second, .val (.double x3), .second, .val (.double x4), .second] [] := by first | (simp [entryFrame, mkF, argsToLocals, Value.category]; done) | rfl
def Q4 (Z : State) (a : Addr) (nm1 : Addr) (ba : UInt64) (bb : UInt64) (bc : UInt64) (h0 : Heap) (n0 : Nat) (v : Option Value) (h : Heap) (L : List Loc) : Prop := v = none ∧ Fr n0 L ∧ Keep h0 h [a] ∧ Exa Z h a "com/example/orabona/orabona/model/FuzzySet$Triangular" ∧ Fld Z h a "com/example/orabona/orabona/model/FuzzySet$Triangular" "name" "Ljava/lang/String;" (.ref nm1) ∧ Fld Z h a "com/example/orabona/orabona/model/FuzzySet$Triangular" "a" "D" (.double ba) ∧ Fld Z h a "com/example/orabona/orabona/model/FuzzySet$Triangular" "b" "D" (.double bb) ∧ Fld Z h a "com/example/orabona/orabona/model/FuzzySet$Triangular" "c" "D" (.double bc)
set_option maxRecDepth 65536 in
set_option maxHeartbeats 40000000 in
theorem rm4 (l : Launch) (Z : State) (a0 : Array Value) (hw : ∀ d ∈ tables_1, d.before a0 Z = true) (ws : List Jvm.Cond) (a : Addr) (nm1 : Addr) (ba : UInt64) (bb : UInt64) (bc : UInt64) (h0 : Heap) (n0 : Nat) (Z0 : n0 ≤ h0.size) (E_a : Exa Z h0 a "com/example/orabona/orabona/model/FuzzySet$Triangular") (F0 : Fld Z h0 a "com/example/orabona/orabona/model/FuzzySet$Triangular" "name" "Ljava/lang/String;" .null) (F1 : Fld Z h0 a "com/example/orabona/orabona/model/FuzzySet$Triangular" "a" "D" (.double (0 : UInt64))) (F2 : Fld Z h0 a "com/example/orabona/orabona/model/FuzzySet$Triangular" "b" "D" (.double (0 : UInt64))) (F3 : Fld Z h0 a "com/example/orabona/orabona/model/FuzzySet$Triangular" "c" "D" (.double (0 : UInt64))) (g_a : n0 ≤ a) :
    MetFree l (⟨"com/example/orabona/orabona/model/FuzzySet$Triangular", "<init>", "(Ljava/lang/String;DDD)V"⟩ : MethodName) (head1 (Jvm.Cond.code (⟨"com/example/orabona/orabona/model/FuzzySet$Triangular", "<init>", "(Ljava/lang/String;DDD)V"⟩ : MethodName) prog_17_method_1_code 8 none :: ws) ({ frames := 2, cells := 0, slots := 0, locals := 24 } : Room)) (fun a_ U => a_ = #[(.ref a), (.ref nm1), (.double ba), (.double bb), (.double bc)] ∧ Z.Warmed39 U.vm ∧ U.heap = h0) (fun _ _ _ _ _ => True) (fun _ U o U' => ∃ v L, o = .returned v ∧ Q4 Z a nm1 ba bb bc h0 n0 v U'.heap L ∧ FrameEnd U o U' L (({ frames := 2, cells := 0, slots := 0, locals := 24 } : Room)).cells (({ frames := 2, cells := 0, slots := 0, locals := 24 } : Room)).slots) := by
  refine MetFree.of_bodySF (plainFor_of_name pn_4) hisR ?_
  intro p e s m args below meth c s₁ Bd hml0 hP0 hK
  obtain ⟨rfl, hZ, hh⟩ := hP0
  have hx := Bd.exec
  have hby := Bd.bytes
  have hml : c.maxLocals = 8 := hml0
  have hown : s.vm.findClass "com/example/orabona/orabona/model/FuzzySet$Triangular" = some m.cls := findClass_of_methodNamed Bd.named
  have hnm := (name_of_methodNamed Bd.named Bd.method).1
  have X0 : Stand p l e ({ frames := 2, cells := 0, slots := 0, locals := 24 } : Room) s m #[(.ref a), (.ref nm1), (.double ba), (.double bb), (.double bc)] below meth c s₁ [] 0 0 := Stand.of_body Bd
  have e0 : s₁.heap = h0 := by rw [← hh, Bd.state]; rfl
  have N0 := Fr.nil n0
  have hlk : meth.locks = false := BodyLoose.notSynchronized Bd
  refine Go.start (P₀ := fun s₂ o => ∃ v L, o = .returned v ∧ Q4 Z a nm1 ba bb bc h0 n0 v s₂.heap L ∧ FrameEnd s o s₂ L (({ frames := 2, cells := 0, slots := 0, locals := 24 } : Room)).cells (({ frames := 2, cells := 0, slots := 0, locals := 24 } : Room)).slots) (congrArg s₁.setTop (ef_4 m a nm1 ba bb bc)) ?_
  intro P hP
  show Go p.tables e below P (s₁.setTop (mkF m 0 #[.val (.ref a), .val (.ref nm1), .val (.double ba), .second, .val (.double bb), .second, .val (.double bc), .second] []))
  refine Go.step (fun t k => XS.aloadN X0.here hx rfl (hb hby d4_0) rfl rfl k) ?_
  show Go p.tables e below P (s₁.setTop (mkF m 1 #[.val (.ref a), .val (.ref nm1), .val (.double ba), .second, .val (.double bb), .second, .val (.double bc), .second] [(.ref a)]))
  obtain ⟨_, _, ⟨T_1, L_1, k_1, n_1⟩, -, X_1, ⟨Lc_1, hQ_1, l_1, y_1, z_1⟩, st_1⟩ := X0.specialBack hx (y := (⟨"java/lang/Record", "<init>", "()V"⟩ : MethodName)) rfl hown (mvT hZ (hw _ (List.mem_of_getElem? (i := 14) rfl))) (mvT hZ (hw _ (List.mem_of_getElem? (i := 15) rfl))) (mvT hZ (hw _ (List.mem_of_getElem? (i := 18) rfl))) (by decide) (backOf (W := 0) (rm1 l Z a0 hw [] a h0 n0 Z0 ) hZ (hw _ (List.mem_of_getElem? (i := 18) rfl)) (hw _ (List.mem_of_getElem? (i := 17) rfl)) (by decide) (by decide)) (g := (mkF m 1 #[.val (.ref a), .val (.ref nm1), .val (.double ba), .second, .val (.double bb), .second, .val (.double bc), .second] [(.ref a)])) rfl (by rw [hml]; rfl) (Steps.refl _) (a := a) (argsL := []) (rest := []) (lenOf pd_0 rfl) rfl (by show 2 * 0 + _ ≤ _; exact Nat.le_of_eq rfl) (hb hby d4_1) (fun _ _ => ⟨rfl, e0, (by decide : 0 + 0 ≤ _), (by decide : 0 + 0 ≤ _)⟩)
  dsimp only [Pt.U, Pt.locs, Pt.cells, Pt.slots] at X_1 l_1 y_1 z_1 st_1 hQ_1
  subst l_1 y_1 z_1
  obtain ⟨rfl, N_1q, eh_1⟩ := hQ_1
  have N_1 := Fr.app N0 N_1q
  refine Go.tr st_1 ?_
  show Go p.tables e below P (T_1.setTop (mkF m 4 #[.val (.ref a), .val (.ref nm1), .val (.double ba), .second, .val (.double bb), .second, .val (.double bc), .second] []))
  refine Go.step (fun t k => XS.aloadN X_1.here hx rfl (hb hby d4_4) rfl rfl k) ?_
  show Go p.tables e below P (T_1.setTop (mkF m 5 #[.val (.ref a), .val (.ref nm1), .val (.double ba), .second, .val (.double bb), .second, .val (.double bc), .second] [(.ref a)]))
  refine Go.step (fun t k => XS.aloadN X_1.here hx rfl (hb hby d4_5) rfl rfl k) ?_
  show Go p.tables e below P (T_1.setTop (mkF m 6 #[.val (.ref a), .val (.ref nm1), .val (.double ba), .second, .val (.double bb), .second, .val (.double bc), .second] [(.ref nm1), (.ref a)]))
  obtain ⟨T_2, h_2, X_2, e_2, W_2, st_2⟩ := putF X_1 hx hZ hown (host := "") (Or.inl (hw _ (List.mem_of_getElem? (i := 22) rfl))) Via.refl eh_1 F0 E_a (Or.inr ⟨(hw _ (List.mem_of_getElem? (i := 23) rfl)), rfl, hnm⟩) (hw _ (List.mem_of_getElem? (i := 1) rfl)) (ty := (.object "java/lang/String")) (by decide) rfl rfl (g := (mkF m 6 #[.val (.ref a), .val (.ref nm1), .val (.double ba), .second, .val (.double bb), .second, .val (.double bc), .second] [(.ref nm1), (.ref a)])) rfl rfl (hb hby d4_6)
  have Fw_2 := F0.same W_2
  have N_2 := Fr.snoc X_2 N_1 g_a
  have K_2 : Keep h0 h_2 [a] := (Keep.refl h0 [a]).wr W_2 (Or.inl (List.mem_of_getElem? (i := 0) rfl))
  have Z_2 : n0 ≤ h_2.size := Nat.le_trans Z0 (Keep.of_wr W_2).1
  refine Go.step (fun t k => st_2 t k) ?_
  show Go p.tables e below P (T_2.setTop (mkF m 9 #[.val (.ref a), .val (.ref nm1), .val (.double ba), .second, .val (.double bb), .second, .val (.double bc), .second] []))
  refine Go.step (fun t k => XS.aloadN X_2.here hx rfl (hb hby d4_9) rfl rfl k) ?_
  show Go p.tables e below P (T_2.setTop (mkF m 10 #[.val (.ref a), .val (.ref nm1), .val (.double ba), .second, .val (.double bb), .second, .val (.double bc), .second] [(.ref a)]))
  refine Go.step (fun t k => XS.dloadN X_2.here hx rfl (hb hby d4_10) rfl  k) ?_
  show Go p.tables e below P (T_2.setTop (mkF m 11 #[.val (.ref a), .val (.ref nm1), .val (.double ba), .second, .val (.double bb), .second, .val (.double bc), .second] [(.double ba), (.ref a)]))
  obtain ⟨T_3, h_3, X_3, e_3, W_3, st_3⟩ := putF X_2 hx hZ hown (host := "") (Or.inl (hw _ (List.mem_of_getElem? (i := 24) rfl))) Via.refl e_2 (F1.other W_2 (Or.inr (slot_ne (Or.inr (hw _ (List.mem_of_getElem? (i := 25) rfl))) (Or.inr (hw _ (List.mem_of_getElem? (i := 23) rfl))) (by decide) (t := .double) (t' := (.object "java/lang/String")) (by decide) (by decide)))) (E_a.wr W_2) (Or.inr ⟨(hw _ (List.mem_of_getElem? (i := 25) rfl)), rfl, hnm⟩) (hw _ (List.mem_of_getElem? (i := 1) rfl)) (ty := .double) (by decide) rfl rfl (g := (mkF m 11 #[.val (.ref a), .val (.ref nm1), .val (.double ba), .second, .val (.double bb), .second, .val (.double bc), .second] [(.double ba), (.ref a)])) rfl rfl (hb hby d4_11)
  have Fw_3 := (F1.other W_2 (Or.inr (slot_ne (Or.inr (hw _ (List.mem_of_getElem? (i := 25) rfl))) (Or.inr (hw _ (List.mem_of_getElem? (i := 23) rfl))) (by decide) (t := .double) (t' := (.object "java/lang/String")) (by decide) (by decide)))).same W_3
  have N_3 := Fr.snoc X_3 N_2 g_a
  have K_3 : Keep h0 h_3 [a] := K_2.wr W_3 (Or.inl (List.mem_of_getElem? (i := 0) rfl))
  have Z_3 : n0 ≤ h_3.size := Nat.le_trans Z_2 (Keep.of_wr W_3).1
  refine Go.step (fun t k => st_3 t k) ?_
  show Go p.tables e below P (T_3.setTop (mkF m 14 #[.val (.ref a), .val (.ref nm1), .val (.double ba), .second, .val (.double bb), .second, .val (.double bc), .second] []))
  refine Go.step (fun t k => XS.aloadN X_3.here hx rfl (hb hby d4_14) rfl rfl k) ?_
  show Go p.tables e below P (T_3.setTop (mkF m 15 #[.val (.ref a), .val (.ref nm1), .val (.double ba), .second, .val (.double bb), .second, .val (.double bc), .second] [(.ref a)]))
  refine Go.step (fun t k => XS.dload X_3.here hx rfl (hb hby d4_15) rfl  k) ?_
  show Go p.tables e below P (T_3.setTop (mkF m 17 #[.val (.ref a), .val (.ref nm1), .val (.double ba), .second, .val (.double bb), .second, .val (.double bc), .second] [(.double bb), (.ref a)]))
  obtain ⟨T_4, h_4, X_4, e_4, W_4, st_4⟩ := putF X_3 hx hZ hown (host := "") (Or.inl (hw _ (List.mem_of_getElem? (i := 26) rfl))) Via.refl e_3 ((F2.other W_2 (Or.inr (slot_ne (Or.inr (hw _ (List.mem_of_getElem? (i := 27) rfl))) (Or.inr (hw _ (List.mem_of_getElem? (i := 23) rfl))) (by decide) (t := .double) (t' := (.object "java/lang/String")) (by decide) (by decide)))).other W_3 (Or.inr (slot_ne (Or.inr (hw _ (List.mem_of_getElem? (i := 27) rfl))) (Or.inr (hw _ (List.mem_of_getElem? (i := 25) rfl))) (by decide) (t := .double) (t' := .double) (by decide) (by decide)))) ((E_a.wr W_2).wr W_3) (Or.inr ⟨(hw _ (List.mem_of_getElem? (i := 27) rfl)), rfl, hnm⟩) (hw _ (List.mem_of_getElem? (i := 1) rfl)) (ty := .double) (by decide) rfl rfl (g := (mkF m 17 #[.val (.ref a), .val (.ref nm1), .val (.double ba), .second, .val (.double bb), .second, .val (.double bc), .second] [(.double bb), (.ref a)])) rfl rfl (hb hby d4_17)
  have Fw_4 := ((F2.other W_2 (Or.inr (slot_ne (Or.inr (hw _ (List.mem_of_getElem? (i := 27) rfl))) (Or.inr (hw _ (List.mem_of_getElem? (i := 23) rfl))) (by decide) (t := .double) (t' := (.object "java/lang/String")) (by decide) (by decide)))).other W_3 (Or.inr (slot_ne (Or.inr (hw _ (List.mem_of_getElem? (i := 27) rfl))) (Or.inr (hw _ (List.mem_of_getElem? (i := 25) rfl))) (by decide) (t := .double) (t' := .double) (by decide) (by decide)))).same W_4
  have N_4 := Fr.snoc X_4 N_3 g_a
  have K_4 : Keep h0 h_4 [a] := K_3.wr W_4 (Or.inl (List.mem_of_getElem? (i := 0) rfl))
  have Z_4 : n0 ≤ h_4.size := Nat.le_trans Z_3 (Keep.of_wr W_4).1
  refine Go.step (fun t k => st_4 t k) ?_
  show Go p.tables e below P (T_4.setTop (mkF m 20 #[.val (.ref a), .val (.ref nm1), .val (.double ba), .second, .val (.double bb), .second, .val (.double bc), .second] []))
  refine Go.step (fun t k => XS.aloadN X_4.here hx rfl (hb hby d4_20) rfl rfl k) ?_
  show Go p.tables e below P (T_4.setTop (mkF m 21 #[.val (.ref a), .val (.ref nm1), .val (.double ba), .second, .val (.double bb), .second, .val (.double bc), .second] [(.ref a)]))
  refine Go.step (fun t k => XS.dload X_4.here hx rfl (hb hby d4_21) rfl  k) ?_
  show Go p.tables e below P (T_4.setTop (mkF m 23 #[.val (.ref a), .val (.ref nm1), .val (.double ba), .second, .val (.double bb), .second, .val (.double bc), .second] [(.double bc), (.ref a)]))
  obtain ⟨T_5, h_5, X_5, e_5, W_5, st_5⟩ := putF X_4 hx hZ hown (host := "") (Or.inl (hw _ (List.mem_of_getElem? (i := 28) rfl))) Via.refl e_4 (((F3.other W_2 (Or.inr (slot_ne (Or.inr (hw _ (List.mem_of_getElem? (i := 29) rfl))) (Or.inr (hw _ (List.mem_of_getElem? (i := 23) rfl))) (by decide) (t := .double) (t' := (.object "java/lang/String")) (by decide) (by decide)))).other W_3 (Or.inr (slot_ne (Or.inr (hw _ (List.mem_of_getElem? (i := 29) rfl))) (Or.inr (hw _ (List.mem_of_getElem? (i := 25) rfl))) (by decide) (t := .double) (t' := .double) (by decide) (by decide)))).other W_4 (Or.inr (slot_ne (Or.inr (hw _ (List.mem_of_getElem? (i := 29) rfl))) (Or.inr (hw _ (List.mem_of_getElem? (i := 27) rfl))) (by decide) (t := .double) (t' := .double) (by decide) (by decide)))) (((E_a.wr W_2).wr W_3).wr W_4) (Or.inr ⟨(hw _ (List.mem_of_getElem? (i := 29) rfl)), rfl, hnm⟩) (hw _ (List.mem_of_getElem? (i := 1) rfl)) (ty := .double) (by decide) rfl rfl (g := (mkF m 23 #[.val (.ref a), .val (.ref nm1), .val (.double ba), .second, .val (.double bb), .second, .val (.double bc), .second] [(.double bc), (.ref a)])) rfl rfl (hb hby d4_23)
  have Fw_5 := (((F3.other W_2 (Or.inr (slot_ne (Or.inr (hw _ (List.mem_of_getElem? (i := 29) rfl))) (Or.inr (hw _ (List.mem_of_getElem? (i := 23) rfl))) (by decide) (t := .double) (t' := (.object "java/lang/String")) (by decide) (by decide)))).other W_3 (Or.inr (slot_ne (Or.inr (hw _ (List.mem_of_getElem? (i := 29) rfl))) (Or.inr (hw _ (List.mem_of_getElem? (i := 25) rfl))) (by decide) (t := .double) (t' := .double) (by decide) (by decide)))).other W_4 (Or.inr (slot_ne (Or.inr (hw _ (List.mem_of_getElem? (i := 29) rfl))) (Or.inr (hw _ (List.mem_of_getElem? (i := 27) rfl))) (by decide) (t := .double) (t' := .double) (by decide) (by decide)))).same W_5
  have N_5 := Fr.snoc X_5 N_4 g_a
  have K_5 : Keep h0 h_5 [a] := K_4.wr W_5 (Or.inl (List.mem_of_getElem? (i := 0) rfl))
  have Z_5 : n0 ≤ h_5.size := Nat.le_trans Z_4 (Keep.of_wr W_5).1
  refine Go.step (fun t k => st_5 t k) ?_
  show Go p.tables e below P (T_5.setTop (mkF m 26 #[.val (.ref a), .val (.ref nm1), .val (.double ba), .second, .val (.double bb), .second, .val (.double bc), .second] []))
  exact voidGo X_5 hx hP Bd.returns hlk (hb hby d4_26) (by decide) (by decide) (by rw [e_5]; exact ⟨rfl, N_5, K_5, ((((E_a.wr W_2).wr W_3).wr W_4).wr W_5), (((Fw_2.other W_3 (Or.inr (slot_ne (Or.inr (hw _ (List.mem_of_getElem? (i := 23) rfl))) (Or.inr (hw _ (List.mem_of_getElem? (i := 25) rfl))) (by decide) (t := (.object "java/lang/String")) (t' := .double) (by decide) (by decide)))).other W_4 (Or.inr (slot_ne (Or.inr (hw _ (List.mem_of_getElem? (i := 23) rfl))) (Or.inr (hw _ (List.mem_of_getElem? (i := 27) rfl))) (by decide) (t := (.object "java/lang/String")) (t' := .double) (by decide) (by decide)))).other W_5 (Or.inr (slot_ne (Or.inr (hw _ (List.mem_of_getElem? (i := 23) rfl))) (Or.inr (hw _ (List.mem_of_getElem? (i := 29) rfl))) (by decide) (t := (.object "java/lang/String")) (t' := .double) (by decide) (by decide)))), ((Fw_3.other W_4 (Or.inr (slot_ne (Or.inr (hw _ (List.mem_of_getElem? (i := 25) rfl))) (Or.inr (hw _ (List.mem_of_getElem? (i := 27) rfl))) (by decide) (t := .double) (t' := .double) (by decide) (by decide)))).other W_5 (Or.inr (slot_ne (Or.inr (hw _ (List.mem_of_getElem? (i := 25) rfl))) (Or.inr (hw _ (List.mem_of_getElem? (i := 29) rfl))) (by decide) (t := .double) (t' := .double) (by decide) (by decide)))), (Fw_4.other W_5 (Or.inr (slot_ne (Or.inr (hw _ (List.mem_of_getElem? (i := 27) rfl))) (Or.inr (hw _ (List.mem_of_getElem? (i := 29) rfl))) (by decide) (t := .double) (t' := .double) (by decide) (by decide)))), Fw_5⟩)
theorem d5_0 : decode prog_17_method_2_code 0 = .ok (.dload_n 1, 1) := by decide +kernel
theorem d5_1 : decode prog_17_method_2_code 1 = .ok (.aload_n 0, 1) := by decide +kernel
theorem d5_2 : decode prog_17_method_2_code 2 = .ok (.getfield 17, 3) := by decide +kernel
theorem d5_5 : decode prog_17_method_2_code 5 = .ok (.dcmp .l, 1) := by decide +kernel
theorem d5_6 : decode prog_17_method_2_code 6 = .ok (.ifCond .ne 5, 3) := by decide +kernel
theorem d5_9 : decode prog_17_method_2_code 9 = .ok (.dconst 1, 1) := by decide +kernel
theorem d5_10 : decode prog_17_method_2_code 10 = .ok (.dreturn, 1) := by decide +kernel
theorem d5_11 : decode prog_17_method_2_code 11 = .ok (.dload_n 1, 1) := by decide +kernel
theorem d5_12 : decode prog_17_method_2_code 12 = .ok (.aload_n 0, 1) := by decide +kernel
theorem d5_13 : decode prog_17_method_2_code 13 = .ok (.getfield 13, 3) := by decide +kernel
theorem d5_16 : decode prog_17_method_2_code 16 = .ok (.dcmp .g, 1) := by decide +kernel
theorem d5_17 : decode prog_17_method_2_code 17 = .ok (.ifCond .le 12, 3) := by decide +kernel
theorem d5_20 : decode prog_17_method_2_code 20 = .ok (.dload_n 1, 1) := by decide +kernel
theorem d5_21 : decode prog_17_method_2_code 21 = .ok (.aload_n 0, 1) := by decide +kernel
theorem d5_22 : decode prog_17_method_2_code 22 = .ok (.getfield 20, 3) := by decide +kernel
theorem d5_25 : decode prog_17_method_2_code 25 = .ok (.dcmp .l, 1) := by decide +kernel
theorem d5_26 : decode prog_17_method_2_code 26 = .ok (.ifCond .lt 5, 3) := by decide +kernel
theorem d5_29 : decode prog_17_method_2_code 29 = .ok (.dconst 0, 1) := by decide +kernel
theorem d5_30 : decode prog_17_method_2_code 30 = .ok (.dreturn, 1) := by decide +kernel
theorem d5_31 : decode prog_17_method_2_code 31 = .ok (.dload_n 1, 1) := by decide +kernel
theorem d5_32 : decode prog_17_method_2_code 32 = .ok (.aload_n 0, 1) := by decide +kernel
theorem d5_33 : decode prog_17_method_2_code 33 = .ok (.getfield 17, 3) := by decide +kernel
theorem d5_36 : decode prog_17_method_2_code 36 = .ok (.dcmp .g, 1) := by decide +kernel
theorem d5_37 : decode prog_17_method_2_code 37 = .ok (.ifCond .ge 22, 3) := by decide +kernel
theorem d5_40 : decode prog_17_method_2_code 40 = .ok (.dload_n 1, 1) := by decide +kernel
theorem d5_41 : decode prog_17_method_2_code 41 = .ok (.aload_n 0, 1) := by decide +kernel
theorem d5_42 : decode prog_17_method_2_code 42 = .ok (.getfield 13, 3) := by decide +kernel
theorem d5_45 : decode prog_17_method_2_code 45 = .ok (.dsub, 1) := by decide +kernel
theorem d5_46 : decode prog_17_method_2_code 46 = .ok (.aload_n 0, 1) := by decide +kernel
theorem d5_47 : decode prog_17_method_2_code 47 = .ok (.getfield 17, 3) := by decide +kernel
theorem d5_50 : decode prog_17_method_2_code 50 = .ok (.aload_n 0, 1) := by decide +kernel
theorem d5_51 : decode prog_17_method_2_code 51 = .ok (.getfield 13, 3) := by decide +kernel
theorem d5_54 : decode prog_17_method_2_code 54 = .ok (.dsub, 1) := by decide +kernel
theorem d5_55 : decode prog_17_method_2_code 55 = .ok (.ddiv, 1) := by decide +kernel
theorem d5_56 : decode prog_17_method_2_code 56 = .ok (.goto 19, 3) := by decide +kernel
theorem d5_59 : decode prog_17_method_2_code 59 = .ok (.aload_n 0, 1) := by decide +kernel
theorem d5_60 : decode prog_17_method_2_code 60 = .ok (.getfield 20, 3) := by decide +kernel
theorem d5_63 : decode prog_17_method_2_code 63 = .ok (.dload_n 1, 1) := by decide +kernel
theorem d5_64 : decode prog_17_method_2_code 64 = .ok (.dsub, 1) := by decide +kernel
theorem d5_65 : decode prog_17_method_2_code 65 = .ok (.aload_n 0, 1) := by decide +kernel
theorem d5_66 : decode prog_17_method_2_code 66 = .ok (.getfield 20, 3) := by decide +kernel
theorem d5_69 : decode prog_17_method_2_code 69 = .ok (.aload_n 0, 1) := by decide +kernel
theorem d5_70 : decode prog_17_method_2_code 70 = .ok (.getfield 17, 3) := by decide +kernel
theorem d5_73 : decode prog_17_method_2_code 73 = .ok (.dsub, 1) := by decide +kernel
theorem d5_74 : decode prog_17_method_2_code 74 = .ok (.ddiv, 1) := by decide +kernel
theorem d5_75 : decode prog_17_method_2_code 75 = .ok (.dreturn, 1) := by decide +kernel
theorem pn_5 : plainName "com/example/orabona/orabona/model/FuzzySet$Triangular" = true := by first | (simp [plainName, overriddenIn]; done) | decide +kernel
theorem ef_5 (m : MethodId) (x0 : Addr) (x1 : UInt64) : entryFrame m #[(.ref x0), (.double x1)] 3 = mkF m 0 #[.val (.ref x0), .val (.double x1), .second] [] := by first | (simp [entryFrame, mkF, argsToLocals, Value.category]; done) | rfl
def Q5 (Z : State) (a : Addr) (xd : UInt64) (da : UInt64) (db : UInt64) (dc : UInt64) (ia : Int) (ib : Int) (ic : Int) (ix : Int) (h0 : Heap) (n0 : Nat) (v : Option Value) (h : Heap) (L : List Loc) : Prop := ∃ r : UInt64, v = some (.double r) ∧ ((ix = ib ∧ r = FP.dconst1) ∨ (¬ ix = ib ∧ (ix ≤ ia ∨ ic ≤ ix) ∧ r = FP.dconst0) ∨ (ia < ix ∧ ix < ib ∧ ix < ic ∧ ∃ y z, r = FP.ddiv y z ∧ DE 1074 (ix - ia) y ∧ DE 1074 (ib - ia) z) ∨ (ia < ix ∧ ib < ix ∧ ix < ic ∧ ∃ y z, r = FP.ddiv y z ∧ DE 1074 (ic - ix) y ∧ DE 1074 (ic - ib) z)) ∧ Fr n0 L ∧ h = h0
set_option maxRecDepth 65536 in
set_option maxHeartbeats 40000000 in
theorem rm5 (l : Launch) (Z : State) (a0 : Array Value) (hw : ∀ d ∈ tables_1, d.before a0 Z = true) (ws : List Jvm.Cond) (a : Addr) (xd : UInt64) (da : UInt64) (db : UInt64) (dc : UInt64) (ia : Int) (ib : Int) (ic : Int) (ix : Int) (h0 : Heap) (n0 : Nat) (Z0 : n0 ≤ h0.size) (F0 : Fld Z h0 a "com/example/orabona/orabona/model/FuzzySet$Triangular" "a" "D" (.double da)) (F1 : Fld Z h0 a "com/example/orabona/orabona/model/FuzzySet$Triangular" "b" "D" (.double db)) (F2 : Fld Z h0 a "com/example/orabona/orabona/model/FuzzySet$Triangular" "c" "D" (.double dc)) (qia : DE 1074 ia da) (qib : DE 1074 ib db) (qic : DE 1074 ic dc) (qix : DE 1074 ix xd) (bia : -2147483648 ≤ ia ∧ ia ≤ 2147483647) (bib : -2147483648 ≤ ib ∧ ib ≤ 2147483647) (bic : -2147483648 ≤ ic ∧ ic ≤ 2147483647) (bix : -2147483651 ≤ ix ∧ ix ≤ 2147483650) :
    MetFree l (⟨"com/example/orabona/orabona/model/FuzzySet$Triangular", "degree", "(D)D"⟩ : MethodName) (head1 (Jvm.Cond.code (⟨"com/example/orabona/orabona/model/FuzzySet$Triangular", "degree", "(D)D"⟩ : MethodName) prog_17_method_2_code 3 (some .double) :: ws) ({ frames := 0, cells := 0, slots := 0, locals := 0 } : Room)) (fun a_ U => a_ = #[(.ref a), (.double xd)] ∧ Z.Warmed39 U.vm ∧ U.heap = h0) (fun _ _ _ _ _ => True) (fun _ U o U' => ∃ v L, o = .returned v ∧ Q5 Z a xd da db dc ia ib ic ix h0 n0 v U'.heap L ∧ FrameEnd U o U' L (({ frames := 0, cells := 0, slots := 0, locals := 0 } : Room)).cells (({ frames := 0, cells := 0, slots := 0, locals := 0 } : Room)).slots) := by
  refine MetFree.of_bodySF (plainFor_of_name pn_5) hisR ?_
  intro p e s m args below meth c s₁ Bd hml0 hP0 hK
  obtain ⟨rfl, hZ, hh⟩ := hP0
  have hx := Bd.exec
  have hby := Bd.bytes
  have hml : c.maxLocals = 3 := hml0
  have hown : s.vm.findClass "com/example/orabona/orabona/model/FuzzySet$Triangular" = some m.cls := findClass_of_methodNamed Bd.named
  have hnm := (name_of_methodNamed Bd.named Bd.method).1
  have X0 : Stand p l e ({ frames := 0, cells := 0, slots := 0, locals := 0 } : Room) s m #[(.ref a), (.double xd)] below meth c s₁ [] 0 0 := Stand.of_body Bd
  have e0 : s₁.heap = h0 := by rw [← hh, Bd.state]; rfl
  have N0 := Fr.nil n0
  have hlk : meth.locks = false := BodyLoose.notSynchronized Bd
  refine Go.start (P₀ := fun s₂ o => ∃ v L, o = .returned v ∧ Q5 Z a xd da db dc ia ib ic ix h0 n0 v s₂.heap L ∧ FrameEnd s o s₂ L (({ frames := 0, cells := 0, slots := 0, locals := 0 } : Room)).cells (({ frames := 0, cells := 0, slots := 0, locals := 0 } : Room)).slots) (congrArg s₁.setTop (ef_5 m a xd)) ?_
  intro P hP
  show Go p.tables e below P (s₁.setTop (mkF m 0 #[.val (.ref a), .val (.double xd), .second] []))
  refine Go.step (fun t k => XS.dloadN X0.here hx rfl (hb hby d5_0) rfl  k) ?_
  show Go p.tables e below P (s₁.setTop (mkF m 1 #[.val (.ref a), .val (.double xd), .second] [(.double xd)]))
  refine Go.step (fun t k => XS.aloadN X0.here hx rfl (hb hby d5_1) rfl rfl k) ?_
  show Go p.tables e below P (s₁.setTop (mkF m 2 #[.val (.ref a), .val (.double xd), .second] [(.ref a), (.double xd)]))
  obtain ⟨T_1, X_1, e_1, st_1⟩ := getF X0 hx hZ hown (host := "") (Or.inl (hw _ (List.mem_of_getElem? (i := 26) rfl))) Via.refl e0 F1 (g := (mkF m 2 #[.val (.ref a), .val (.double xd), .second] [(.ref a), (.double xd)])) rfl rfl (hb hby d5_2)
  refine Go.step (fun t k => st_1 t k) ?_
  show Go p.tables e below P (T_1.setTop (mkF m 5 #[.val (.ref a), .val (.double xd), .second] [(.double db), (.double xd)]))
  refine Go.step (fun t k => XS.dcmpS X_1.here hx rfl (hb hby d5_5) rfl rfl k) ?_
  show Go p.tables e below P (T_1.setTop (mkF m 6 #[.val (.ref a), .val (.double xd), .second] [(.int (cmpValue (FP.dcmp xd db) .l))]))
  by_cases hc6 : ¬ ix = ib
  · refine Go.step (fun t k => XS.ifYes X_1.here hx rfl (pc0 := 6) (pc' := 11) rfl (hb hby d5_6) rfl (dcY (cd := .ne) (DE.cmp qix qib) hc6) (by decide) (by decide) k) ?_
    show Go p.tables e below P (T_1.setTop (mkF m 11 #[.val (.ref a), .val (.double xd), .second] []))
    refine Go.step (fun t k => XS.dloadN X_1.here hx rfl (hb hby d5_11) rfl  k) ?_
    show Go p.tables e below P (T_1.setTop (mkF m 12 #[.val (.ref a), .val (.double xd), .second] [(.double xd)]))
    refine Go.step (fun t k => XS.aloadN X_1.here hx rfl (hb hby d5_12) rfl rfl k) ?_
    show Go p.tables e below P (T_1.setTop (mkF m 13 #[.val (.ref a), .val (.double xd), .second] [(.ref a), (.double xd)]))
    obtain ⟨T_2, X_2, e_2, st_2⟩ := getF X_1 hx hZ hown (host := "") (Or.inl (hw _ (List.mem_of_getElem? (i := 24) rfl))) Via.refl e_1 F0 (g := (mkF m 13 #[.val (.ref a), .val (.double xd), .second] [(.ref a), (.double xd)])) rfl rfl (hb hby d5_13)
    refine Go.step (fun t k => st_2 t k) ?_
    show Go p.tables e below P (T_2.setTop (mkF m 16 #[.val (.ref a), .val (.double xd), .second] [(.double da), (.double xd)]))
    refine Go.step (fun t k => XS.dcmpS X_2.here hx rfl (hb hby d5_16) rfl rfl k) ?_
    show Go p.tables e below P (T_2.setTop (mkF m 17 #[.val (.ref a), .val (.double xd), .second] [(.int (cmpValue (FP.dcmp xd da) .g))]))
    by_cases hc17 : ix ≤ ia
    · refine Go.step (fun t k => XS.ifYes X_2.here hx rfl (pc0 := 17) (pc' := 29) rfl (hb hby d5_17) rfl (dcY (cd := .le) (DE.cmp qix qia) hc17) (by decide) (by decide) k) ?_
      show Go p.tables e below P (T_2.setTop (mkF m 29 #[.val (.ref a), .val (.double xd), .second] []))
      refine Go.step (fun t k => XS.dconst0 X_2.here hx rfl (hb hby d5_29) rfl k) ?_
      show Go p.tables e below P (T_2.setTop (mkF m 30 #[.val (.ref a), .val (.double xd), .second] [(.double FP.dconst0)]))
      exact retGo X_2 hx hP Bd.returns hlk rfl (Or.inr (Or.inr (Or.inl ⟨rfl, rfl, _, rfl⟩))) (hb hby d5_30) (by decide) (by decide) (by rw [e_2]; exact ⟨FP.dconst0, rfl, Or.inr (Or.inl ⟨by omega, by omega, rfl⟩), N0, rfl⟩)
    · refine Go.step (fun t k => XS.ifNo X_2.here hx rfl (hb hby d5_17) rfl (dcN (cd := .le) (DE.cmp qix qia) hc17) k) ?_
      show Go p.tables e below P (T_2.setTop (mkF m 20 #[.val (.ref a), .val (.double xd), .second] []))
      refine Go.step (fun t k => XS.dloadN X_2.here hx rfl (hb hby d5_20) rfl  k) ?_
      show Go p.tables e below P (T_2.setTop (mkF m 21 #[.val (.ref a), .val (.double xd), .second] [(.double xd)]))
      refine Go.step (fun t k => XS.aloadN X_2.here hx rfl (hb hby d5_21) rfl rfl k) ?_
      show Go p.tables e below P (T_2.setTop (mkF m 22 #[.val (.ref a), .val (.double xd), .second] [(.ref a), (.double xd)]))
      obtain ⟨T_3, X_3, e_3, st_3⟩ := getF X_2 hx hZ hown (host := "") (Or.inl (hw _ (List.mem_of_getElem? (i := 28) rfl))) Via.refl e_2 F2 (g := (mkF m 22 #[.val (.ref a), .val (.double xd), .second] [(.ref a), (.double xd)])) rfl rfl (hb hby d5_22)
      refine Go.step (fun t k => st_3 t k) ?_
      show Go p.tables e below P (T_3.setTop (mkF m 25 #[.val (.ref a), .val (.double xd), .second] [(.double dc), (.double xd)]))
      refine Go.step (fun t k => XS.dcmpS X_3.here hx rfl (hb hby d5_25) rfl rfl k) ?_
      show Go p.tables e below P (T_3.setTop (mkF m 26 #[.val (.ref a), .val (.double xd), .second] [(.int (cmpValue (FP.dcmp xd dc) .l))]))
      by_cases hc26 : ix < ic
      · refine Go.step (fun t k => XS.ifYes X_3.here hx rfl (pc0 := 26) (pc' := 31) rfl (hb hby d5_26) rfl (dcY (cd := .lt) (DE.cmp qix qic) hc26) (by decide) (by decide) k) ?_
        show Go p.tables e below P (T_3.setTop (mkF m 31 #[.val (.ref a), .val (.double xd), .second] []))
        refine Go.step (fun t k => XS.dloadN X_3.here hx rfl (hb hby d5_31) rfl  k) ?_
        show Go p.tables e below P (T_3.setTop (mkF m 32 #[.val (.ref a), .val (.double xd), .second] [(.double xd)]))
        refine Go.step (fun t k => XS.aloadN X_3.here hx rfl (hb hby d5_32) rfl rfl k) ?_
        show Go p.tables e below P (T_3.setTop (mkF m 33 #[.val (.ref a), .val (.double xd), .second] [(.ref a), (.double xd)]))
        obtain ⟨T_4, X_4, e_4, st_4⟩ := getF X_3 hx hZ hown (host := "") (Or.inl (hw _ (List.mem_of_getElem? (i := 26) rfl))) Via.refl e_3 F1 (g := (mkF m 33 #[.val (.ref a), .val (.double xd), .second] [(.ref a), (.double xd)])) rfl rfl (hb hby d5_33)
        refine Go.step (fun t k => st_4 t k) ?_
        show Go p.tables e below P (T_4.setTop (mkF m 36 #[.val (.ref a), .val (.double xd), .second] [(.double db), (.double xd)]))
        refine Go.step (fun t k => XS.dcmpS X_4.here hx rfl (hb hby d5_36) rfl rfl k) ?_
        show Go p.tables e below P (T_4.setTop (mkF m 37 #[.val (.ref a), .val (.double xd), .second] [(.int (cmpValue (FP.dcmp xd db) .g))]))
        by_cases hc37 : ib ≤ ix
        · refine Go.step (fun t k => XS.ifYes X_4.here hx rfl (pc0 := 37) (pc' := 59) rfl (hb hby d5_37) rfl (dcY (cd := .ge) (DE.cmp qix qib) hc37) (by decide) (by decide) k) ?_
          show Go p.tables e below P (T_4.setTop (mkF m 59 #[.val (.ref a), .val (.double xd), .second] []))
          refine Go.step (fun t k => XS.aloadN X_4.here hx rfl (hb hby d5_59) rfl rfl k) ?_
          show Go p.tables e below P (T_4.setTop (mkF m 60 #[.val (.ref a), .val (.double xd), .second] [(.ref a)]))
          obtain ⟨T_5, X_5, e_5, st_5⟩ := getF X_4 hx hZ hown (host := "") (Or.inl (hw _ (List.mem_of_getElem? (i := 28) rfl))) Via.refl e_4 F2 (g := (mkF m 60 #[.val (.ref a), .val (.double xd), .second] [(.ref a)])) rfl rfl (hb hby d5_60)
          refine Go.step (fun t k => st_5 t k) ?_
          show Go p.tables e below P (T_5.setTop (mkF m 63 #[.val (.ref a), .val (.double xd), .second] [(.double dc)]))
          refine Go.step (fun t k => XS.dloadN X_5.here hx rfl (hb hby d5_63) rfl  k) ?_
          show Go p.tables e below P (T_5.setTop (mkF m 64 #[.val (.ref a), .val (.double xd), .second] [(.double xd), (.double dc)]))
          obtain ⟨d64, hd64⟩ : ∃ z : UInt64, FP.dsub dc xd = z := ⟨_, rfl⟩
          have q64 := sub_e (k := 1074) qic qix rfl (by omega) (by decide)
          rw [hd64] at q64
          refine Go.step (fun t k => XS.dsubS X_5.here hx rfl (hb hby d5_64) rfl (hd64 ▸ q64.nn) hd64 k) ?_
          show Go p.tables e below P (T_5.setTop (mkF m 65 #[.val (.ref a), .val (.double xd), .second] [(.double d64)]))
          refine Go.step (fun t k => XS.aloadN X_5.here hx rfl (hb hby d5_65) rfl rfl k) ?_
          show Go p.tables e below P (T_5.setTop (mkF m 66 #[.val (.ref a), .val (.double xd), .second] [(.ref a), (.double d64)]))
          obtain ⟨T_6, X_6, e_6, st_6⟩ := getF X_5 hx hZ hown (host := "") (Or.inl (hw _ (List.mem_of_getElem? (i := 28) rfl))) Via.refl e_5 F2 (g := (mkF m 66 #[.val (.ref a), .val (.double xd), .second] [(.ref a), (.double d64)])) rfl rfl (hb hby d5_66)
          refine Go.step (fun t k => st_6 t k) ?_
          show Go p.tables e below P (T_6.setTop (mkF m 69 #[.val (.ref a), .val (.double xd), .second] [(.double dc), (.double d64)]))
          refine Go.step (fun t k => XS.aloadN X_6.here hx rfl (hb hby d5_69) rfl rfl k) ?_
          show Go p.tables e below P (T_6.setTop (mkF m 70 #[.val (.ref a), .val (.double xd), .second] [(.ref a), (.double dc), (.double d64)]))
          obtain ⟨T_7, X_7, e_7, st_7⟩ := getF X_6 hx hZ hown (host := "") (Or.inl (hw _ (List.mem_of_getElem? (i := 26) rfl))) Via.refl e_6 F1 (g := (mkF m 70 #[.val (.ref a), .val (.double xd), .second] [(.ref a), (.double dc), (.double d64)])) rfl rfl (hb hby d5_70)
          refine Go.step (fun t k => st_7 t k) ?_
          show Go p.tables e below P (T_7.setTop (mkF m 73 #[.val (.ref a), .val (.double xd), .second] [(.double db), (.double dc), (.double d64)]))
          obtain ⟨d73, hd73⟩ : ∃ z : UInt64, FP.dsub dc db = z := ⟨_, rfl⟩
          have q73 := sub_e (k := 1074) qic qib rfl (by omega) (by decide)
          rw [hd73] at q73
          refine Go.step (fun t k => XS.dsubS X_7.here hx rfl (hb hby d5_73) rfl (hd73 ▸ q73.nn) hd73 k) ?_
          show Go p.tables e below P (T_7.setTop (mkF m 74 #[.val (.ref a), .val (.double xd), .second] [(.double d73), (.double d64)]))
          have fr := frac q64 q73 (by omega) (by omega) (by omega)
          obtain ⟨d74, hd74⟩ : ∃ z : UInt64, FP.ddiv d64 d73 = z := ⟨_, rfl⟩
          rw [hd74] at fr
          refine Go.step (fun t k => XS.ddivS X_7.here hx rfl (hb hby d5_74) rfl (hd74 ▸ fr.nn) hd74 k) ?_
          show Go p.tables e below P (T_7.setTop (mkF m 75 #[.val (.ref a), .val (.double xd), .second] [(.double d74)]))
          exact retGo X_7 hx hP Bd.returns hlk rfl (Or.inr (Or.inr (Or.inl ⟨rfl, rfl, _, rfl⟩))) (hb hby d5_75) (by decide) (by decide) (by rw [e_7]; exact ⟨d74, rfl, Or.inr (Or.inr (Or.inr ⟨by omega, by omega, by omega, d64, d73, hd74.symm, q64, q73⟩)), N0, rfl⟩)
        · refine Go.step (fun t k => XS.ifNo X_4.here hx rfl (hb hby d5_37) rfl (dcN (cd := .ge) (DE.cmp qix qib) hc37) k) ?_
          show Go p.tables e below P (T_4.setTop (mkF m 40 #[.val (.ref a), .val (.double xd), .second] []))
          refine Go.step (fun t k => XS.dloadN X_4.here hx rfl (hb hby d5_40) rfl  k) ?_
          show Go p.tables e below P (T_4.setTop (mkF m 41 #[.val (.ref a), .val (.double xd), .second] [(.double xd)]))
          refine Go.step (fun t k => XS.aloadN X_4.here hx rfl (hb hby d5_41) rfl rfl k) ?_
          show Go p.tables e below P (T_4.setTop (mkF m 42 #[.val (.ref a), .val (.double xd), .second] [(.ref a), (.double xd)]))
          obtain ⟨T_8, X_8, e_8, st_8⟩ := getF X_4 hx hZ hown (host := "") (Or.inl (hw _ (List.mem_of_getElem? (i := 24) rfl))) Via.refl e_4 F0 (g := (mkF m 42 #[.val (.ref a), .val (.double xd), .second] [(.ref a), (.double xd)])) rfl rfl (hb hby d5_42)
          refine Go.step (fun t k => st_8 t k) ?_
          show Go p.tables e below P (T_8.setTop (mkF m 45 #[.val (.ref a), .val (.double xd), .second] [(.double da), (.double xd)]))
          obtain ⟨d45, hd45⟩ : ∃ z : UInt64, FP.dsub xd da = z := ⟨_, rfl⟩
          have q45 := sub_e (k := 1074) qix qia rfl (by omega) (by decide)
          rw [hd45] at q45
          refine Go.step (fun t k => XS.dsubS X_8.here hx rfl (hb hby d5_45) rfl (hd45 ▸ q45.nn) hd45 k) ?_
          show Go p.tables e below P (T_8.setTop (mkF m 46 #[.val (.ref a), .val (.double xd), .second] [(.double d45)]))
          refine Go.step (fun t k => XS.aloadN X_8.here hx rfl (hb hby d5_46) rfl rfl k) ?_
          show Go p.tables e below P (T_8.setTop (mkF m 47 #[.val (.ref a), .val (.double xd), .second] [(.ref a), (.double d45)]))
          obtain ⟨T_9, X_9, e_9, st_9⟩ := getF X_8 hx hZ hown (host := "") (Or.inl (hw _ (List.mem_of_getElem? (i := 26) rfl))) Via.refl e_8 F1 (g := (mkF m 47 #[.val (.ref a), .val (.double xd), .second] [(.ref a), (.double d45)])) rfl rfl (hb hby d5_47)
          refine Go.step (fun t k => st_9 t k) ?_
          show Go p.tables e below P (T_9.setTop (mkF m 50 #[.val (.ref a), .val (.double xd), .second] [(.double db), (.double d45)]))
          refine Go.step (fun t k => XS.aloadN X_9.here hx rfl (hb hby d5_50) rfl rfl k) ?_
          show Go p.tables e below P (T_9.setTop (mkF m 51 #[.val (.ref a), .val (.double xd), .second] [(.ref a), (.double db), (.double d45)]))
          obtain ⟨T_10, X_10, e_10, st_10⟩ := getF X_9 hx hZ hown (host := "") (Or.inl (hw _ (List.mem_of_getElem? (i := 24) rfl))) Via.refl e_9 F0 (g := (mkF m 51 #[.val (.ref a), .val (.double xd), .second] [(.ref a), (.double db), (.double d45)])) rfl rfl (hb hby d5_51)
          refine Go.step (fun t k => st_10 t k) ?_
          show Go p.tables e below P (T_10.setTop (mkF m 54 #[.val (.ref a), .val (.double xd), .second] [(.double da), (.double db), (.double d45)]))
          obtain ⟨d54, hd54⟩ : ∃ z : UInt64, FP.dsub db da = z := ⟨_, rfl⟩
          have q54 := sub_e (k := 1074) qib qia rfl (by omega) (by decide)
          rw [hd54] at q54
          refine Go.step (fun t k => XS.dsubS X_10.here hx rfl (hb hby d5_54) rfl (hd54 ▸ q54.nn) hd54 k) ?_
          show Go p.tables e below P (T_10.setTop (mkF m 55 #[.val (.ref a), .val (.double xd), .second] [(.double d54), (.double d45)]))
          have fr := frac q45 q54 (by omega) (by omega) (by omega)
          obtain ⟨d55, hd55⟩ : ∃ z : UInt64, FP.ddiv d45 d54 = z := ⟨_, rfl⟩
          rw [hd55] at fr
          refine Go.step (fun t k => XS.ddivS X_10.here hx rfl (hb hby d5_55) rfl (hd55 ▸ fr.nn) hd55 k) ?_
          show Go p.tables e below P (T_10.setTop (mkF m 56 #[.val (.ref a), .val (.double xd), .second] [(.double d55)]))
          refine Go.step (fun t k => XS.goto X_10.here hx rfl (pc0 := 56) (pc' := 75) rfl (hb hby d5_56) (by decide) (by decide) k) ?_
          show Go p.tables e below P (T_10.setTop (mkF m 75 #[.val (.ref a), .val (.double xd), .second] [(.double d55)]))
          exact retGo X_10 hx hP Bd.returns hlk rfl (Or.inr (Or.inr (Or.inl ⟨rfl, rfl, _, rfl⟩))) (hb hby d5_75) (by decide) (by decide) (by rw [e_10]; exact ⟨d55, rfl, Or.inr (Or.inr (Or.inl ⟨by omega, by omega, by omega, d45, d54, hd55.symm, q45, q54⟩)), N0, rfl⟩)
      · refine Go.step (fun t k => XS.ifNo X_3.here hx rfl (hb hby d5_26) rfl (dcN (cd := .lt) (DE.cmp qix qic) hc26) k) ?_
        show Go p.tables e below P (T_3.setTop (mkF m 29 #[.val (.ref a), .val (.double xd), .second] []))
        refine Go.step (fun t k => XS.dconst0 X_3.here hx rfl (hb hby d5_29) rfl k) ?_
        show Go p.tables e below P (T_3.setTop (mkF m 30 #[.val (.ref a), .val (.double xd), .second] [(.double FP.dconst0)]))
        exact retGo X_3 hx hP Bd.returns hlk rfl (Or.inr (Or.inr (Or.inl ⟨rfl, rfl, _, rfl⟩))) (hb hby d5_30) (by decide) (by decide) (by rw [e_3]; exact ⟨FP.dconst0, rfl, Or.inr (Or.inl ⟨by omega, by omega, rfl⟩), N0, rfl⟩)
  · refine Go.step (fun t k => XS.ifNo X_1.here hx rfl (hb hby d5_6) rfl (dcN (cd := .ne) (DE.cmp qix qib) hc6) k) ?_
    show Go p.tables e below P (T_1.setTop (mkF m 9 #[.val (.ref a), .val (.double xd), .second] []))
    refine Go.step (fun t k => XS.dconst1 X_1.here hx rfl (hb hby d5_9) rfl k) ?_
    show Go p.tables e below P (T_1.setTop (mkF m 10 #[.val (.ref a), .val (.double xd), .second] [(.double FP.dconst1)]))
    exact retGo X_1 hx hP Bd.returns hlk rfl (Or.inr (Or.inr (Or.inl ⟨rfl, rfl, _, rfl⟩))) (hb hby d5_10) (by decide) (by decide) (by rw [e_1]; exact ⟨FP.dconst1, rfl, Or.inl ⟨by omega, rfl⟩, N0, rfl⟩)
theorem pn_0 : plainName "com/example/orabona/orabona/model/TriangularDegreePinLaw" = true := by first | (simp [plainName, overriddenIn]; done) | decide +kernel
theorem ef_0 (m : MethodId) (x0 : Int32) (x1 : Int32) (x2 : Int32) (x3 : Int32) (x4 : Int32) : entryFrame m #[(.int x0), (.int x1), (.int x2), (.int x3), (.int x4)] maxLocals = mkF m 0 #[.val (.int x0), .val (.int x1), .val (.int x2), .val (.int x3), .val (.int x4), .unset, .unset, .unset, .unset, .unset, .unset, .unset, .unset, .unset, .unset, .unset, .unset, .unset, .unset, .unset] [] := by first | (simp [entryFrame, mkF, argsToLocals, Value.category, maxLocals]; done) | rfl
def Q0 (Z : State) (p1 : Int32) (p2 : Int32) (p3 : Int32) (p4 : Int32) (p5 : Int32) (h0 : Heap) (n0 : Nat) (v : Option Value) (h : Heap) (L : List Loc) : Prop := v = some (.int 1) ∧ Fr n0 L
set_option maxRecDepth 65536 in
set_option maxHeartbeats 40000000 in
theorem rm0 (l : Launch) (Z : State) (a0 : Array Value) (hw : ∀ d ∈ tables_1, d.before a0 Z = true) (ws : List Jvm.Cond) (p1 : Int32) (p2 : Int32) (p3 : Int32) (p4 : Int32) (p5 : Int32) (h0 : Heap) (n0 : Nat) (Z0 : n0 ≤ h0.size) :
    MetFree l x (head1 (Jvm.Cond.code x code maxLocals ret :: ws) room_1) (fun a_ U => a_ = #[(.int p1), (.int p2), (.int p3), (.int p4), (.int p5)] ∧ Z.Warmed39 U.vm ∧ U.heap = h0) (fun _ _ _ _ _ => True) (fun _ U o U' => ∃ v L, o = .returned v ∧ Q0 Z p1 p2 p3 p4 p5 h0 n0 v U'.heap L ∧ ReturnedEndW U o U' L 16 1152) := by
  refine MetFree.of_bodySF (plainFor_of_name pn_0) hisR ?_
  intro p e s m args below meth c s₁ Bd hml0 hP0 hK
  obtain ⟨rfl, hZ, hh⟩ := hP0
  have hx := Bd.exec
  have hby := Bd.bytes
  have hml : c.maxLocals = 20 := hml0
  have hown : s.vm.findClass "com/example/orabona/orabona/model/TriangularDegreePinLaw" = some m.cls := findClass_of_methodNamed Bd.named
  have hnm := (name_of_methodNamed Bd.named Bd.method).1
  have X0 : Stand p l e room_1 s m #[(.int p1), (.int p2), (.int p3), (.int p4), (.int p5)] below meth c s₁ [] 0 0 := Stand.of_body Bd
  have e0 : s₁.heap = h0 := by rw [← hh, Bd.state]; rfl
  have N0 := Fr.nil n0
  have hlk : meth.locks = false := BodyLoose.notSynchronized Bd
  refine Go.start (P₀ := fun s₂ o => ∃ v L, o = .returned v ∧ Q0 Z p1 p2 p3 p4 p5 h0 n0 v s₂.heap L ∧ ReturnedEndW s o s₂ L 16 1152) (congrArg s₁.setTop (ef_0 m p1 p2 p3 p4 p5)) ?_
  intro P hP
  show Go p.tables e below P (s₁.setTop (mkF m 0 #[.val (.int p1), .val (.int p2), .val (.int p3), .val (.int p4), .val (.int p5), .unset, .unset, .unset, .unset, .unset, .unset, .unset, .unset, .unset, .unset, .unset, .unset, .unset, .unset, .unset] []))
  refine Go.step (fun t k => XS.iloadN X0.here hx rfl (hb hby at_0) rfl  k) ?_
  show Go p.tables e below P (s₁.setTop (mkF m 1 #[.val (.int p1), .val (.int p2), .val (.int p3), .val (.int p4), .val (.int p5), .unset, .unset, .unset, .unset, .unset, .unset, .unset, .unset, .unset, .unset, .unset, .unset, .unset, .unset, .unset] [(.int p1)]))
  obtain ⟨j1, hj1⟩ : ∃ z : Int64, p1.toInt64 = z := ⟨_, rfl⟩
  refine Go.step (fun t k => i2l_v X0.here hx rfl (hb hby at_1) rfl hj1 k) ?_
  show Go p.tables e below P (s₁.setTop (mkF m 2 #[.val (.int p1), .val (.int p2), .val (.int p3), .val (.int p4), .val (.int p5), .unset, .unset, .unset, .unset, .unset, .unset, .unset, .unset, .unset, .unset, .unset, .unset, .unset, .unset, .unset] [(.long j1)]))
  refine Go.step (fun t k => XS.lstore X0.here hx rfl (hb hby at_2) rfl (l' := #[.val (.int p1), .val (.int p2), .val (.int p3), .val (.int p4), .val (.int p5), .val (.long j1), .second, .unset, .unset, .unset, .unset, .unset, .unset, .unset, .unset, .unset, .unset, .unset, .unset, .unset]) rfl k) ?_
  show Go p.tables e below P (s₁.setTop (mkF m 4 #[.val (.int p1), .val (.int p2), .val (.int p3), .val (.int p4), .val (.int p5), .val (.long j1), .second, .unset, .unset, .unset, .unset, .unset, .unset, .unset, .unset, .unset, .unset, .unset, .unset, .unset] []))
  refine Go.step (fun t k => XS.iloadN X0.here hx rfl (hb hby at_4) rfl  k) ?_
  show Go p.tables e below P (s₁.setTop (mkF m 5 #[.val (.int p1), .val (.int p2), .val (.int p3), .val (.int p4), .val (.int p5), .val (.long j1), .second, .unset, .unset, .unset, .unset, .unset, .unset, .unset, .unset, .unset, .unset, .unset, .unset, .unset] [(.int p2)]))
  obtain ⟨j5, hj5⟩ : ∃ z : Int64, p2.toInt64 = z := ⟨_, rfl⟩
  refine Go.step (fun t k => i2l_v X0.here hx rfl (hb hby at_5) rfl hj5 k) ?_
  show Go p.tables e below P (s₁.setTop (mkF m 6 #[.val (.int p1), .val (.int p2), .val (.int p3), .val (.int p4), .val (.int p5), .val (.long j1), .second, .unset, .unset, .unset, .unset, .unset, .unset, .unset, .unset, .unset, .unset, .unset, .unset, .unset] [(.long j5)]))
  refine Go.step (fun t k => XS.lstore X0.here hx rfl (hb hby at_6) rfl (l' := #[.val (.int p1), .val (.int p2), .val (.int p3), .val (.int p4), .val (.int p5), .val (.long j1), .second, .val (.long j5), .second, .unset, .unset, .unset, .unset, .unset, .unset, .unset, .unset, .unset, .unset, .unset]) rfl k) ?_
  show Go p.tables e below P (s₁.setTop (mkF m 8 #[.val (.int p1), .val (.int p2), .val (.int p3), .val (.int p4), .val (.int p5), .val (.long j1), .second, .val (.long j5), .second, .unset, .unset, .unset, .unset, .unset, .unset, .unset, .unset, .unset, .unset, .unset] []))
  refine Go.step (fun t k => XS.iloadN X0.here hx rfl (hb hby at_8) rfl  k) ?_
  show Go p.tables e below P (s₁.setTop (mkF m 9 #[.val (.int p1), .val (.int p2), .val (.int p3), .val (.int p4), .val (.int p5), .val (.long j1), .second, .val (.long j5), .second, .unset, .unset, .unset, .unset, .unset, .unset, .unset, .unset, .unset, .unset, .unset] [(.int p3)]))
  obtain ⟨j9, hj9⟩ : ∃ z : Int64, p3.toInt64 = z := ⟨_, rfl⟩
  refine Go.step (fun t k => i2l_v X0.here hx rfl (hb hby at_9) rfl hj9 k) ?_
  show Go p.tables e below P (s₁.setTop (mkF m 10 #[.val (.int p1), .val (.int p2), .val (.int p3), .val (.int p4), .val (.int p5), .val (.long j1), .second, .val (.long j5), .second, .unset, .unset, .unset, .unset, .unset, .unset, .unset, .unset, .unset, .unset, .unset] [(.long j9)]))
  refine Go.step (fun t k => XS.lstore X0.here hx rfl (hb hby at_10) rfl (l' := #[.val (.int p1), .val (.int p2), .val (.int p3), .val (.int p4), .val (.int p5), .val (.long j1), .second, .val (.long j5), .second, .val (.long j9), .second, .unset, .unset, .unset, .unset, .unset, .unset, .unset, .unset, .unset]) rfl k) ?_
  show Go p.tables e below P (s₁.setTop (mkF m 12 #[.val (.int p1), .val (.int p2), .val (.int p3), .val (.int p4), .val (.int p5), .val (.long j1), .second, .val (.long j5), .second, .val (.long j9), .second, .unset, .unset, .unset, .unset, .unset, .unset, .unset, .unset, .unset] []))
  refine Go.step (fun t k => XS.iload X0.here hx rfl (hb hby at_12) rfl  k) ?_
  show Go p.tables e below P (s₁.setTop (mkF m 14 #[.val (.int p1), .val (.int p2), .val (.int p3), .val (.int p4), .val (.int p5), .val (.long j1), .second, .val (.long j5), .second, .val (.long j9), .second, .unset, .unset, .unset, .unset, .unset, .unset, .unset, .unset, .unset] [(.int p5)]))
  refine Go.step (fun t k => XS.iconst X0.here hx rfl (hb hby at_14) k) ?_
  show Go p.tables e below P (s₁.setTop (mkF m 15 #[.val (.int p1), .val (.int p2), .val (.int p3), .val (.int p4), .val (.int p5), .val (.long j1), .second, .val (.long j5), .second, .val (.long j9), .second, .unset, .unset, .unset, .unset, .unset, .unset, .unset, .unset, .unset] [(.int (3 : Int32)), (.int p5)]))
  obtain ⟨i15, hi15⟩ : ∃ z : Int32, ((p5.toUInt32 >>> ((3 : Int32) &&& 31).toUInt32).toInt32) = z := ⟨_, rfl⟩
  refine Go.step (fun t k => iushr_v X0.here hx rfl (hb hby at_15) rfl  hi15 k) ?_
  show Go p.tables e below P (s₁.setTop (mkF m 16 #[.val (.int p1), .val (.int p2), .val (.int p3), .val (.int p4), .val (.int p5), .val (.long j1), .second, .val (.long j5), .second, .val (.long j9), .second, .unset, .unset, .unset, .unset, .unset, .unset, .unset, .unset, .unset] [(.int i15)]))
  refine Go.step (fun t k => XS.iconst X0.here hx rfl (hb hby at_16) k) ?_
  show Go p.tables e below P (s₁.setTop (mkF m 17 #[.val (.int p1), .val (.int p2), .val (.int p3), .val (.int p4), .val (.int p5), .val (.long j1), .second, .val (.long j5), .second, .val (.long j9), .second, .unset, .unset, .unset, .unset, .unset, .unset, .unset, .unset, .unset] [(.int (3 : Int32)), (.int i15)]))
  obtain ⟨i17, hi17⟩ : ∃ z : Int32, i15 &&& (3 : Int32) = z := ⟨_, rfl⟩
  refine Go.step (fun t k => iand_v X0.here hx rfl (hb hby at_17) rfl  hi17 k) ?_
  show Go p.tables e below P (s₁.setTop (mkF m 18 #[.val (.int p1), .val (.int p2), .val (.int p3), .val (.int p4), .val (.int p5), .val (.long j1), .second, .val (.long j5), .second, .val (.long j9), .second, .unset, .unset, .unset, .unset, .unset, .unset, .unset, .unset, .unset] [(.int i17)]))
  have f1 := c_i2l p1; rw [hj1] at f1
  have f5 := c_i2l p2; rw [hj5] at f5
  have f9 := c_i2l p3; rw [hj9] at f9
  have g1 := rng32 p1
  have g2 := rng32 p2
  have g3 := rng32 p3
  have g4 := rng32 p4
  refine Go.step (fun t k => XS.istore X0.here hx rfl (hb hby at_18) rfl (l' := #[.val (.int p1), .val (.int p2), .val (.int p3), .val (.int p4), .val (.int p5), .val (.long j1), .second, .val (.long j5), .second, .val (.long j9), .second, .val (.int i17), .unset, .unset, .unset, .unset, .unset, .unset, .unset, .unset]) rfl k) ?_
  show Go p.tables e below P (s₁.setTop (mkF m 20 #[.val (.int p1), .val (.int p2), .val (.int p3), .val (.int p4), .val (.int p5), .val (.long j1), .second, .val (.long j5), .second, .val (.long j9), .second, .val (.int i17), .unset, .unset, .unset, .unset, .unset, .unset, .unset, .unset] []))
  have J60 : ∀ (ja : Int64) (jb : Int64) (jc : Int64), ((-2147483648 ≤ ja.toInt ∧ ja.toInt ≤ 2147483647) ∧ (-2147483648 ≤ jb.toInt ∧ jb.toInt ≤ 2147483647) ∧ (-2147483648 ≤ jc.toInt ∧ jc.toInt ≤ 2147483647)) → Go p.tables e below P (s₁.setTop (mkF m 60 #[.val (.int p1), .val (.int p2), .val (.int p3), .val (.int p4), .val (.int p5), .val (.long ja), .second, .val (.long jb), .second, .val (.long jc), .second, .val (.int i17), .unset, .unset, .unset, .unset, .unset, .unset, .unset, .unset] [])) := by
    intro ja jb jc hj_
    show Go p.tables e below P (s₁.setTop (mkF m 60 #[.val (.int p1), .val (.int p2), .val (.int p3), .val (.int p4), .val (.int p5), .val (.long ja), .second, .val (.long jb), .second, .val (.long jc), .second, .val (.int i17), .unset, .unset, .unset, .unset, .unset, .unset, .unset, .unset] []))
    obtain ⟨bja, bjb, bjc⟩ := hj_
    refine Go.step (fun t k => XS.iload X0.here hx rfl (hb hby at_60) rfl  k) ?_
    show Go p.tables e below P (s₁.setTop (mkF m 62 #[.val (.int p1), .val (.int p2), .val (.int p3), .val (.int p4), .val (.int p5), .val (.long ja), .second, .val (.long jb), .second, .val (.long jc), .second, .val (.int i17), .unset, .unset, .unset, .unset, .unset, .unset, .unset, .unset] [(.int p5)]))
    refine Go.step (fun t k => XS.iconst X0.here hx rfl (hb hby at_62) k) ?_
    show Go p.tables e below P (s₁.setTop (mkF m 63 #[.val (.int p1), .val (.int p2), .val (.int p3), .val (.int p4), .val (.int p5), .val (.long ja), .second, .val (.long jb), .second, .val (.long jc), .second, .val (.int i17), .unset, .unset, .unset, .unset, .unset, .unset, .unset, .unset] [(.int (4 : Int32)), (.int p5)]))
    obtain ⟨i63, hi63⟩ : ∃ z : Int32, p5 &&& (4 : Int32) = z := ⟨_, rfl⟩
    refine Go.step (fun t k => iand_v X0.here hx rfl (hb hby at_63) rfl  hi63 k) ?_
    show Go p.tables e below P (s₁.setTop (mkF m 64 #[.val (.int p1), .val (.int p2), .val (.int p3), .val (.int p4), .val (.int p5), .val (.long ja), .second, .val (.long jb), .second, .val (.long jc), .second, .val (.int i17), .unset, .unset, .unset, .unset, .unset, .unset, .unset, .unset] [(.int i63)]))
    by_cases hc64 : i63.toInt = 0
    · refine Go.step (fun t k => XS.ifYes X0.here hx rfl (pc0 := 64) (pc' := 123) rfl (hb hby at_64) rfl (ifY (cd := .eq) hc64) (by decide) (by decide) k) ?_
      show Go p.tables e below P (s₁.setTop (mkF m 123 #[.val (.int p1), .val (.int p2), .val (.int p3), .val (.int p4), .val (.int p5), .val (.long ja), .second, .val (.long jb), .second, .val (.long jc), .second, .val (.int i17), .unset, .unset, .unset, .unset, .unset, .unset, .unset, .unset] []))
      have J186 : ∀ (ja : Int64) (jb : Int64) (jc : Int64) (jo : Int64) (io : Int32) (jx : Int64), ((-2147483648 ≤ ja.toInt ∧ ja.toInt ≤ 2147483647) ∧ (-2147483648 ≤ jb.toInt ∧ jb.toInt ≤ 2147483647) ∧ (-2147483648 ≤ jc.toInt ∧ jc.toInt ≤ 2147483647) ∧ (-2147483651 ≤ jx.toInt ∧ jx.toInt ≤ 2147483650)) → Go p.tables e below P (s₁.setTop (mkF m 186 #[.val (.int p1), .val (.int p2), .val (.int p3), .val (.int p4), .val (.int p5), .val (.long ja), .second, .val (.long jb), .second, .val (.long jc), .second, .val (.int i17), .val (.long jo), .second, .val (.int io), .val (.long jx), .second, .unset, .unset, .unset] [])) := by
        intro ja jb jc jo io jx hj_
        show Go p.tables e below P (s₁.setTop (mkF m 186 #[.val (.int p1), .val (.int p2), .val (.int p3), .val (.int p4), .val (.int p5), .val (.long ja), .second, .val (.long jb), .second, .val (.long jc), .second, .val (.int i17), .val (.long jo), .second, .val (.int io), .val (.long jx), .second, .unset, .unset, .unset] []))
        obtain ⟨bja, bjb, bjc, bjx⟩ := hj_
        obtain ⟨T_1, h_1, X_1, e_1, E_1, A_1, D_1, -, st_1⟩ := newO X0 hx hZ hown (hw _ (List.mem_of_getElem? (i := 0) rfl)) (hw _ (List.mem_of_getElem? (i := 1) rfl)) (hw _ (List.mem_of_getElem? (i := 2) rfl)) e0 (g := (mkF m 186 #[.val (.int p1), .val (.int p2), .val (.int p3), .val (.int p4), .val (.int p5), .val (.long ja), .second, .val (.long jb), .second, .val (.long jc), .second, .val (.int i17), .val (.long jo), .second, .val (.int io), .val (.long jx), .second, .unset, .unset, .unset] [])) rfl (hb hby at_186) (by decide) (by decide)
        obtain ⟨b_1, g_1⟩ : ∃ z, z = h0.size := ⟨_, rfl⟩
        rw [← g_1] at A_1 D_1 st_1
        have g_b_1 : n0 ≤ b_1 := Nat.le_trans Z0 (Nat.le_of_eq g_1.symm)
        have sz_b_1 : h0.size ≤ b_1 := Nat.le_trans (Keep.refl h0 []).1 (Nat.le_of_eq g_1.symm)
        have F_name_b_1 : Fld Z h_1 b_1 "com/example/orabona/orabona/model/FuzzySet$Triangular" "name" "Ljava/lang/String;" .null := D_1 (Or.inr (hw _ (List.mem_of_getElem? (i := 23) rfl))) (ty := (.object "java/lang/String")) (by decide)
        have F_a_b_1 : Fld Z h_1 b_1 "com/example/orabona/orabona/model/FuzzySet$Triangular" "a" "D" (.double (0 : UInt64)) := D_1 (Or.inr (hw _ (List.mem_of_getElem? (i := 25) rfl))) (ty := .double) (by decide)
        have F_b_b_1 : Fld Z h_1 b_1 "com/example/orabona/orabona/model/FuzzySet$Triangular" "b" "D" (.double (0 : UInt64)) := D_1 (Or.inr (hw _ (List.mem_of_getElem? (i := 27) rfl))) (ty := .double) (by decide)
        have F_c_b_1 : Fld Z h_1 b_1 "com/example/orabona/orabona/model/FuzzySet$Triangular" "c" "D" (.double (0 : UInt64)) := D_1 (Or.inr (hw _ (List.mem_of_getElem? (i := 29) rfl))) (ty := .double) (by decide)
        have K_1 : Keep h0 h_1 [] := (Keep.refl h0 []).ext E_1
        have Z_1 : n0 ≤ h_1.size := Nat.le_trans Z0 E_1.1
        refine Go.step (fun t k => st_1 t k) ?_
        show Go p.tables e below P (T_1.setTop (mkF m 189 #[.val (.int p1), .val (.int p2), .val (.int p3), .val (.int p4), .val (.int p5), .val (.long ja), .second, .val (.long jb), .second, .val (.long jc), .second, .val (.int i17), .val (.long jo), .second, .val (.int io), .val (.long jx), .second, .unset, .unset, .unset] [(.ref b_1)]))
        refine Go.step (fun t k => XS.dup X_1.here hx rfl (hb hby at_189) rfl rfl k) ?_
        show Go p.tables e below P (T_1.setTop (mkF m 190 #[.val (.int p1), .val (.int p2), .val (.int p3), .val (.int p4), .val (.int p5), .val (.long ja), .second, .val (.long jb), .second, .val (.long jc), .second, .val (.int i17), .val (.long jo), .second, .val (.int io), .val (.long jx), .second, .unset, .unset, .unset] [(.ref b_1), (.ref b_1)]))
        have wS_2 : ∀ d ∈ Bundle.stringAtoms, d.before a0 Z = true := by
          intro d hd
          simp only [Bundle.stringAtoms, List.mem_cons, List.not_mem_nil, or_false] at hd
          rcases hd with rfl | rfl | rfl | rfl | rfl | rfl | rfl
          · exact (hw _ (List.mem_of_getElem? (i := 4) rfl))
          · exact (hw _ (List.mem_of_getElem? (i := 5) rfl))
          · exact (hw _ (List.mem_of_getElem? (i := 6) rfl))
          · exact (hw _ (List.mem_of_getElem? (i := 7) rfl))
          · exact (hw _ (List.mem_of_getElem? (i := 8) rfl))
          · exact (hw _ (List.mem_of_getElem? (i := 9) rfl))
          · exact (hw _ (List.mem_of_getElem? (i := 10) rfl))
        obtain ⟨b_2, T_2, h_2, kk_2, X_2, e_2, E_2, hS, hk_2, hZ, hown, st_2⟩ := ldcS (s := s) (vm0 := s.vm) X_1 hx hZ hown (hw _ (List.mem_of_getElem? (i := 3) rfl)) wS_2 e_1 ((State.WarmedH.refl s).since _) K_1.1 (g := (mkF m 190 #[.val (.int p1), .val (.int p2), .val (.int p3), .val (.int p4), .val (.int p5), .val (.long ja), .second, .val (.long jb), .second, .val (.long jc), .second, .val (.int i17), .val (.long jo), .second, .val (.int io), .val (.long jx), .second, .unset, .unset, .unset] [(.ref b_1), (.ref b_1)])) rfl (hb hby at_190) (n := 4) (by decide) (by decide) (by decide) (by decide)
        have K_2 : Keep h0 h_2 [] := K_1.ext E_2
        have Z_2 : n0 ≤ h_2.size := Nat.le_trans Z_1 E_2.1
        refine Go.step (fun t k => st_2 t k) ?_
        show Go p.tables e below P (T_2.setTop (mkF m 192 #[.val (.int p1), .val (.int p2), .val (.int p3), .val (.int p4), .val (.int p5), .val (.long ja), .second, .val (.long jb), .second, .val (.long jc), .second, .val (.int i17), .val (.long jo), .second, .val (.int io), .val (.long jx), .second, .unset, .unset, .unset] [(.ref b_2), (.ref b_1), (.ref b_1)]))
        refine Go.step (fun t k => XS.lload X_2.here hx rfl (hb hby at_192) rfl  k) ?_
        show Go p.tables e below P (T_2.setTop (mkF m 194 #[.val (.int p1), .val (.int p2), .val (.int p3), .val (.int p4), .val (.int p5), .val (.long ja), .second, .val (.long jb), .second, .val (.long jc), .second, .val (.int i17), .val (.long jo), .second, .val (.int io), .val (.long jx), .second, .unset, .unset, .unset] [(.long ja), (.ref b_2), (.ref b_1), (.ref b_1)]))
        obtain ⟨d194, hd194⟩ : ∃ z : UInt64, FP.l2d ja = z := ⟨_, rfl⟩
        refine Go.step (fun t k => XS.l2dS X_2.here hx rfl (hb hby at_194) rfl hd194 k) ?_
        show Go p.tables e below P (T_2.setTop (mkF m 195 #[.val (.int p1), .val (.int p2), .val (.int p3), .val (.int p4), .val (.int p5), .val (.long ja), .second, .val (.long jb), .second, .val (.long jc), .second, .val (.int i17), .val (.long jo), .second, .val (.int io), .val (.long jx), .second, .unset, .unset, .unset] [(.double d194), (.ref b_2), (.ref b_1), (.ref b_1)]))
        have qja := l2d_e (x := ja) (by omega); rw [hd194] at qja
        refine Go.step (fun t k => XS.lload X_2.here hx rfl (hb hby at_195) rfl  k) ?_
        show Go p.tables e below P (T_2.setTop (mkF m 197 #[.val (.int p1), .val (.int p2), .val (.int p3), .val (.int p4), .val (.int p5), .val (.long ja), .second, .val (.long jb), .second, .val (.long jc), .second, .val (.int i17), .val (.long jo), .second, .val (.int io), .val (.long jx), .second, .unset, .unset, .unset] [(.long jb), (.double d194), (.ref b_2), (.ref b_1), (.ref b_1)]))
        obtain ⟨d197, hd197⟩ : ∃ z : UInt64, FP.l2d jb = z := ⟨_, rfl⟩
        refine Go.step (fun t k => XS.l2dS X_2.here hx rfl (hb hby at_197) rfl hd197 k) ?_
        show Go p.tables e below P (T_2.setTop (mkF m 198 #[.val (.int p1), .val (.int p2), .val (.int p3), .val (.int p4), .val (.int p5), .val (.long ja), .second, .val (.long jb), .second, .val (.long jc), .second, .val (.int i17), .val (.long jo), .second, .val (.int io), .val (.long jx), .second, .unset, .unset, .unset] [(.double d197), (.double d194), (.ref b_2), (.ref b_1), (.ref b_1)]))
        have qjb := l2d_e (x := jb) (by omega); rw [hd197] at qjb
        refine Go.step (fun t k => XS.lload X_2.here hx rfl (hb hby at_198) rfl  k) ?_
        show Go p.tables e below P (T_2.setTop (mkF m 200 #[.val (.int p1), .val (.int p2), .val (.int p3), .val (.int p4), .val (.int p5), .val (.long ja), .second, .val (.long jb), .second, .val (.long jc), .second, .val (.int i17), .val (.long jo), .second, .val (.int io), .val (.long jx), .second, .unset, .unset, .unset] [(.long jc), (.double d197), (.double d194), (.ref b_2), (.ref b_1), (.ref b_1)]))
        obtain ⟨d200, hd200⟩ : ∃ z : UInt64, FP.l2d jc = z := ⟨_, rfl⟩
        refine Go.step (fun t k => XS.l2dS X_2.here hx rfl (hb hby at_200) rfl hd200 k) ?_
        show Go p.tables e below P (T_2.setTop (mkF m 201 #[.val (.int p1), .val (.int p2), .val (.int p3), .val (.int p4), .val (.int p5), .val (.long ja), .second, .val (.long jb), .second, .val (.long jc), .second, .val (.int i17), .val (.long jo), .second, .val (.int io), .val (.long jx), .second, .unset, .unset, .unset] [(.double d200), (.double d197), (.double d194), (.ref b_2), (.ref b_1), (.ref b_1)]))
        have qjc := l2d_e (x := jc) (by omega); rw [hd200] at qjc
        obtain ⟨_, _, ⟨T_3, L_3, k_3, n_3⟩, -, X_3, ⟨Lc_3, hQ_3, l_3, y_3, z_3⟩, st_3⟩ := X_2.specialBack hx (y := (⟨"com/example/orabona/orabona/model/FuzzySet$Triangular", "<init>", "(Ljava/lang/String;DDD)V"⟩ : MethodName)) rfl hown (mvT hZ (hw _ (List.mem_of_getElem? (i := 11) rfl))) (mvT hZ (hw _ (List.mem_of_getElem? (i := 12) rfl))) (mvT hZ (hw _ (List.mem_of_getElem? (i := 13) rfl))) (by decide) (backOf (W := 1) (rm4 l Z a0 hw [] b_1 b_2 d194 d197 d200 h_2 n0 Z_2 (A_1.ext E_2) (F_name_b_1.ext E_2) (F_a_b_1.ext E_2) (F_b_b_1.ext E_2) (F_c_b_1.ext E_2) g_b_1 ) hZ (hw _ (List.mem_of_getElem? (i := 13) rfl)) (hw _ (List.mem_of_getElem? (i := 2) rfl)) (by decide) (by decide)) (g := (mkF m 201 #[.val (.int p1), .val (.int p2), .val (.int p3), .val (.int p4), .val (.int p5), .val (.long ja), .second, .val (.long jb), .second, .val (.long jc), .second, .val (.int i17), .val (.long jo), .second, .val (.int io), .val (.long jx), .second, .unset, .unset, .unset] [(.double d200), (.double d197), (.double d194), (.ref b_2), (.ref b_1), (.ref b_1)])) rfl (by rw [hml]; rfl) (Steps.refl _) (a := b_1) (argsL := [(.ref b_2), (.double d194), (.double d197), (.double d200)]) (rest := [(.ref b_1)]) (lenOf pd_1 rfl) rfl (by show 2 * 0 + _ ≤ _; exact Nat.le_of_eq rfl) (hb hby at_201) (fun _ _ => ⟨rfl, e_2, (by decide : 3 + 0 ≤ _), (by decide : 12 + 0 ≤ _)⟩)
        dsimp only [Pt.U, Pt.locs, Pt.cells, Pt.slots] at X_3 l_3 y_3 z_3 st_3 hQ_3
        subst l_3 y_3 z_3
        obtain ⟨rfl, N_3q, Kc_3, Ee_3, Ff_name__3, Ff_a__3, Ff_b__3, Ff_c__3⟩ := hQ_3
        have N_3 := Fr.app N0 N_3q
        have K_3 : Keep h0 T_3.heap [] := K_2.trans Kc_3 (allS (Or.inr sz_b_1) all0)
        have Z_3 : n0 ≤ T_3.heap.size := Nat.le_trans Z_2 Kc_3.1
        refine Go.tr st_3 ?_
        show Go p.tables e below P (T_3.setTop (mkF m 204 #[.val (.int p1), .val (.int p2), .val (.int p3), .val (.int p4), .val (.int p5), .val (.long ja), .second, .val (.long jb), .second, .val (.long jc), .second, .val (.int i17), .val (.long jo), .second, .val (.int io), .val (.long jx), .second, .unset, .unset, .unset] [(.ref b_1)]))
        refine Go.step (fun t k => XS.astore X_3.here hx rfl (hb hby at_204) rfl rfl (l' := #[.val (.int p1), .val (.int p2), .val (.int p3), .val (.int p4), .val (.int p5), .val (.long ja), .second, .val (.long jb), .second, .val (.long jc), .second, .val (.int i17), .val (.long jo), .second, .val (.int io), .val (.long jx), .second, .val (.ref b_1), .unset, .unset]) rfl k) ?_
        show Go p.tables e below P (T_3.setTop (mkF m 206 #[.val (.int p1), .val (.int p2), .val (.int p3), .val (.int p4), .val (.int p5), .val (.long ja), .second, .val (.long jb), .second, .val (.long jc), .second, .val (.int i17), .val (.long jo), .second, .val (.int io), .val (.long jx), .second, .val (.ref b_1), .unset, .unset] []))
        refine Go.step (fun t k => XS.aload X_3.here hx rfl (hb hby at_206) rfl rfl k) ?_
        show Go p.tables e below P (T_3.setTop (mkF m 208 #[.val (.int p1), .val (.int p2), .val (.int p3), .val (.int p4), .val (.int p5), .val (.long ja), .second, .val (.long jb), .second, .val (.long jc), .second, .val (.int i17), .val (.long jo), .second, .val (.int io), .val (.long jx), .second, .val (.ref b_1), .unset, .unset] [(.ref b_1)]))
        refine Go.step (fun t k => XS.lload X_3.here hx rfl (hb hby at_208) rfl  k) ?_
        show Go p.tables e below P (T_3.setTop (mkF m 210 #[.val (.int p1), .val (.int p2), .val (.int p3), .val (.int p4), .val (.int p5), .val (.long ja), .second, .val (.long jb), .second, .val (.long jc), .second, .val (.int i17), .val (.long jo), .second, .val (.int io), .val (.long jx), .second, .val (.ref b_1), .unset, .unset] [(.long jx), (.ref b_1)]))
        obtain ⟨d210, hd210⟩ : ∃ z : UInt64, FP.l2d jx = z := ⟨_, rfl⟩
        refine Go.step (fun t k => XS.l2dS X_3.here hx rfl (hb hby at_210) rfl hd210 k) ?_
        show Go p.tables e below P (T_3.setTop (mkF m 211 #[.val (.int p1), .val (.int p2), .val (.int p3), .val (.int p4), .val (.int p5), .val (.long ja), .second, .val (.long jb), .second, .val (.long jc), .second, .val (.int i17), .val (.long jo), .second, .val (.int io), .val (.long jx), .second, .val (.ref b_1), .unset, .unset] [(.double d210), (.ref b_1)]))
        have qjx := l2d_e (x := jx) (by omega); rw [hd210] at qjx
        obtain ⟨cq_4, kq_4, q_4a, q_4b, q_4c⟩ := isOf hZ rfl ((A_1.ext E_2).keep Kc_3)
        obtain ⟨_, _, ⟨T_4, L_4, k_4, n_4⟩, -, X_4, ⟨Lc_4, hQ_4, l_4, y_4, z_4⟩, st_4⟩ := X_3.virtualBack hx (y := (⟨"com/example/orabona/orabona/model/FuzzySet$Triangular", "degree", "(D)D"⟩ : MethodName)) (z := (⟨"com/example/orabona/orabona/model/FuzzySet$Triangular", "degree", "(D)D"⟩ : MethodName)) hown (mvT hZ (hw _ (List.mem_of_getElem? (i := 30) rfl))) (mvT hZ (hw _ (List.mem_of_getElem? (i := 31) rfl))) (notFace_of_selects (args := #[]) (mvT hZ (hw _ (List.mem_of_getElem? (i := 33) rfl)))) (mvT hZ (hw _ (List.mem_of_getElem? (i := 33) rfl))) (mvT hZ (hw _ (List.mem_of_getElem? (i := 32) rfl))) (by decide) (backOf (W := 0) (rm5 l Z a0 hw [] b_1 d210 d194 d197 d200 ja.toInt jb.toInt jc.toInt jx.toInt T_3.heap n0 Z_3 Ff_a__3 Ff_b__3 Ff_c__3 qja qjb qjc qjx bja bjb bjc bjx) hZ (hw _ (List.mem_of_getElem? (i := 34) rfl)) (hw _ (List.mem_of_getElem? (i := 2) rfl)) (by decide) (by decide)) q_4a q_4c (g := (mkF m 211 #[.val (.int p1), .val (.int p2), .val (.int p3), .val (.int p4), .val (.int p5), .val (.long ja), .second, .val (.long jb), .second, .val (.long jc), .second, .val (.int i17), .val (.long jo), .second, .val (.int io), .val (.long jx), .second, .val (.ref b_1), .unset, .unset] [(.double d210), (.ref b_1)])) rfl (by rw [hml]; rfl) (Steps.refl _) (argsL := [(.double d210)]) (rest := []) (lenOf pd_2 rfl) rfl (by show 2 * 0 + _ ≤ _; exact Nat.le_of_eq rfl) (hb hby at_211) (fun _ _ => ⟨rfl, rfl, (by decide : 3 + 0 ≤ _), (by decide : 12 + 0 ≤ _)⟩)
        dsimp only [Pt.U, Pt.locs, Pt.cells, Pt.slots] at X_4 l_4 y_4 z_4 st_4 hQ_4
        subst l_4 y_4 z_4
        obtain ⟨dg, rfl, hdg, N_4q, eh_4⟩ := hQ_4
        have N_4 := Fr.app N_3 N_4q
        refine Go.tr st_4 ?_
        show Go p.tables e below P (T_4.setTop (mkF m 214 #[.val (.int p1), .val (.int p2), .val (.int p3), .val (.int p4), .val (.int p5), .val (.long ja), .second, .val (.long jb), .second, .val (.long jc), .second, .val (.int i17), .val (.long jo), .second, .val (.int io), .val (.long jx), .second, .val (.ref b_1), .unset, .unset] [(.double dg)]))
        refine Go.step (fun t k => XS.dstore X_4.here hx rfl (hb hby at_214) rfl (l' := #[.val (.int p1), .val (.int p2), .val (.int p3), .val (.int p4), .val (.int p5), .val (.long ja), .second, .val (.long jb), .second, .val (.long jc), .second, .val (.int i17), .val (.long jo), .second, .val (.int io), .val (.long jx), .second, .val (.ref b_1), .val (.double dg), .second]) rfl k) ?_
        show Go p.tables e below P (T_4.setTop (mkF m 216 #[.val (.int p1), .val (.int p2), .val (.int p3), .val (.int p4), .val (.int p5), .val (.long ja), .second, .val (.long jb), .second, .val (.long jc), .second, .val (.int i17), .val (.long jo), .second, .val (.int io), .val (.long jx), .second, .val (.ref b_1), .val (.double dg), .second] []))
        refine Go.step (fun t k => XS.lload X_4.here hx rfl (hb hby at_216) rfl  k) ?_
        show Go p.tables e below P (T_4.setTop (mkF m 218 #[.val (.int p1), .val (.int p2), .val (.int p3), .val (.int p4), .val (.int p5), .val (.long ja), .second, .val (.long jb), .second, .val (.long jc), .second, .val (.int i17), .val (.long jo), .second, .val (.int io), .val (.long jx), .second, .val (.ref b_1), .val (.double dg), .second] [(.long jx)]))
        refine Go.step (fun t k => XS.lload X_4.here hx rfl (hb hby at_218) rfl  k) ?_
        show Go p.tables e below P (T_4.setTop (mkF m 220 #[.val (.int p1), .val (.int p2), .val (.int p3), .val (.int p4), .val (.int p5), .val (.long ja), .second, .val (.long jb), .second, .val (.long jc), .second, .val (.int i17), .val (.long jo), .second, .val (.int io), .val (.long jx), .second, .val (.ref b_1), .val (.double dg), .second] [(.long jb), (.long jx)]))
        refine Go.step (fun t k => XS.lcmp X_4.here hx rfl (hb hby at_220) rfl k) ?_
        show Go p.tables e below P (T_4.setTop (mkF m 221 #[.val (.int p1), .val (.int p2), .val (.int p3), .val (.int p4), .val (.int p5), .val (.long ja), .second, .val (.long jb), .second, .val (.long jc), .second, .val (.int i17), .val (.long jo), .second, .val (.int io), .val (.long jx), .second, .val (.ref b_1), .val (.double dg), .second] [(.int (lcmpW jx jb))]))
        by_cases hc221 : ¬ jx.toInt = jb.toInt
        · refine Go.step (fun t k => XS.ifYes X_4.here hx rfl (pc0 := 221) (pc' := 237) rfl (hb hby at_221) rfl (lcY (cd := .ne) hc221) (by decide) (by decide) k) ?_
          show Go p.tables e below P (T_4.setTop (mkF m 237 #[.val (.int p1), .val (.int p2), .val (.int p3), .val (.int p4), .val (.int p5), .val (.long ja), .second, .val (.long jb), .second, .val (.long jc), .second, .val (.int i17), .val (.long jo), .second, .val (.int io), .val (.long jx), .second, .val (.ref b_1), .val (.double dg), .second] []))
          refine Go.step (fun t k => XS.lload X_4.here hx rfl (hb hby at_237) rfl  k) ?_
          show Go p.tables e below P (T_4.setTop (mkF m 239 #[.val (.int p1), .val (.int p2), .val (.int p3), .val (.int p4), .val (.int p5), .val (.long ja), .second, .val (.long jb), .second, .val (.long jc), .second, .val (.int i17), .val (.long jo), .second, .val (.int io), .val (.long jx), .second, .val (.ref b_1), .val (.double dg), .second] [(.long jx)]))
          refine Go.step (fun t k => XS.lload X_4.here hx rfl (hb hby at_239) rfl  k) ?_
          show Go p.tables e below P (T_4.setTop (mkF m 241 #[.val (.int p1), .val (.int p2), .val (.int p3), .val (.int p4), .val (.int p5), .val (.long ja), .second, .val (.long jb), .second, .val (.long jc), .second, .val (.int i17), .val (.long jo), .second, .val (.int io), .val (.long jx), .second, .val (.ref b_1), .val (.double dg), .second] [(.long ja), (.long jx)]))
          refine Go.step (fun t k => XS.lcmp X_4.here hx rfl (hb hby at_241) rfl k) ?_
          show Go p.tables e below P (T_4.setTop (mkF m 242 #[.val (.int p1), .val (.int p2), .val (.int p3), .val (.int p4), .val (.int p5), .val (.long ja), .second, .val (.long jb), .second, .val (.long jc), .second, .val (.int i17), .val (.long jo), .second, .val (.int io), .val (.long jx), .second, .val (.ref b_1), .val (.double dg), .second] [(.int (lcmpW jx ja))]))
          by_cases hc242 : jx.toInt ≤ ja.toInt
          · refine Go.step (fun t k => XS.ifYes X_4.here hx rfl (pc0 := 242) (pc' := 253) rfl (hb hby at_242) rfl (lcY (cd := .le) hc242) (by decide) (by decide) k) ?_
            show Go p.tables e below P (T_4.setTop (mkF m 253 #[.val (.int p1), .val (.int p2), .val (.int p3), .val (.int p4), .val (.int p5), .val (.long ja), .second, .val (.long jb), .second, .val (.long jc), .second, .val (.int i17), .val (.long jo), .second, .val (.int io), .val (.long jx), .second, .val (.ref b_1), .val (.double dg), .second] []))
            have hq1 : dg = FP.dconst0 := by rcases hdg with ⟨h, _⟩ | ⟨_, _, h⟩ | ⟨h, _, h', _⟩ | ⟨h, _, h', _⟩; omega; exact h; omega; omega
            have q1 : DE 1074 0 dg := by rw [hq1]; exact zero_e 1074
            refine Go.step (fun t k => XS.dload X_4.here hx rfl (hb hby at_253) rfl  k) ?_
            show Go p.tables e below P (T_4.setTop (mkF m 255 #[.val (.int p1), .val (.int p2), .val (.int p3), .val (.int p4), .val (.int p5), .val (.long ja), .second, .val (.long jb), .second, .val (.long jc), .second, .val (.int i17), .val (.long jo), .second, .val (.int io), .val (.long jx), .second, .val (.ref b_1), .val (.double dg), .second] [(.double dg)]))
            refine Go.step (fun t k => XS.dconst0 X_4.here hx rfl (hb hby at_255) rfl k) ?_
            show Go p.tables e below P (T_4.setTop (mkF m 256 #[.val (.int p1), .val (.int p2), .val (.int p3), .val (.int p4), .val (.int p5), .val (.long ja), .second, .val (.long jb), .second, .val (.long jc), .second, .val (.int i17), .val (.long jo), .second, .val (.int io), .val (.long jx), .second, .val (.ref b_1), .val (.double dg), .second] [(.double FP.dconst0), (.double dg)]))
            refine Go.step (fun t k => XS.dcmpS X_4.here hx rfl (hb hby at_256) rfl rfl k) ?_
            show Go p.tables e below P (T_4.setTop (mkF m 257 #[.val (.int p1), .val (.int p2), .val (.int p3), .val (.int p4), .val (.int p5), .val (.long ja), .second, .val (.long jb), .second, .val (.long jc), .second, .val (.int i17), .val (.long jo), .second, .val (.int io), .val (.long jx), .second, .val (.ref b_1), .val (.double dg), .second] [(.int (cmpValue (FP.dcmp dg FP.dconst0) .l))]))
            refine Go.step (fun t k => XS.ifNo X_4.here hx rfl (hb hby at_257) rfl (dcN (cd := .ne) (DE.cmp q1 (zero_e 1074)) (fun q => q rfl)) k) ?_
            show Go p.tables e below P (T_4.setTop (mkF m 260 #[.val (.int p1), .val (.int p2), .val (.int p3), .val (.int p4), .val (.int p5), .val (.long ja), .second, .val (.long jb), .second, .val (.long jc), .second, .val (.int i17), .val (.long jo), .second, .val (.int io), .val (.long jx), .second, .val (.ref b_1), .val (.double dg), .second] []))
            refine Go.step (fun t k => XS.iconst X_4.here hx rfl (hb hby at_260) k) ?_
            show Go p.tables e below P (T_4.setTop (mkF m 261 #[.val (.int p1), .val (.int p2), .val (.int p3), .val (.int p4), .val (.int p5), .val (.long ja), .second, .val (.long jb), .second, .val (.long jc), .second, .val (.int i17), .val (.long jo), .second, .val (.int io), .val (.long jx), .second, .val (.ref b_1), .val (.double dg), .second] [(.int (1 : Int32))]))
            refine Go.step (fun t k => XS.goto X_4.here hx rfl (pc0 := 261) (pc' := 265) rfl (hb hby at_261) (by decide) (by decide) k) ?_
            show Go p.tables e below P (T_4.setTop (mkF m 265 #[.val (.int p1), .val (.int p2), .val (.int p3), .val (.int p4), .val (.int p5), .val (.long ja), .second, .val (.long jb), .second, .val (.long jc), .second, .val (.int i17), .val (.long jo), .second, .val (.int io), .val (.long jx), .second, .val (.ref b_1), .val (.double dg), .second] [(.int (1 : Int32))]))
            exact retGoW X_4 hx hS (by rw [eh_4]; exact (Nat.le_trans hk_2 Kc_3.1)) hP Bd.returns hlk rfl (Or.inl ⟨rfl, Or.inr (Or.inl rfl), _, rfl⟩) (hb hby at_265) (by decide) (by decide) (by rw [eh_4]; exact ⟨rfl, N_4⟩)
          · refine Go.step (fun t k => XS.ifNo X_4.here hx rfl (hb hby at_242) rfl (lcN (cd := .le) hc242) k) ?_
            show Go p.tables e below P (T_4.setTop (mkF m 245 #[.val (.int p1), .val (.int p2), .val (.int p3), .val (.int p4), .val (.int p5), .val (.long ja), .second, .val (.long jb), .second, .val (.long jc), .second, .val (.int i17), .val (.long jo), .second, .val (.int io), .val (.long jx), .second, .val (.ref b_1), .val (.double dg), .second] []))
            refine Go.step (fun t k => XS.lload X_4.here hx rfl (hb hby at_245) rfl  k) ?_
            show Go p.tables e below P (T_4.setTop (mkF m 247 #[.val (.int p1), .val (.int p2), .val (.int p3), .val (.int p4), .val (.int p5), .val (.long ja), .second, .val (.long jb), .second, .val (.long jc), .second, .val (.int i17), .val (.long jo), .second, .val (.int io), .val (.long jx), .second, .val (.ref b_1), .val (.double dg), .second] [(.long jx)]))
            refine Go.step (fun t k => XS.lload X_4.here hx rfl (hb hby at_247) rfl  k) ?_
            show Go p.tables e below P (T_4.setTop (mkF m 249 #[.val (.int p1), .val (.int p2), .val (.int p3), .val (.int p4), .val (.int p5), .val (.long ja), .second, .val (.long jb), .second, .val (.long jc), .second, .val (.int i17), .val (.long jo), .second, .val (.int io), .val (.long jx), .second, .val (.ref b_1), .val (.double dg), .second] [(.long jc), (.long jx)]))
            refine Go.step (fun t k => XS.lcmp X_4.here hx rfl (hb hby at_249) rfl k) ?_
            show Go p.tables e below P (T_4.setTop (mkF m 250 #[.val (.int p1), .val (.int p2), .val (.int p3), .val (.int p4), .val (.int p5), .val (.long ja), .second, .val (.long jb), .second, .val (.long jc), .second, .val (.int i17), .val (.long jo), .second, .val (.int io), .val (.long jx), .second, .val (.ref b_1), .val (.double dg), .second] [(.int (lcmpW jx jc))]))
            by_cases hc250 : jx.toInt < jc.toInt
            · refine Go.step (fun t k => XS.ifYes X_4.here hx rfl (pc0 := 250) (pc' := 266) rfl (hb hby at_250) rfl (lcY (cd := .lt) hc250) (by decide) (by decide) k) ?_
              show Go p.tables e below P (T_4.setTop (mkF m 266 #[.val (.int p1), .val (.int p2), .val (.int p3), .val (.int p4), .val (.int p5), .val (.long ja), .second, .val (.long jb), .second, .val (.long jc), .second, .val (.int i17), .val (.long jo), .second, .val (.int io), .val (.long jx), .second, .val (.ref b_1), .val (.double dg), .second] []))
              have sp : (jx.toInt < jb.toInt ∧ ∃ y z, dg = FP.ddiv y z ∧ DE 1074 (jx.toInt - ja.toInt) y ∧ DE 1074 (jb.toInt - ja.toInt) z) ∨ (jb.toInt < jx.toInt ∧ ∃ y z, dg = FP.ddiv y z ∧ DE 1074 (jc.toInt - jx.toInt) y ∧ DE 1074 (jc.toInt - jb.toInt) z) := by rcases hdg with ⟨h, _⟩ | ⟨_, h, _⟩ | ⟨_, h1, _, h⟩ | ⟨_, h1, _, h⟩; omega; omega; exact Or.inl ⟨h1, h⟩; exact Or.inr ⟨h1, h⟩
              have fr : DB 1040 1 17179869183 dg := by rcases sp with ⟨h0, y, z, rfl, h1, h2⟩ | ⟨h0, y, z, rfl, h1, h2⟩; exact frac h1 h2 (by omega) (by omega) (by omega); exact frac h1 h2 (by omega) (by omega) (by omega)
              refine Go.step (fun t k => XS.dload X_4.here hx rfl (hb hby at_266) rfl  k) ?_
              show Go p.tables e below P (T_4.setTop (mkF m 268 #[.val (.int p1), .val (.int p2), .val (.int p3), .val (.int p4), .val (.int p5), .val (.long ja), .second, .val (.long jb), .second, .val (.long jc), .second, .val (.int i17), .val (.long jo), .second, .val (.int io), .val (.long jx), .second, .val (.ref b_1), .val (.double dg), .second] [(.double dg)]))
              refine Go.step (fun t k => XS.dconst0 X_4.here hx rfl (hb hby at_268) rfl k) ?_
              show Go p.tables e below P (T_4.setTop (mkF m 269 #[.val (.int p1), .val (.int p2), .val (.int p3), .val (.int p4), .val (.int p5), .val (.long ja), .second, .val (.long jb), .second, .val (.long jc), .second, .val (.int i17), .val (.long jo), .second, .val (.int io), .val (.long jx), .second, .val (.ref b_1), .val (.double dg), .second] [(.double FP.dconst0), (.double dg)]))
              refine Go.step (fun t k => XS.dcmpS X_4.here hx rfl (hb hby at_269) rfl rfl k) ?_
              show Go p.tables e below P (T_4.setTop (mkF m 270 #[.val (.int p1), .val (.int p2), .val (.int p3), .val (.int p4), .val (.int p5), .val (.long ja), .second, .val (.long jb), .second, .val (.long jc), .second, .val (.int i17), .val (.long jo), .second, .val (.int io), .val (.long jx), .second, .val (.ref b_1), .val (.double dg), .second] [(.int (cmpValue (FP.dcmp dg FP.dconst0) .l))]))
              refine Go.step (fun t k => XS.ifNo X_4.here hx rfl (hb hby at_270) rfl (dcN (cd := .le) ((fr.gt (zero_e 1040) (by decide)).trans (rfl : _ = some (compare (1 : Int) 0))) (by decide : ¬ ((1 : Int) ≤ (0 : Int)))) k) ?_
              show Go p.tables e below P (T_4.setTop (mkF m 273 #[.val (.int p1), .val (.int p2), .val (.int p3), .val (.int p4), .val (.int p5), .val (.long ja), .second, .val (.long jb), .second, .val (.long jc), .second, .val (.int i17), .val (.long jo), .second, .val (.int io), .val (.long jx), .second, .val (.ref b_1), .val (.double dg), .second] []))
              refine Go.step (fun t k => XS.dload X_4.here hx rfl (hb hby at_273) rfl  k) ?_
              show Go p.tables e below P (T_4.setTop (mkF m 275 #[.val (.int p1), .val (.int p2), .val (.int p3), .val (.int p4), .val (.int p5), .val (.long ja), .second, .val (.long jb), .second, .val (.long jc), .second, .val (.int i17), .val (.long jo), .second, .val (.int io), .val (.long jx), .second, .val (.ref b_1), .val (.double dg), .second] [(.double dg)]))
              refine Go.step (fun t k => XS.dconst1 X_4.here hx rfl (hb hby at_275) rfl k) ?_
              show Go p.tables e below P (T_4.setTop (mkF m 276 #[.val (.int p1), .val (.int p2), .val (.int p3), .val (.int p4), .val (.int p5), .val (.long ja), .second, .val (.long jb), .second, .val (.long jc), .second, .val (.int i17), .val (.long jo), .second, .val (.int io), .val (.long jx), .second, .val (.ref b_1), .val (.double dg), .second] [(.double FP.dconst1), (.double dg)]))
              refine Go.step (fun t k => XS.dcmpS X_4.here hx rfl (hb hby at_276) rfl rfl k) ?_
              show Go p.tables e below P (T_4.setTop (mkF m 277 #[.val (.int p1), .val (.int p2), .val (.int p3), .val (.int p4), .val (.int p5), .val (.long ja), .second, .val (.long jb), .second, .val (.long jc), .second, .val (.int i17), .val (.long jo), .second, .val (.int io), .val (.long jx), .second, .val (.ref b_1), .val (.double dg), .second] [(.int (cmpValue (FP.dcmp dg FP.dconst1) .g))]))
              refine Go.step (fun t k => XS.ifYes X_4.here hx rfl (pc0 := 277) (pc' := 282) rfl (hb hby at_277) rfl (dcY (cd := .lt) ((fr.lt one_1040 (by decide)).trans (rfl : _ = some (compare (0 : Int) 1))) (by decide : (0 : Int) < (1 : Int))) (by decide) (by decide) k) ?_
              show Go p.tables e below P (T_4.setTop (mkF m 282 #[.val (.int p1), .val (.int p2), .val (.int p3), .val (.int p4), .val (.int p5), .val (.long ja), .second, .val (.long jb), .second, .val (.long jc), .second, .val (.int i17), .val (.long jo), .second, .val (.int io), .val (.long jx), .second, .val (.ref b_1), .val (.double dg), .second] []))
              refine Go.step (fun t k => XS.lload X_4.here hx rfl (hb hby at_282) rfl  k) ?_
              show Go p.tables e below P (T_4.setTop (mkF m 284 #[.val (.int p1), .val (.int p2), .val (.int p3), .val (.int p4), .val (.int p5), .val (.long ja), .second, .val (.long jb), .second, .val (.long jc), .second, .val (.int i17), .val (.long jo), .second, .val (.int io), .val (.long jx), .second, .val (.ref b_1), .val (.double dg), .second] [(.long ja)]))
              refine Go.step (fun t k => XS.lload X_4.here hx rfl (hb hby at_284) rfl  k) ?_
              show Go p.tables e below P (T_4.setTop (mkF m 286 #[.val (.int p1), .val (.int p2), .val (.int p3), .val (.int p4), .val (.int p5), .val (.long ja), .second, .val (.long jb), .second, .val (.long jc), .second, .val (.int i17), .val (.long jo), .second, .val (.int io), .val (.long jx), .second, .val (.ref b_1), .val (.double dg), .second] [(.long jb), (.long ja)]))
              refine Go.step (fun t k => XS.lcmp X_4.here hx rfl (hb hby at_286) rfl k) ?_
              show Go p.tables e below P (T_4.setTop (mkF m 287 #[.val (.int p1), .val (.int p2), .val (.int p3), .val (.int p4), .val (.int p5), .val (.long ja), .second, .val (.long jb), .second, .val (.long jc), .second, .val (.int i17), .val (.long jo), .second, .val (.int io), .val (.long jx), .second, .val (.ref b_1), .val (.double dg), .second] [(.int (lcmpW ja jb))]))
              by_cases hc287 : jb.toInt < ja.toInt
              · refine Go.step (fun t k => XS.ifYes X_4.here hx rfl (pc0 := 287) (pc' := 356) rfl (hb hby at_287) rfl (lcY (cd := .gt) hc287) (by decide) (by decide) k) ?_
                show Go p.tables e below P (T_4.setTop (mkF m 356 #[.val (.int p1), .val (.int p2), .val (.int p3), .val (.int p4), .val (.int p5), .val (.long ja), .second, .val (.long jb), .second, .val (.long jc), .second, .val (.int i17), .val (.long jo), .second, .val (.int io), .val (.long jx), .second, .val (.ref b_1), .val (.double dg), .second] []))
                refine Go.step (fun t k => XS.iconst X_4.here hx rfl (hb hby at_356) k) ?_
                show Go p.tables e below P (T_4.setTop (mkF m 357 #[.val (.int p1), .val (.int p2), .val (.int p3), .val (.int p4), .val (.int p5), .val (.long ja), .second, .val (.long jb), .second, .val (.long jc), .second, .val (.int i17), .val (.long jo), .second, .val (.int io), .val (.long jx), .second, .val (.ref b_1), .val (.double dg), .second] [(.int (1 : Int32))]))
                exact retGoW X_4 hx hS (by rw [eh_4]; exact (Nat.le_trans hk_2 Kc_3.1)) hP Bd.returns hlk rfl (Or.inl ⟨rfl, Or.inr (Or.inl rfl), _, rfl⟩) (hb hby at_357) (by decide) (by decide) (by rw [eh_4]; exact ⟨rfl, N_4⟩)
              · refine Go.step (fun t k => XS.ifNo X_4.here hx rfl (hb hby at_287) rfl (lcN (cd := .gt) hc287) k) ?_
                show Go p.tables e below P (T_4.setTop (mkF m 290 #[.val (.int p1), .val (.int p2), .val (.int p3), .val (.int p4), .val (.int p5), .val (.long ja), .second, .val (.long jb), .second, .val (.long jc), .second, .val (.int i17), .val (.long jo), .second, .val (.int io), .val (.long jx), .second, .val (.ref b_1), .val (.double dg), .second] []))
                refine Go.step (fun t k => XS.lload X_4.here hx rfl (hb hby at_290) rfl  k) ?_
                show Go p.tables e below P (T_4.setTop (mkF m 292 #[.val (.int p1), .val (.int p2), .val (.int p3), .val (.int p4), .val (.int p5), .val (.long ja), .second, .val (.long jb), .second, .val (.long jc), .second, .val (.int i17), .val (.long jo), .second, .val (.int io), .val (.long jx), .second, .val (.ref b_1), .val (.double dg), .second] [(.long jb)]))
                refine Go.step (fun t k => XS.lload X_4.here hx rfl (hb hby at_292) rfl  k) ?_
                show Go p.tables e below P (T_4.setTop (mkF m 294 #[.val (.int p1), .val (.int p2), .val (.int p3), .val (.int p4), .val (.int p5), .val (.long ja), .second, .val (.long jb), .second, .val (.long jc), .second, .val (.int i17), .val (.long jo), .second, .val (.int io), .val (.long jx), .second, .val (.ref b_1), .val (.double dg), .second] [(.long jc), (.long jb)]))
                refine Go.step (fun t k => XS.lcmp X_4.here hx rfl (hb hby at_294) rfl k) ?_
                show Go p.tables e below P (T_4.setTop (mkF m 295 #[.val (.int p1), .val (.int p2), .val (.int p3), .val (.int p4), .val (.int p5), .val (.long ja), .second, .val (.long jb), .second, .val (.long jc), .second, .val (.int i17), .val (.long jo), .second, .val (.int io), .val (.long jx), .second, .val (.ref b_1), .val (.double dg), .second] [(.int (lcmpW jb jc))]))
                by_cases hc295 : jc.toInt < jb.toInt
                · refine Go.step (fun t k => XS.ifYes X_4.here hx rfl (pc0 := 295) (pc' := 356) rfl (hb hby at_295) rfl (lcY (cd := .gt) hc295) (by decide) (by decide) k) ?_
                  show Go p.tables e below P (T_4.setTop (mkF m 356 #[.val (.int p1), .val (.int p2), .val (.int p3), .val (.int p4), .val (.int p5), .val (.long ja), .second, .val (.long jb), .second, .val (.long jc), .second, .val (.int i17), .val (.long jo), .second, .val (.int io), .val (.long jx), .second, .val (.ref b_1), .val (.double dg), .second] []))
                  refine Go.step (fun t k => XS.iconst X_4.here hx rfl (hb hby at_356) k) ?_
                  show Go p.tables e below P (T_4.setTop (mkF m 357 #[.val (.int p1), .val (.int p2), .val (.int p3), .val (.int p4), .val (.int p5), .val (.long ja), .second, .val (.long jb), .second, .val (.long jc), .second, .val (.int i17), .val (.long jo), .second, .val (.int io), .val (.long jx), .second, .val (.ref b_1), .val (.double dg), .second] [(.int (1 : Int32))]))
                  exact retGoW X_4 hx hS (by rw [eh_4]; exact (Nat.le_trans hk_2 Kc_3.1)) hP Bd.returns hlk rfl (Or.inl ⟨rfl, Or.inr (Or.inl rfl), _, rfl⟩) (hb hby at_357) (by decide) (by decide) (by rw [eh_4]; exact ⟨rfl, N_4⟩)
                · refine Go.step (fun t k => XS.ifNo X_4.here hx rfl (hb hby at_295) rfl (lcN (cd := .gt) hc295) k) ?_
                  show Go p.tables e below P (T_4.setTop (mkF m 298 #[.val (.int p1), .val (.int p2), .val (.int p3), .val (.int p4), .val (.int p5), .val (.long ja), .second, .val (.long jb), .second, .val (.long jc), .second, .val (.int i17), .val (.long jo), .second, .val (.int io), .val (.long jx), .second, .val (.ref b_1), .val (.double dg), .second] []))
                  refine Go.step (fun t k => XS.lload X_4.here hx rfl (hb hby at_298) rfl  k) ?_
                  show Go p.tables e below P (T_4.setTop (mkF m 300 #[.val (.int p1), .val (.int p2), .val (.int p3), .val (.int p4), .val (.int p5), .val (.long ja), .second, .val (.long jb), .second, .val (.long jc), .second, .val (.int i17), .val (.long jo), .second, .val (.int io), .val (.long jx), .second, .val (.ref b_1), .val (.double dg), .second] [(.long jx)]))
                  refine Go.step (fun t k => XS.lload X_4.here hx rfl (hb hby at_300) rfl  k) ?_
                  show Go p.tables e below P (T_4.setTop (mkF m 302 #[.val (.int p1), .val (.int p2), .val (.int p3), .val (.int p4), .val (.int p5), .val (.long ja), .second, .val (.long jb), .second, .val (.long jc), .second, .val (.int i17), .val (.long jo), .second, .val (.int io), .val (.long jx), .second, .val (.ref b_1), .val (.double dg), .second] [(.long jb), (.long jx)]))
                  refine Go.step (fun t k => XS.lcmp X_4.here hx rfl (hb hby at_302) rfl k) ?_
                  show Go p.tables e below P (T_4.setTop (mkF m 303 #[.val (.int p1), .val (.int p2), .val (.int p3), .val (.int p4), .val (.int p5), .val (.long ja), .second, .val (.long jb), .second, .val (.long jc), .second, .val (.int i17), .val (.long jo), .second, .val (.int io), .val (.long jx), .second, .val (.ref b_1), .val (.double dg), .second] [(.int (lcmpW jx jb))]))
                  by_cases hc303 : jb.toInt ≤ jx.toInt
                  · refine Go.step (fun t k => XS.ifYes X_4.here hx rfl (pc0 := 303) (pc' := 331) rfl (hb hby at_303) rfl (lcY (cd := .ge) hc303) (by decide) (by decide) k) ?_
                    show Go p.tables e below P (T_4.setTop (mkF m 331 #[.val (.int p1), .val (.int p2), .val (.int p3), .val (.int p4), .val (.int p5), .val (.long ja), .second, .val (.long jb), .second, .val (.long jc), .second, .val (.int i17), .val (.long jo), .second, .val (.int io), .val (.long jx), .second, .val (.ref b_1), .val (.double dg), .second] []))
                    refine Go.step (fun t k => XS.dload X_4.here hx rfl (hb hby at_331) rfl  k) ?_
                    show Go p.tables e below P (T_4.setTop (mkF m 333 #[.val (.int p1), .val (.int p2), .val (.int p3), .val (.int p4), .val (.int p5), .val (.long ja), .second, .val (.long jb), .second, .val (.long jc), .second, .val (.int i17), .val (.long jo), .second, .val (.int io), .val (.long jx), .second, .val (.ref b_1), .val (.double dg), .second] [(.double dg)]))
                    refine Go.step (fun t k => XS.lload X_4.here hx rfl (hb hby at_333) rfl  k) ?_
                    show Go p.tables e below P (T_4.setTop (mkF m 335 #[.val (.int p1), .val (.int p2), .val (.int p3), .val (.int p4), .val (.int p5), .val (.long ja), .second, .val (.long jb), .second, .val (.long jc), .second, .val (.int i17), .val (.long jo), .second, .val (.int io), .val (.long jx), .second, .val (.ref b_1), .val (.double dg), .second] [(.long jc), (.double dg)]))
                    refine Go.step (fun t k => XS.lload X_4.here hx rfl (hb hby at_335) rfl  k) ?_
                    show Go p.tables e below P (T_4.setTop (mkF m 337 #[.val (.int p1), .val (.int p2), .val (.int p3), .val (.int p4), .val (.int p5), .val (.long ja), .second, .val (.long jb), .second, .val (.long jc), .second, .val (.int i17), .val (.long jo), .second, .val (.int io), .val (.long jx), .second, .val (.ref b_1), .val (.double dg), .second] [(.long jx), (.long jc), (.double dg)]))
                    obtain ⟨j337, hj337⟩ : ∃ z : Int64, jc - jx = z := ⟨_, rfl⟩
                    refine Go.step (fun t k => lsub_v X_4.here hx rfl (hb hby at_337) rfl  hj337 k) ?_
                    show Go p.tables e below P (T_4.setTop (mkF m 338 #[.val (.int p1), .val (.int p2), .val (.int p3), .val (.int p4), .val (.int p5), .val (.long ja), .second, .val (.long jb), .second, .val (.long jc), .second, .val (.int i17), .val (.long jo), .second, .val (.int io), .val (.long jx), .second, .val (.ref b_1), .val (.double dg), .second] [(.long j337), (.double dg)]))
                    have f337 := c_lsub jc jx; rw [hj337] at f337
                    have G337 := rng64 j337
                    have v337 : j337.toInt = jc.toInt - jx.toInt := by omega
                    obtain ⟨d338, hd338⟩ : ∃ z : UInt64, FP.l2d j337 = z := ⟨_, rfl⟩
                    refine Go.step (fun t k => XS.l2dS X_4.here hx rfl (hb hby at_338) rfl hd338 k) ?_
                    show Go p.tables e below P (T_4.setTop (mkF m 339 #[.val (.int p1), .val (.int p2), .val (.int p3), .val (.int p4), .val (.int p5), .val (.long ja), .second, .val (.long jb), .second, .val (.long jc), .second, .val (.int i17), .val (.long jo), .second, .val (.int io), .val (.long jx), .second, .val (.ref b_1), .val (.double dg), .second] [(.double d338), (.double dg)]))
                    have Q337 := l2d_e (x := j337) (by omega); rw [hd338, v337] at Q337
                    refine Go.step (fun t k => XS.lload X_4.here hx rfl (hb hby at_339) rfl  k) ?_
                    show Go p.tables e below P (T_4.setTop (mkF m 341 #[.val (.int p1), .val (.int p2), .val (.int p3), .val (.int p4), .val (.int p5), .val (.long ja), .second, .val (.long jb), .second, .val (.long jc), .second, .val (.int i17), .val (.long jo), .second, .val (.int io), .val (.long jx), .second, .val (.ref b_1), .val (.double dg), .second] [(.long jc), (.double d338), (.double dg)]))
                    refine Go.step (fun t k => XS.lload X_4.here hx rfl (hb hby at_341) rfl  k) ?_
                    show Go p.tables e below P (T_4.setTop (mkF m 343 #[.val (.int p1), .val (.int p2), .val (.int p3), .val (.int p4), .val (.int p5), .val (.long ja), .second, .val (.long jb), .second, .val (.long jc), .second, .val (.int i17), .val (.long jo), .second, .val (.int io), .val (.long jx), .second, .val (.ref b_1), .val (.double dg), .second] [(.long jb), (.long jc), (.double d338), (.double dg)]))
                    obtain ⟨j343, hj343⟩ : ∃ z : Int64, jc - jb = z := ⟨_, rfl⟩
                    refine Go.step (fun t k => lsub_v X_4.here hx rfl (hb hby at_343) rfl  hj343 k) ?_
                    show Go p.tables e below P (T_4.setTop (mkF m 344 #[.val (.int p1), .val (.int p2), .val (.int p3), .val (.int p4), .val (.int p5), .val (.long ja), .second, .val (.long jb), .second, .val (.long jc), .second, .val (.int i17), .val (.long jo), .second, .val (.int io), .val (.long jx), .second, .val (.ref b_1), .val (.double dg), .second] [(.long j343), (.double d338), (.double dg)]))
                    have f343 := c_lsub jc jb; rw [hj343] at f343
                    have G343 := rng64 j343
                    have v343 : j343.toInt = jc.toInt - jb.toInt := by omega
                    obtain ⟨d344, hd344⟩ : ∃ z : UInt64, FP.l2d j343 = z := ⟨_, rfl⟩
                    refine Go.step (fun t k => XS.l2dS X_4.here hx rfl (hb hby at_344) rfl hd344 k) ?_
                    show Go p.tables e below P (T_4.setTop (mkF m 345 #[.val (.int p1), .val (.int p2), .val (.int p3), .val (.int p4), .val (.int p5), .val (.long ja), .second, .val (.long jb), .second, .val (.long jc), .second, .val (.int i17), .val (.long jo), .second, .val (.int io), .val (.long jx), .second, .val (.ref b_1), .val (.double dg), .second] [(.double d344), (.double d338), (.double dg)]))
                    have Q343 := l2d_e (x := j343) (by omega); rw [hd344, v343] at Q343
                    obtain ⟨y, z, hdq, hy, hz⟩ := (show ∃ y z, dg = FP.ddiv y z ∧ DE 1074 (jc.toInt - jx.toInt) y ∧ DE 1074 (jc.toInt - jb.toInt) z from by rcases sp with ⟨h, _⟩ | ⟨_, h⟩; omega; exact h)
                    obtain rfl := DE.uniq Q337 hy (by omega)
                    obtain rfl := DE.uniq Q343 hz (by omega)
                    obtain ⟨qq, hqq⟩ : ∃ z : UInt64, FP.ddiv d338 d344 = z := ⟨_, rfl⟩
                    refine Go.step (fun t k => XS.ddivS X_4.here hx rfl (hb hby at_345) rfl (by rw [← hdq]; exact fr.nn) hqq k) ?_
                    show Go p.tables e below P (T_4.setTop (mkF m 346 #[.val (.int p1), .val (.int p2), .val (.int p3), .val (.int p4), .val (.int p5), .val (.long ja), .second, .val (.long jb), .second, .val (.long jc), .second, .val (.int i17), .val (.long jo), .second, .val (.int io), .val (.long jx), .second, .val (.ref b_1), .val (.double dg), .second] [(.double qq), (.double dg)]))
                    have hqd : qq = dg := by rw [hdq, ← hqq]
                    rw [hqd]
                    show Go p.tables e below P (T_4.setTop (mkF m 346 #[.val (.int p1), .val (.int p2), .val (.int p3), .val (.int p4), .val (.int p5), .val (.long ja), .second, .val (.long jb), .second, .val (.long jc), .second, .val (.int i17), .val (.long jo), .second, .val (.int io), .val (.long jx), .second, .val (.ref b_1), .val (.double dg), .second] [(.double dg), (.double dg)]))
                    refine Go.step (fun t k => XS.dcmpS X_4.here hx rfl (hb hby at_346) rfl rfl k) ?_
                    show Go p.tables e below P (T_4.setTop (mkF m 347 #[.val (.int p1), .val (.int p2), .val (.int p3), .val (.int p4), .val (.int p5), .val (.long ja), .second, .val (.long jb), .second, .val (.long jc), .second, .val (.int i17), .val (.long jo), .second, .val (.int io), .val (.long jx), .second, .val (.ref b_1), .val (.double dg), .second] [(.int (cmpValue (FP.dcmp dg dg) .l))]))
                    refine Go.step (fun t k => XS.ifNo X_4.here hx rfl (hb hby at_347) rfl (dcN (cd := .ne) (same_cmp fr.ne) (fun q => q rfl)) k) ?_
                    show Go p.tables e below P (T_4.setTop (mkF m 350 #[.val (.int p1), .val (.int p2), .val (.int p3), .val (.int p4), .val (.int p5), .val (.long ja), .second, .val (.long jb), .second, .val (.long jc), .second, .val (.int i17), .val (.long jo), .second, .val (.int io), .val (.long jx), .second, .val (.ref b_1), .val (.double dg), .second] []))
                    refine Go.step (fun t k => XS.iconst X_4.here hx rfl (hb hby at_350) k) ?_
                    show Go p.tables e below P (T_4.setTop (mkF m 351 #[.val (.int p1), .val (.int p2), .val (.int p3), .val (.int p4), .val (.int p5), .val (.long ja), .second, .val (.long jb), .second, .val (.long jc), .second, .val (.int i17), .val (.long jo), .second, .val (.int io), .val (.long jx), .second, .val (.ref b_1), .val (.double dg), .second] [(.int (1 : Int32))]))
                    refine Go.step (fun t k => XS.goto X_4.here hx rfl (pc0 := 351) (pc' := 355) rfl (hb hby at_351) (by decide) (by decide) k) ?_
                    show Go p.tables e below P (T_4.setTop (mkF m 355 #[.val (.int p1), .val (.int p2), .val (.int p3), .val (.int p4), .val (.int p5), .val (.long ja), .second, .val (.long jb), .second, .val (.long jc), .second, .val (.int i17), .val (.long jo), .second, .val (.int io), .val (.long jx), .second, .val (.ref b_1), .val (.double dg), .second] [(.int (1 : Int32))]))
                    exact retGoW X_4 hx hS (by rw [eh_4]; exact (Nat.le_trans hk_2 Kc_3.1)) hP Bd.returns hlk rfl (Or.inl ⟨rfl, Or.inr (Or.inl rfl), _, rfl⟩) (hb hby at_355) (by decide) (by decide) (by rw [eh_4]; exact ⟨rfl, N_4⟩)
                  · refine Go.step (fun t k => XS.ifNo X_4.here hx rfl (hb hby at_303) rfl (lcN (cd := .ge) hc303) k) ?_
                    show Go p.tables e below P (T_4.setTop (mkF m 306 #[.val (.int p1), .val (.int p2), .val (.int p3), .val (.int p4), .val (.int p5), .val (.long ja), .second, .val (.long jb), .second, .val (.long jc), .second, .val (.int i17), .val (.long jo), .second, .val (.int io), .val (.long jx), .second, .val (.ref b_1), .val (.double dg), .second] []))
                    refine Go.step (fun t k => XS.dload X_4.here hx rfl (hb hby at_306) rfl  k) ?_
                    show Go p.tables e below P (T_4.setTop (mkF m 308 #[.val (.int p1), .val (.int p2), .val (.int p3), .val (.int p4), .val (.int p5), .val (.long ja), .second, .val (.long jb), .second, .val (.long jc), .second, .val (.int i17), .val (.long jo), .second, .val (.int io), .val (.long jx), .second, .val (.ref b_1), .val (.double dg), .second] [(.double dg)]))
                    refine Go.step (fun t k => XS.lload X_4.here hx rfl (hb hby at_308) rfl  k) ?_
                    show Go p.tables e below P (T_4.setTop (mkF m 310 #[.val (.int p1), .val (.int p2), .val (.int p3), .val (.int p4), .val (.int p5), .val (.long ja), .second, .val (.long jb), .second, .val (.long jc), .second, .val (.int i17), .val (.long jo), .second, .val (.int io), .val (.long jx), .second, .val (.ref b_1), .val (.double dg), .second] [(.long jx), (.double dg)]))
                    refine Go.step (fun t k => XS.lload X_4.here hx rfl (hb hby at_310) rfl  k) ?_
                    show Go p.tables e below P (T_4.setTop (mkF m 312 #[.val (.int p1), .val (.int p2), .val (.int p3), .val (.int p4), .val (.int p5), .val (.long ja), .second, .val (.long jb), .second, .val (.long jc), .second, .val (.int i17), .val (.long jo), .second, .val (.int io), .val (.long jx), .second, .val (.ref b_1), .val (.double dg), .second] [(.long ja), (.long jx), (.double dg)]))
                    obtain ⟨j312, hj312⟩ : ∃ z : Int64, jx - ja = z := ⟨_, rfl⟩
                    refine Go.step (fun t k => lsub_v X_4.here hx rfl (hb hby at_312) rfl  hj312 k) ?_
                    show Go p.tables e below P (T_4.setTop (mkF m 313 #[.val (.int p1), .val (.int p2), .val (.int p3), .val (.int p4), .val (.int p5), .val (.long ja), .second, .val (.long jb), .second, .val (.long jc), .second, .val (.int i17), .val (.long jo), .second, .val (.int io), .val (.long jx), .second, .val (.ref b_1), .val (.double dg), .second] [(.long j312), (.double dg)]))
                    have f312 := c_lsub jx ja; rw [hj312] at f312
                    have G312 := rng64 j312
                    have v312 : j312.toInt = jx.toInt - ja.toInt := by omega
                    obtain ⟨d313, hd313⟩ : ∃ z : UInt64, FP.l2d j312 = z := ⟨_, rfl⟩
                    refine Go.step (fun t k => XS.l2dS X_4.here hx rfl (hb hby at_313) rfl hd313 k) ?_
                    show Go p.tables e below P (T_4.setTop (mkF m 314 #[.val (.int p1), .val (.int p2), .val (.int p3), .val (.int p4), .val (.int p5), .val (.long ja), .second, .val (.long jb), .second, .val (.long jc), .second, .val (.int i17), .val (.long jo), .second, .val (.int io), .val (.long jx), .second, .val (.ref b_1), .val (.double dg), .second] [(.double d313), (.double dg)]))
                    have Q312 := l2d_e (x := j312) (by omega); rw [hd313, v312] at Q312
                    refine Go.step (fun t k => XS.lload X_4.here hx rfl (hb hby at_314) rfl  k) ?_
                    show Go p.tables e below P (T_4.setTop (mkF m 316 #[.val (.int p1), .val (.int p2), .val (.int p3), .val (.int p4), .val (.int p5), .val (.long ja), .second, .val (.long jb), .second, .val (.long jc), .second, .val (.int i17), .val (.long jo), .second, .val (.int io), .val (.long jx), .second, .val (.ref b_1), .val (.double dg), .second] [(.long jb), (.double d313), (.double dg)]))
                    refine Go.step (fun t k => XS.lload X_4.here hx rfl (hb hby at_316) rfl  k) ?_
                    show Go p.tables e below P (T_4.setTop (mkF m 318 #[.val (.int p1), .val (.int p2), .val (.int p3), .val (.int p4), .val (.int p5), .val (.long ja), .second, .val (.long jb), .second, .val (.long jc), .second, .val (.int i17), .val (.long jo), .second, .val (.int io), .val (.long jx), .second, .val (.ref b_1), .val (.double dg), .second] [(.long ja), (.long jb), (.double d313), (.double dg)]))
                    obtain ⟨j318, hj318⟩ : ∃ z : Int64, jb - ja = z := ⟨_, rfl⟩
                    refine Go.step (fun t k => lsub_v X_4.here hx rfl (hb hby at_318) rfl  hj318 k) ?_
                    show Go p.tables e below P (T_4.setTop (mkF m 319 #[.val (.int p1), .val (.int p2), .val (.int p3), .val (.int p4), .val (.int p5), .val (.long ja), .second, .val (.long jb), .second, .val (.long jc), .second, .val (.int i17), .val (.long jo), .second, .val (.int io), .val (.long jx), .second, .val (.ref b_1), .val (.double dg), .second] [(.long j318), (.double d313), (.double dg)]))
                    have f318 := c_lsub jb ja; rw [hj318] at f318
                    have G318 := rng64 j318
                    have v318 : j318.toInt = jb.toInt - ja.toInt := by omega
                    obtain ⟨d319, hd319⟩ : ∃ z : UInt64, FP.l2d j318 = z := ⟨_, rfl⟩
                    refine Go.step (fun t k => XS.l2dS X_4.here hx rfl (hb hby at_319) rfl hd319 k) ?_
                    show Go p.tables e below P (T_4.setTop (mkF m 320 #[.val (.int p1), .val (.int p2), .val (.int p3), .val (.int p4), .val (.int p5), .val (.long ja), .second, .val (.long jb), .second, .val (.long jc), .second, .val (.int i17), .val (.long jo), .second, .val (.int io), .val (.long jx), .second, .val (.ref b_1), .val (.double dg), .second] [(.double d319), (.double d313), (.double dg)]))
                    have Q318 := l2d_e (x := j318) (by omega); rw [hd319, v318] at Q318
                    obtain ⟨y, z, hdq, hy, hz⟩ := (show ∃ y z, dg = FP.ddiv y z ∧ DE 1074 (jx.toInt - ja.toInt) y ∧ DE 1074 (jb.toInt - ja.toInt) z from by rcases sp with ⟨_, h⟩ | ⟨h, _⟩; exact h; omega)
                    obtain rfl := DE.uniq Q312 hy (by omega)
                    obtain rfl := DE.uniq Q318 hz (by omega)
                    obtain ⟨qq, hqq⟩ : ∃ z : UInt64, FP.ddiv d313 d319 = z := ⟨_, rfl⟩
                    refine Go.step (fun t k => XS.ddivS X_4.here hx rfl (hb hby at_320) rfl (by rw [← hdq]; exact fr.nn) hqq k) ?_
                    show Go p.tables e below P (T_4.setTop (mkF m 321 #[.val (.int p1), .val (.int p2), .val (.int p3), .val (.int p4), .val (.int p5), .val (.long ja), .second, .val (.long jb), .second, .val (.long jc), .second, .val (.int i17), .val (.long jo), .second, .val (.int io), .val (.long jx), .second, .val (.ref b_1), .val (.double dg), .second] [(.double qq), (.double dg)]))
                    have hqd : qq = dg := by rw [hdq, ← hqq]
                    rw [hqd]
                    show Go p.tables e below P (T_4.setTop (mkF m 321 #[.val (.int p1), .val (.int p2), .val (.int p3), .val (.int p4), .val (.int p5), .val (.long ja), .second, .val (.long jb), .second, .val (.long jc), .second, .val (.int i17), .val (.long jo), .second, .val (.int io), .val (.long jx), .second, .val (.ref b_1), .val (.double dg), .second] [(.double dg), (.double dg)]))
                    refine Go.step (fun t k => XS.dcmpS X_4.here hx rfl (hb hby at_321) rfl rfl k) ?_
                    show Go p.tables e below P (T_4.setTop (mkF m 322 #[.val (.int p1), .val (.int p2), .val (.int p3), .val (.int p4), .val (.int p5), .val (.long ja), .second, .val (.long jb), .second, .val (.long jc), .second, .val (.int i17), .val (.long jo), .second, .val (.int io), .val (.long jx), .second, .val (.ref b_1), .val (.double dg), .second] [(.int (cmpValue (FP.dcmp dg dg) .l))]))
                    refine Go.step (fun t k => XS.ifNo X_4.here hx rfl (hb hby at_322) rfl (dcN (cd := .ne) (same_cmp fr.ne) (fun q => q rfl)) k) ?_
                    show Go p.tables e below P (T_4.setTop (mkF m 325 #[.val (.int p1), .val (.int p2), .val (.int p3), .val (.int p4), .val (.int p5), .val (.long ja), .second, .val (.long jb), .second, .val (.long jc), .second, .val (.int i17), .val (.long jo), .second, .val (.int io), .val (.long jx), .second, .val (.ref b_1), .val (.double dg), .second] []))
                    refine Go.step (fun t k => XS.iconst X_4.here hx rfl (hb hby at_325) k) ?_
                    show Go p.tables e below P (T_4.setTop (mkF m 326 #[.val (.int p1), .val (.int p2), .val (.int p3), .val (.int p4), .val (.int p5), .val (.long ja), .second, .val (.long jb), .second, .val (.long jc), .second, .val (.int i17), .val (.long jo), .second, .val (.int io), .val (.long jx), .second, .val (.ref b_1), .val (.double dg), .second] [(.int (1 : Int32))]))
                    refine Go.step (fun t k => XS.goto X_4.here hx rfl (pc0 := 326) (pc' := 330) rfl (hb hby at_326) (by decide) (by decide) k) ?_
                    show Go p.tables e below P (T_4.setTop (mkF m 330 #[.val (.int p1), .val (.int p2), .val (.int p3), .val (.int p4), .val (.int p5), .val (.long ja), .second, .val (.long jb), .second, .val (.long jc), .second, .val (.int i17), .val (.long jo), .second, .val (.int io), .val (.long jx), .second, .val (.ref b_1), .val (.double dg), .second] [(.int (1 : Int32))]))
                    exact retGoW X_4 hx hS (by rw [eh_4]; exact (Nat.le_trans hk_2 Kc_3.1)) hP Bd.returns hlk rfl (Or.inl ⟨rfl, Or.inr (Or.inl rfl), _, rfl⟩) (hb hby at_330) (by decide) (by decide) (by rw [eh_4]; exact ⟨rfl, N_4⟩)
            · refine Go.step (fun t k => XS.ifNo X_4.here hx rfl (hb hby at_250) rfl (lcN (cd := .lt) hc250) k) ?_
              show Go p.tables e below P (T_4.setTop (mkF m 253 #[.val (.int p1), .val (.int p2), .val (.int p3), .val (.int p4), .val (.int p5), .val (.long ja), .second, .val (.long jb), .second, .val (.long jc), .second, .val (.int i17), .val (.long jo), .second, .val (.int io), .val (.long jx), .second, .val (.ref b_1), .val (.double dg), .second] []))
              have hq1 : dg = FP.dconst0 := by rcases hdg with ⟨h, _⟩ | ⟨_, _, h⟩ | ⟨h, _, h', _⟩ | ⟨h, _, h', _⟩; omega; exact h; omega; omega
              have q1 : DE 1074 0 dg := by rw [hq1]; exact zero_e 1074
              refine Go.step (fun t k => XS.dload X_4.here hx rfl (hb hby at_253) rfl  k) ?_
              show Go p.tables e below P (T_4.setTop (mkF m 255 #[.val (.int p1), .val (.int p2), .val (.int p3), .val (.int p4), .val (.int p5), .val (.long ja), .second, .val (.long jb), .second, .val (.long jc), .second, .val (.int i17), .val (.long jo), .second, .val (.int io), .val (.long jx), .second, .val (.ref b_1), .val (.double dg), .second] [(.double dg)]))
              refine Go.step (fun t k => XS.dconst0 X_4.here hx rfl (hb hby at_255) rfl k) ?_
              show Go p.tables e below P (T_4.setTop (mkF m 256 #[.val (.int p1), .val (.int p2), .val (.int p3), .val (.int p4), .val (.int p5), .val (.long ja), .second, .val (.long jb), .second, .val (.long jc), .second, .val (.int i17), .val (.long jo), .second, .val (.int io), .val (.long jx), .second, .val (.ref b_1), .val (.double dg), .second] [(.double FP.dconst0), (.double dg)]))
              refine Go.step (fun t k => XS.dcmpS X_4.here hx rfl (hb hby at_256) rfl rfl k) ?_
              show Go p.tables e below P (T_4.setTop (mkF m 257 #[.val (.int p1), .val (.int p2), .val (.int p3), .val (.int p4), .val (.int p5), .val (.long ja), .second, .val (.long jb), .second, .val (.long jc), .second, .val (.int i17), .val (.long jo), .second, .val (.int io), .val (.long jx), .second, .val (.ref b_1), .val (.double dg), .second] [(.int (cmpValue (FP.dcmp dg FP.dconst0) .l))]))
              refine Go.step (fun t k => XS.ifNo X_4.here hx rfl (hb hby at_257) rfl (dcN (cd := .ne) (DE.cmp q1 (zero_e 1074)) (fun q => q rfl)) k) ?_
              show Go p.tables e below P (T_4.setTop (mkF m 260 #[.val (.int p1), .val (.int p2), .val (.int p3), .val (.int p4), .val (.int p5), .val (.long ja), .second, .val (.long jb), .second, .val (.long jc), .second, .val (.int i17), .val (.long jo), .second, .val (.int io), .val (.long jx), .second, .val (.ref b_1), .val (.double dg), .second] []))
              refine Go.step (fun t k => XS.iconst X_4.here hx rfl (hb hby at_260) k) ?_
              show Go p.tables e below P (T_4.setTop (mkF m 261 #[.val (.int p1), .val (.int p2), .val (.int p3), .val (.int p4), .val (.int p5), .val (.long ja), .second, .val (.long jb), .second, .val (.long jc), .second, .val (.int i17), .val (.long jo), .second, .val (.int io), .val (.long jx), .second, .val (.ref b_1), .val (.double dg), .second] [(.int (1 : Int32))]))
              refine Go.step (fun t k => XS.goto X_4.here hx rfl (pc0 := 261) (pc' := 265) rfl (hb hby at_261) (by decide) (by decide) k) ?_
              show Go p.tables e below P (T_4.setTop (mkF m 265 #[.val (.int p1), .val (.int p2), .val (.int p3), .val (.int p4), .val (.int p5), .val (.long ja), .second, .val (.long jb), .second, .val (.long jc), .second, .val (.int i17), .val (.long jo), .second, .val (.int io), .val (.long jx), .second, .val (.ref b_1), .val (.double dg), .second] [(.int (1 : Int32))]))
              exact retGoW X_4 hx hS (by rw [eh_4]; exact (Nat.le_trans hk_2 Kc_3.1)) hP Bd.returns hlk rfl (Or.inl ⟨rfl, Or.inr (Or.inl rfl), _, rfl⟩) (hb hby at_265) (by decide) (by decide) (by rw [eh_4]; exact ⟨rfl, N_4⟩)
        · refine Go.step (fun t k => XS.ifNo X_4.here hx rfl (hb hby at_221) rfl (lcN (cd := .ne) hc221) k) ?_
          show Go p.tables e below P (T_4.setTop (mkF m 224 #[.val (.int p1), .val (.int p2), .val (.int p3), .val (.int p4), .val (.int p5), .val (.long ja), .second, .val (.long jb), .second, .val (.long jc), .second, .val (.int i17), .val (.long jo), .second, .val (.int io), .val (.long jx), .second, .val (.ref b_1), .val (.double dg), .second] []))
          have hq1 : dg = FP.dconst1 := by rcases hdg with ⟨_, h⟩ | ⟨h, _⟩ | ⟨_, h, _⟩ | ⟨_, h, _⟩; exact h; omega; omega; omega
          have q1 : DE 1074 1 dg := by rw [hq1]; exact one_1074
          refine Go.step (fun t k => XS.dload X_4.here hx rfl (hb hby at_224) rfl  k) ?_
          show Go p.tables e below P (T_4.setTop (mkF m 226 #[.val (.int p1), .val (.int p2), .val (.int p3), .val (.int p4), .val (.int p5), .val (.long ja), .second, .val (.long jb), .second, .val (.long jc), .second, .val (.int i17), .val (.long jo), .second, .val (.int io), .val (.long jx), .second, .val (.ref b_1), .val (.double dg), .second] [(.double dg)]))
          refine Go.step (fun t k => XS.dconst1 X_4.here hx rfl (hb hby at_226) rfl k) ?_
          show Go p.tables e below P (T_4.setTop (mkF m 227 #[.val (.int p1), .val (.int p2), .val (.int p3), .val (.int p4), .val (.int p5), .val (.long ja), .second, .val (.long jb), .second, .val (.long jc), .second, .val (.int i17), .val (.long jo), .second, .val (.int io), .val (.long jx), .second, .val (.ref b_1), .val (.double dg), .second] [(.double FP.dconst1), (.double dg)]))
          refine Go.step (fun t k => XS.dcmpS X_4.here hx rfl (hb hby at_227) rfl rfl k) ?_
          show Go p.tables e below P (T_4.setTop (mkF m 228 #[.val (.int p1), .val (.int p2), .val (.int p3), .val (.int p4), .val (.int p5), .val (.long ja), .second, .val (.long jb), .second, .val (.long jc), .second, .val (.int i17), .val (.long jo), .second, .val (.int io), .val (.long jx), .second, .val (.ref b_1), .val (.double dg), .second] [(.int (cmpValue (FP.dcmp dg FP.dconst1) .l))]))
          refine Go.step (fun t k => XS.ifNo X_4.here hx rfl (hb hby at_228) rfl (dcN (cd := .ne) (DE.cmp q1 one_1074) (fun q => q rfl)) k) ?_
          show Go p.tables e below P (T_4.setTop (mkF m 231 #[.val (.int p1), .val (.int p2), .val (.int p3), .val (.int p4), .val (.int p5), .val (.long ja), .second, .val (.long jb), .second, .val (.long jc), .second, .val (.int i17), .val (.long jo), .second, .val (.int io), .val (.long jx), .second, .val (.ref b_1), .val (.double dg), .second] []))
          refine Go.step (fun t k => XS.iconst X_4.here hx rfl (hb hby at_231) k) ?_
          show Go p.tables e below P (T_4.setTop (mkF m 232 #[.val (.int p1), .val (.int p2), .val (.int p3), .val (.int p4), .val (.int p5), .val (.long ja), .second, .val (.long jb), .second, .val (.long jc), .second, .val (.int i17), .val (.long jo), .second, .val (.int io), .val (.long jx), .second, .val (.ref b_1), .val (.double dg), .second] [(.int (1 : Int32))]))
          refine Go.step (fun t k => XS.goto X_4.here hx rfl (pc0 := 232) (pc' := 236) rfl (hb hby at_232) (by decide) (by decide) k) ?_
          show Go p.tables e below P (T_4.setTop (mkF m 236 #[.val (.int p1), .val (.int p2), .val (.int p3), .val (.int p4), .val (.int p5), .val (.long ja), .second, .val (.long jb), .second, .val (.long jc), .second, .val (.int i17), .val (.long jo), .second, .val (.int io), .val (.long jx), .second, .val (.ref b_1), .val (.double dg), .second] [(.int (1 : Int32))]))
          exact retGoW X_4 hx hS (by rw [eh_4]; exact (Nat.le_trans hk_2 Kc_3.1)) hP Bd.returns hlk rfl (Or.inl ⟨rfl, Or.inr (Or.inl rfl), _, rfl⟩) (hb hby at_236) (by decide) (by decide) (by rw [eh_4]; exact ⟨rfl, N_4⟩)
      refine Go.step (fun t k => XS.iloadN X0.here hx rfl (hb hby at_123) rfl  k) ?_
      show Go p.tables e below P (s₁.setTop (mkF m 124 #[.val (.int p1), .val (.int p2), .val (.int p3), .val (.int p4), .val (.int p5), .val (.long ja), .second, .val (.long jb), .second, .val (.long jc), .second, .val (.int i17), .unset, .unset, .unset, .unset, .unset, .unset, .unset, .unset] [(.int p4)]))
      refine Go.step (fun t k => XS.iconst X0.here hx rfl (hb hby at_124) k) ?_
      show Go p.tables e below P (s₁.setTop (mkF m 125 #[.val (.int p1), .val (.int p2), .val (.int p3), .val (.int p4), .val (.int p5), .val (.long ja), .second, .val (.long jb), .second, .val (.long jc), .second, .val (.int i17), .unset, .unset, .unset, .unset, .unset, .unset, .unset, .unset] [(.int (4 : Int32)), (.int p4)]))
      obtain ⟨i125, hi125⟩ : ∃ z : Int32, p4 % (4 : Int32) = z := ⟨_, rfl⟩
      refine Go.step (fun t k => irem_v X0.here hx rfl (hb hby at_125) rfl (by decide) hi125 k) ?_
      show Go p.tables e below P (s₁.setTop (mkF m 126 #[.val (.int p1), .val (.int p2), .val (.int p3), .val (.int p4), .val (.int p5), .val (.long ja), .second, .val (.long jb), .second, .val (.long jc), .second, .val (.int i17), .unset, .unset, .unset, .unset, .unset, .unset, .unset, .unset] [(.int i125)]))
      obtain ⟨j126, hj126⟩ : ∃ z : Int64, i125.toInt64 = z := ⟨_, rfl⟩
      refine Go.step (fun t k => i2l_v X0.here hx rfl (hb hby at_126) rfl hj126 k) ?_
      show Go p.tables e below P (s₁.setTop (mkF m 127 #[.val (.int p1), .val (.int p2), .val (.int p3), .val (.int p4), .val (.int p5), .val (.long ja), .second, .val (.long jb), .second, .val (.long jc), .second, .val (.int i17), .unset, .unset, .unset, .unset, .unset, .unset, .unset, .unset] [(.long j126)]))
      have f125 := c_irem p4 (4 : Int32) 4 rfl; rw [hi125] at f125
      have b125 : -3 ≤ i125.toInt ∧ i125.toInt ≤ 3 := by omega
      have f126 := c_i2l i125; rw [hj126] at f126
      refine Go.step (fun t k => XS.lstore X0.here hx rfl (hb hby at_127) rfl (l' := #[.val (.int p1), .val (.int p2), .val (.int p3), .val (.int p4), .val (.int p5), .val (.long ja), .second, .val (.long jb), .second, .val (.long jc), .second, .val (.int i17), .val (.long j126), .second, .unset, .unset, .unset, .unset, .unset, .unset]) rfl k) ?_
      show Go p.tables e below P (s₁.setTop (mkF m 129 #[.val (.int p1), .val (.int p2), .val (.int p3), .val (.int p4), .val (.int p5), .val (.long ja), .second, .val (.long jb), .second, .val (.long jc), .second, .val (.int i17), .val (.long j126), .second, .unset, .unset, .unset, .unset, .unset, .unset] []))
      refine Go.step (fun t k => XS.iload X0.here hx rfl (hb hby at_129) rfl  k) ?_
      show Go p.tables e below P (s₁.setTop (mkF m 131 #[.val (.int p1), .val (.int p2), .val (.int p3), .val (.int p4), .val (.int p5), .val (.long ja), .second, .val (.long jb), .second, .val (.long jc), .second, .val (.int i17), .val (.long j126), .second, .unset, .unset, .unset, .unset, .unset, .unset] [(.int p5)]))
      refine Go.step (fun t k => XS.iconst X0.here hx rfl (hb hby at_131) k) ?_
      show Go p.tables e below P (s₁.setTop (mkF m 132 #[.val (.int p1), .val (.int p2), .val (.int p3), .val (.int p4), .val (.int p5), .val (.long ja), .second, .val (.long jb), .second, .val (.long jc), .second, .val (.int i17), .val (.long j126), .second, .unset, .unset, .unset, .unset, .unset, .unset] [(.int (3 : Int32)), (.int p5)]))
      obtain ⟨i132, hi132⟩ : ∃ z : Int32, p5 &&& (3 : Int32) = z := ⟨_, rfl⟩
      refine Go.step (fun t k => iand_v X0.here hx rfl (hb hby at_132) rfl  hi132 k) ?_
      show Go p.tables e below P (s₁.setTop (mkF m 133 #[.val (.int p1), .val (.int p2), .val (.int p3), .val (.int p4), .val (.int p5), .val (.long ja), .second, .val (.long jb), .second, .val (.long jc), .second, .val (.int i17), .val (.long j126), .second, .unset, .unset, .unset, .unset, .unset, .unset] [(.int i132)]))
      refine Go.step (fun t k => XS.istore X0.here hx rfl (hb hby at_133) rfl (l' := #[.val (.int p1), .val (.int p2), .val (.int p3), .val (.int p4), .val (.int p5), .val (.long ja), .second, .val (.long jb), .second, .val (.long jc), .second, .val (.int i17), .val (.long j126), .second, .val (.int i132), .unset, .unset, .unset, .unset, .unset]) rfl k) ?_
      show Go p.tables e below P (s₁.setTop (mkF m 135 #[.val (.int p1), .val (.int p2), .val (.int p3), .val (.int p4), .val (.int p5), .val (.long ja), .second, .val (.long jb), .second, .val (.long jc), .second, .val (.int i17), .val (.long j126), .second, .val (.int i132), .unset, .unset, .unset, .unset, .unset] []))
      refine Go.step (fun t k => XS.iload X0.here hx rfl (hb hby at_135) rfl  k) ?_
      show Go p.tables e below P (s₁.setTop (mkF m 137 #[.val (.int p1), .val (.int p2), .val (.int p3), .val (.int p4), .val (.int p5), .val (.long ja), .second, .val (.long jb), .second, .val (.long jc), .second, .val (.int i17), .val (.long j126), .second, .val (.int i132), .unset, .unset, .unset, .unset, .unset] [(.int i132)]))
      by_cases hc137 : ¬ i132.toInt = 0
      · refine Go.step (fun t k => XS.ifYes X0.here hx rfl (pc0 := 137) (pc' := 147) rfl (hb hby at_137) rfl (ifY (cd := .ne) hc137) (by decide) (by decide) k) ?_
        show Go p.tables e below P (s₁.setTop (mkF m 147 #[.val (.int p1), .val (.int p2), .val (.int p3), .val (.int p4), .val (.int p5), .val (.long ja), .second, .val (.long jb), .second, .val (.long jc), .second, .val (.int i17), .val (.long j126), .second, .val (.int i132), .unset, .unset, .unset, .unset, .unset] []))
        refine Go.step (fun t k => XS.iload X0.here hx rfl (hb hby at_147) rfl  k) ?_
        show Go p.tables e below P (s₁.setTop (mkF m 149 #[.val (.int p1), .val (.int p2), .val (.int p3), .val (.int p4), .val (.int p5), .val (.long ja), .second, .val (.long jb), .second, .val (.long jc), .second, .val (.int i17), .val (.long j126), .second, .val (.int i132), .unset, .unset, .unset, .unset, .unset] [(.int i132)]))
        refine Go.step (fun t k => XS.iconst X0.here hx rfl (hb hby at_149) k) ?_
        show Go p.tables e below P (s₁.setTop (mkF m 150 #[.val (.int p1), .val (.int p2), .val (.int p3), .val (.int p4), .val (.int p5), .val (.long ja), .second, .val (.long jb), .second, .val (.long jc), .second, .val (.int i17), .val (.long j126), .second, .val (.int i132), .unset, .unset, .unset, .unset, .unset] [(.int (1 : Int32)), (.int i132)]))
        by_cases hc150 : ¬ i132.toInt = (1 : Int)
        · refine Go.step (fun t k => XS.icmpYes X0.here hx rfl (pc0 := 150) (pc' := 163) rfl (hb hby at_150) rfl (icY (cd := .ne) hc150) (by decide) (by decide) k) ?_
          show Go p.tables e below P (s₁.setTop (mkF m 163 #[.val (.int p1), .val (.int p2), .val (.int p3), .val (.int p4), .val (.int p5), .val (.long ja), .second, .val (.long jb), .second, .val (.long jc), .second, .val (.int i17), .val (.long j126), .second, .val (.int i132), .unset, .unset, .unset, .unset, .unset] []))
          refine Go.step (fun t k => XS.iload X0.here hx rfl (hb hby at_163) rfl  k) ?_
          show Go p.tables e below P (s₁.setTop (mkF m 165 #[.val (.int p1), .val (.int p2), .val (.int p3), .val (.int p4), .val (.int p5), .val (.long ja), .second, .val (.long jb), .second, .val (.long jc), .second, .val (.int i17), .val (.long j126), .second, .val (.int i132), .unset, .unset, .unset, .unset, .unset] [(.int i132)]))
          refine Go.step (fun t k => XS.iconst X0.here hx rfl (hb hby at_165) k) ?_
          show Go p.tables e below P (s₁.setTop (mkF m 166 #[.val (.int p1), .val (.int p2), .val (.int p3), .val (.int p4), .val (.int p5), .val (.long ja), .second, .val (.long jb), .second, .val (.long jc), .second, .val (.int i17), .val (.long j126), .second, .val (.int i132), .unset, .unset, .unset, .unset, .unset] [(.int (2 : Int32)), (.int i132)]))
          by_cases hc166 : ¬ i132.toInt = (2 : Int)
          · refine Go.step (fun t k => XS.icmpYes X0.here hx rfl (pc0 := 166) (pc' := 179) rfl (hb hby at_166) rfl (icY (cd := .ne) hc166) (by decide) (by decide) k) ?_
            show Go p.tables e below P (s₁.setTop (mkF m 179 #[.val (.int p1), .val (.int p2), .val (.int p3), .val (.int p4), .val (.int p5), .val (.long ja), .second, .val (.long jb), .second, .val (.long jc), .second, .val (.int i17), .val (.long j126), .second, .val (.int i132), .unset, .unset, .unset, .unset, .unset] []))
            refine Go.step (fun t k => XS.lload X0.here hx rfl (hb hby at_179) rfl  k) ?_
            show Go p.tables e below P (s₁.setTop (mkF m 181 #[.val (.int p1), .val (.int p2), .val (.int p3), .val (.int p4), .val (.int p5), .val (.long ja), .second, .val (.long jb), .second, .val (.long jc), .second, .val (.int i17), .val (.long j126), .second, .val (.int i132), .unset, .unset, .unset, .unset, .unset] [(.long jc)]))
            refine Go.step (fun t k => XS.lload X0.here hx rfl (hb hby at_181) rfl  k) ?_
            show Go p.tables e below P (s₁.setTop (mkF m 183 #[.val (.int p1), .val (.int p2), .val (.int p3), .val (.int p4), .val (.int p5), .val (.long ja), .second, .val (.long jb), .second, .val (.long jc), .second, .val (.int i17), .val (.long j126), .second, .val (.int i132), .unset, .unset, .unset, .unset, .unset] [(.long j126), (.long jc)]))
            obtain ⟨j183, hj183⟩ : ∃ z : Int64, jc + j126 = z := ⟨_, rfl⟩
            refine Go.step (fun t k => ladd_v X0.here hx rfl (hb hby at_183) rfl  hj183 k) ?_
            show Go p.tables e below P (s₁.setTop (mkF m 184 #[.val (.int p1), .val (.int p2), .val (.int p3), .val (.int p4), .val (.int p5), .val (.long ja), .second, .val (.long jb), .second, .val (.long jc), .second, .val (.int i17), .val (.long j126), .second, .val (.int i132), .unset, .unset, .unset, .unset, .unset] [(.long j183)]))
            have f183 := c_ladd jc j126; rw [hj183] at f183
            have G183 := rng64 j183
            refine Go.step (fun t k => XS.lstore X0.here hx rfl (hb hby at_184) rfl (l' := #[.val (.int p1), .val (.int p2), .val (.int p3), .val (.int p4), .val (.int p5), .val (.long ja), .second, .val (.long jb), .second, .val (.long jc), .second, .val (.int i17), .val (.long j126), .second, .val (.int i132), .val (.long j183), .second, .unset, .unset, .unset]) rfl k) ?_
            show Go p.tables e below P (s₁.setTop (mkF m 186 #[.val (.int p1), .val (.int p2), .val (.int p3), .val (.int p4), .val (.int p5), .val (.long ja), .second, .val (.long jb), .second, .val (.long jc), .second, .val (.int i17), .val (.long j126), .second, .val (.int i132), .val (.long j183), .second, .unset, .unset, .unset] []))
            exact J186 _ _ _ _ _ _ ⟨by omega, by omega, by omega, by omega⟩
          · refine Go.step (fun t k => XS.icmpNo X0.here hx rfl (hb hby at_166) rfl (icN (cd := .ne) hc166) k) ?_
            show Go p.tables e below P (s₁.setTop (mkF m 169 #[.val (.int p1), .val (.int p2), .val (.int p3), .val (.int p4), .val (.int p5), .val (.long ja), .second, .val (.long jb), .second, .val (.long jc), .second, .val (.int i17), .val (.long j126), .second, .val (.int i132), .unset, .unset, .unset, .unset, .unset] []))
            refine Go.step (fun t k => XS.lload X0.here hx rfl (hb hby at_169) rfl  k) ?_
            show Go p.tables e below P (s₁.setTop (mkF m 171 #[.val (.int p1), .val (.int p2), .val (.int p3), .val (.int p4), .val (.int p5), .val (.long ja), .second, .val (.long jb), .second, .val (.long jc), .second, .val (.int i17), .val (.long j126), .second, .val (.int i132), .unset, .unset, .unset, .unset, .unset] [(.long jb)]))
            refine Go.step (fun t k => XS.lload X0.here hx rfl (hb hby at_171) rfl  k) ?_
            show Go p.tables e below P (s₁.setTop (mkF m 173 #[.val (.int p1), .val (.int p2), .val (.int p3), .val (.int p4), .val (.int p5), .val (.long ja), .second, .val (.long jb), .second, .val (.long jc), .second, .val (.int i17), .val (.long j126), .second, .val (.int i132), .unset, .unset, .unset, .unset, .unset] [(.long j126), (.long jb)]))
            obtain ⟨j173, hj173⟩ : ∃ z : Int64, jb + j126 = z := ⟨_, rfl⟩
            refine Go.step (fun t k => ladd_v X0.here hx rfl (hb hby at_173) rfl  hj173 k) ?_
            show Go p.tables e below P (s₁.setTop (mkF m 174 #[.val (.int p1), .val (.int p2), .val (.int p3), .val (.int p4), .val (.int p5), .val (.long ja), .second, .val (.long jb), .second, .val (.long jc), .second, .val (.int i17), .val (.long j126), .second, .val (.int i132), .unset, .unset, .unset, .unset, .unset] [(.long j173)]))
            have f173 := c_ladd jb j126; rw [hj173] at f173
            have G173 := rng64 j173
            refine Go.step (fun t k => XS.lstore X0.here hx rfl (hb hby at_174) rfl (l' := #[.val (.int p1), .val (.int p2), .val (.int p3), .val (.int p4), .val (.int p5), .val (.long ja), .second, .val (.long jb), .second, .val (.long jc), .second, .val (.int i17), .val (.long j126), .second, .val (.int i132), .val (.long j173), .second, .unset, .unset, .unset]) rfl k) ?_
            show Go p.tables e below P (s₁.setTop (mkF m 176 #[.val (.int p1), .val (.int p2), .val (.int p3), .val (.int p4), .val (.int p5), .val (.long ja), .second, .val (.long jb), .second, .val (.long jc), .second, .val (.int i17), .val (.long j126), .second, .val (.int i132), .val (.long j173), .second, .unset, .unset, .unset] []))
            refine Go.step (fun t k => XS.goto X0.here hx rfl (pc0 := 176) (pc' := 186) rfl (hb hby at_176) (by decide) (by decide) k) ?_
            show Go p.tables e below P (s₁.setTop (mkF m 186 #[.val (.int p1), .val (.int p2), .val (.int p3), .val (.int p4), .val (.int p5), .val (.long ja), .second, .val (.long jb), .second, .val (.long jc), .second, .val (.int i17), .val (.long j126), .second, .val (.int i132), .val (.long j173), .second, .unset, .unset, .unset] []))
            exact J186 _ _ _ _ _ _ ⟨by omega, by omega, by omega, by omega⟩
        · refine Go.step (fun t k => XS.icmpNo X0.here hx rfl (hb hby at_150) rfl (icN (cd := .ne) hc150) k) ?_
          show Go p.tables e below P (s₁.setTop (mkF m 153 #[.val (.int p1), .val (.int p2), .val (.int p3), .val (.int p4), .val (.int p5), .val (.long ja), .second, .val (.long jb), .second, .val (.long jc), .second, .val (.int i17), .val (.long j126), .second, .val (.int i132), .unset, .unset, .unset, .unset, .unset] []))
          refine Go.step (fun t k => XS.lload X0.here hx rfl (hb hby at_153) rfl  k) ?_
          show Go p.tables e below P (s₁.setTop (mkF m 155 #[.val (.int p1), .val (.int p2), .val (.int p3), .val (.int p4), .val (.int p5), .val (.long ja), .second, .val (.long jb), .second, .val (.long jc), .second, .val (.int i17), .val (.long j126), .second, .val (.int i132), .unset, .unset, .unset, .unset, .unset] [(.long ja)]))
          refine Go.step (fun t k => XS.lload X0.here hx rfl (hb hby at_155) rfl  k) ?_
          show Go p.tables e below P (s₁.setTop (mkF m 157 #[.val (.int p1), .val (.int p2), .val (.int p3), .val (.int p4), .val (.int p5), .val (.long ja), .second, .val (.long jb), .second, .val (.long jc), .second, .val (.int i17), .val (.long j126), .second, .val (.int i132), .unset, .unset, .unset, .unset, .unset] [(.long j126), (.long ja)]))
          obtain ⟨j157, hj157⟩ : ∃ z : Int64, ja + j126 = z := ⟨_, rfl⟩
          refine Go.step (fun t k => ladd_v X0.here hx rfl (hb hby at_157) rfl  hj157 k) ?_
          show Go p.tables e below P (s₁.setTop (mkF m 158 #[.val (.int p1), .val (.int p2), .val (.int p3), .val (.int p4), .val (.int p5), .val (.long ja), .second, .val (.long jb), .second, .val (.long jc), .second, .val (.int i17), .val (.long j126), .second, .val (.int i132), .unset, .unset, .unset, .unset, .unset] [(.long j157)]))
          have f157 := c_ladd ja j126; rw [hj157] at f157
          have G157 := rng64 j157
          refine Go.step (fun t k => XS.lstore X0.here hx rfl (hb hby at_158) rfl (l' := #[.val (.int p1), .val (.int p2), .val (.int p3), .val (.int p4), .val (.int p5), .val (.long ja), .second, .val (.long jb), .second, .val (.long jc), .second, .val (.int i17), .val (.long j126), .second, .val (.int i132), .val (.long j157), .second, .unset, .unset, .unset]) rfl k) ?_
          show Go p.tables e below P (s₁.setTop (mkF m 160 #[.val (.int p1), .val (.int p2), .val (.int p3), .val (.int p4), .val (.int p5), .val (.long ja), .second, .val (.long jb), .second, .val (.long jc), .second, .val (.int i17), .val (.long j126), .second, .val (.int i132), .val (.long j157), .second, .unset, .unset, .unset] []))
          refine Go.step (fun t k => XS.goto X0.here hx rfl (pc0 := 160) (pc' := 186) rfl (hb hby at_160) (by decide) (by decide) k) ?_
          show Go p.tables e below P (s₁.setTop (mkF m 186 #[.val (.int p1), .val (.int p2), .val (.int p3), .val (.int p4), .val (.int p5), .val (.long ja), .second, .val (.long jb), .second, .val (.long jc), .second, .val (.int i17), .val (.long j126), .second, .val (.int i132), .val (.long j157), .second, .unset, .unset, .unset] []))
          exact J186 _ _ _ _ _ _ ⟨by omega, by omega, by omega, by omega⟩
      · refine Go.step (fun t k => XS.ifNo X0.here hx rfl (hb hby at_137) rfl (ifN (cd := .ne) hc137) k) ?_
        show Go p.tables e below P (s₁.setTop (mkF m 140 #[.val (.int p1), .val (.int p2), .val (.int p3), .val (.int p4), .val (.int p5), .val (.long ja), .second, .val (.long jb), .second, .val (.long jc), .second, .val (.int i17), .val (.long j126), .second, .val (.int i132), .unset, .unset, .unset, .unset, .unset] []))
        refine Go.step (fun t k => XS.iloadN X0.here hx rfl (hb hby at_140) rfl  k) ?_
        show Go p.tables e below P (s₁.setTop (mkF m 141 #[.val (.int p1), .val (.int p2), .val (.int p3), .val (.int p4), .val (.int p5), .val (.long ja), .second, .val (.long jb), .second, .val (.long jc), .second, .val (.int i17), .val (.long j126), .second, .val (.int i132), .unset, .unset, .unset, .unset, .unset] [(.int p4)]))
        obtain ⟨j141, hj141⟩ : ∃ z : Int64, p4.toInt64 = z := ⟨_, rfl⟩
        refine Go.step (fun t k => i2l_v X0.here hx rfl (hb hby at_141) rfl hj141 k) ?_
        show Go p.tables e below P (s₁.setTop (mkF m 142 #[.val (.int p1), .val (.int p2), .val (.int p3), .val (.int p4), .val (.int p5), .val (.long ja), .second, .val (.long jb), .second, .val (.long jc), .second, .val (.int i17), .val (.long j126), .second, .val (.int i132), .unset, .unset, .unset, .unset, .unset] [(.long j141)]))
        refine Go.step (fun t k => XS.lstore X0.here hx rfl (hb hby at_142) rfl (l' := #[.val (.int p1), .val (.int p2), .val (.int p3), .val (.int p4), .val (.int p5), .val (.long ja), .second, .val (.long jb), .second, .val (.long jc), .second, .val (.int i17), .val (.long j126), .second, .val (.int i132), .val (.long j141), .second, .unset, .unset, .unset]) rfl k) ?_
        show Go p.tables e below P (s₁.setTop (mkF m 144 #[.val (.int p1), .val (.int p2), .val (.int p3), .val (.int p4), .val (.int p5), .val (.long ja), .second, .val (.long jb), .second, .val (.long jc), .second, .val (.int i17), .val (.long j126), .second, .val (.int i132), .val (.long j141), .second, .unset, .unset, .unset] []))
        refine Go.step (fun t k => XS.goto X0.here hx rfl (pc0 := 144) (pc' := 186) rfl (hb hby at_144) (by decide) (by decide) k) ?_
        show Go p.tables e below P (s₁.setTop (mkF m 186 #[.val (.int p1), .val (.int p2), .val (.int p3), .val (.int p4), .val (.int p5), .val (.long ja), .second, .val (.long jb), .second, .val (.long jc), .second, .val (.int i17), .val (.long j126), .second, .val (.int i132), .val (.long j141), .second, .unset, .unset, .unset] []))
        have f141 := c_i2l p4; rw [hj141] at f141
        exact J186 _ _ _ _ _ _ ⟨by omega, by omega, by omega, by omega⟩
    · refine Go.step (fun t k => XS.ifNo X0.here hx rfl (hb hby at_64) rfl (ifN (cd := .eq) hc64) k) ?_
      show Go p.tables e below P (s₁.setTop (mkF m 67 #[.val (.int p1), .val (.int p2), .val (.int p3), .val (.int p4), .val (.int p5), .val (.long ja), .second, .val (.long jb), .second, .val (.long jc), .second, .val (.int i17), .unset, .unset, .unset, .unset, .unset, .unset, .unset, .unset] []))
      refine Go.step (fun t k => XS.lload X0.here hx rfl (hb hby at_67) rfl  k) ?_
      show Go p.tables e below P (s₁.setTop (mkF m 69 #[.val (.int p1), .val (.int p2), .val (.int p3), .val (.int p4), .val (.int p5), .val (.long ja), .second, .val (.long jb), .second, .val (.long jc), .second, .val (.int i17), .unset, .unset, .unset, .unset, .unset, .unset, .unset, .unset] [(.long ja)]))
      refine Go.step (fun t k => XS.lload X0.here hx rfl (hb hby at_69) rfl  k) ?_
      show Go p.tables e below P (s₁.setTop (mkF m 71 #[.val (.int p1), .val (.int p2), .val (.int p3), .val (.int p4), .val (.int p5), .val (.long ja), .second, .val (.long jb), .second, .val (.long jc), .second, .val (.int i17), .unset, .unset, .unset, .unset, .unset, .unset, .unset, .unset] [(.long jb), (.long ja)]))
      refine Go.step (fun t k => XS.lload X0.here hx rfl (hb hby at_71) rfl  k) ?_
      show Go p.tables e below P (s₁.setTop (mkF m 73 #[.val (.int p1), .val (.int p2), .val (.int p3), .val (.int p4), .val (.int p5), .val (.long ja), .second, .val (.long jb), .second, .val (.long jc), .second, .val (.int i17), .unset, .unset, .unset, .unset, .unset, .unset, .unset, .unset] [(.long jc), (.long jb), (.long ja)]))
      obtain ⟨_, _, ⟨T_5, L_5, k_5, n_5⟩, -, X_5, ⟨Lc_5, hQ_5, l_5, y_5, z_5⟩, st_5⟩ := Jvm.LawKit.callS X0 hx (y := (⟨"java/lang/Math", "min", "(JJ)J"⟩ : MethodName)) hown (mvT hZ (hw _ (List.mem_of_getElem? (i := 35) rfl))) (mvT hZ (hw _ (List.mem_of_getElem? (i := 36) rfl))) (mvT hZ (hw _ (List.mem_of_getElem? (i := 37) rfl))) (mvT hZ (hw _ (List.mem_of_getElem? (i := 38) rfl))) (by decide) (backOf (W := 2) (rm2 l Z a0 hw [] jb jc h0 n0 Z0 ) hZ (hw _ (List.mem_of_getElem? (i := 38) rfl)) (hw _ (List.mem_of_getElem? (i := 37) rfl)) (by decide) (by decide)) (g := (mkF m 73 #[.val (.int p1), .val (.int p2), .val (.int p3), .val (.int p4), .val (.int p5), .val (.long ja), .second, .val (.long jb), .second, .val (.long jc), .second, .val (.int i17), .unset, .unset, .unset, .unset, .unset, .unset, .unset, .unset] [(.long jc), (.long jb), (.long ja)])) rfl (by rw [hml]; rfl) (argsL := [(.long jb), (.long jc)]) (rest := [(.long ja)]) (lenOf pd_3 rfl) rfl (by show 2 * 0 + _ ≤ _; exact Nat.le_of_eq rfl) (hb hby at_73) (fun _ _ => ⟨rfl, e0, (by decide : 0 + 0 ≤ _), (by decide : 0 + 0 ≤ _)⟩)
      dsimp only [Pt.U, Pt.locs, Pt.cells, Pt.slots] at X_5 l_5 y_5 z_5 st_5 hQ_5
      subst l_5 y_5 z_5
      obtain ⟨m1, rfl, hm1, N_5q, eh_5⟩ := hQ_5
      have N_5 := Fr.app N0 N_5q
      refine Go.step (fun t k => st_5 t k) ?_
      show Go p.tables e below P (T_5.setTop (mkF m 76 #[.val (.int p1), .val (.int p2), .val (.int p3), .val (.int p4), .val (.int p5), .val (.long ja), .second, .val (.long jb), .second, .val (.long jc), .second, .val (.int i17), .unset, .unset, .unset, .unset, .unset, .unset, .unset, .unset] [(.long m1), (.long ja)]))
      obtain ⟨_, _, ⟨T_6, L_6, k_6, n_6⟩, -, X_6, ⟨Lc_6, hQ_6, l_6, y_6, z_6⟩, st_6⟩ := Jvm.LawKit.callS X_5 hx (y := (⟨"java/lang/Math", "min", "(JJ)J"⟩ : MethodName)) hown (mvT hZ (hw _ (List.mem_of_getElem? (i := 35) rfl))) (mvT hZ (hw _ (List.mem_of_getElem? (i := 36) rfl))) (mvT hZ (hw _ (List.mem_of_getElem? (i := 37) rfl))) (mvT hZ (hw _ (List.mem_of_getElem? (i := 38) rfl))) (by decide) (backOf (W := 0) (rm2 l Z a0 hw [] ja m1 h0 n0 Z0 ) hZ (hw _ (List.mem_of_getElem? (i := 38) rfl)) (hw _ (List.mem_of_getElem? (i := 37) rfl)) (by decide) (by decide)) (g := (mkF m 76 #[.val (.int p1), .val (.int p2), .val (.int p3), .val (.int p4), .val (.int p5), .val (.long ja), .second, .val (.long jb), .second, .val (.long jc), .second, .val (.int i17), .unset, .unset, .unset, .unset, .unset, .unset, .unset, .unset] [(.long m1), (.long ja)])) rfl (by rw [hml]; rfl) (argsL := [(.long ja), (.long m1)]) (rest := []) (lenOf pd_3 rfl) rfl (by show 2 * 0 + _ ≤ _; exact Nat.le_of_eq rfl) (hb hby at_76) (fun _ _ => ⟨rfl, eh_5, (by decide : 0 + 0 ≤ _), (by decide : 0 + 0 ≤ _)⟩)
      dsimp only [Pt.U, Pt.locs, Pt.cells, Pt.slots] at X_6 l_6 y_6 z_6 st_6 hQ_6
      subst l_6 y_6 z_6
      obtain ⟨m2, rfl, hm2, N_6q, eh_6⟩ := hQ_6
      have N_6 := Fr.app N_5 N_6q
      refine Go.step (fun t k => st_6 t k) ?_
      show Go p.tables e below P (T_6.setTop (mkF m 79 #[.val (.int p1), .val (.int p2), .val (.int p3), .val (.int p4), .val (.int p5), .val (.long ja), .second, .val (.long jb), .second, .val (.long jc), .second, .val (.int i17), .unset, .unset, .unset, .unset, .unset, .unset, .unset, .unset] [(.long m2)]))
      refine Go.step (fun t k => XS.lstore X_6.here hx rfl (hb hby at_79) rfl (l' := #[.val (.int p1), .val (.int p2), .val (.int p3), .val (.int p4), .val (.int p5), .val (.long ja), .second, .val (.long jb), .second, .val (.long jc), .second, .val (.int i17), .val (.long m2), .second, .unset, .unset, .unset, .unset, .unset, .unset]) rfl k) ?_
      show Go p.tables e below P (T_6.setTop (mkF m 81 #[.val (.int p1), .val (.int p2), .val (.int p3), .val (.int p4), .val (.int p5), .val (.long ja), .second, .val (.long jb), .second, .val (.long jc), .second, .val (.int i17), .val (.long m2), .second, .unset, .unset, .unset, .unset, .unset, .unset] []))
      refine Go.step (fun t k => XS.lload X_6.here hx rfl (hb hby at_81) rfl  k) ?_
      show Go p.tables e below P (T_6.setTop (mkF m 83 #[.val (.int p1), .val (.int p2), .val (.int p3), .val (.int p4), .val (.int p5), .val (.long ja), .second, .val (.long jb), .second, .val (.long jc), .second, .val (.int i17), .val (.long m2), .second, .unset, .unset, .unset, .unset, .unset, .unset] [(.long ja)]))
      refine Go.step (fun t k => XS.lload X_6.here hx rfl (hb hby at_83) rfl  k) ?_
      show Go p.tables e below P (T_6.setTop (mkF m 85 #[.val (.int p1), .val (.int p2), .val (.int p3), .val (.int p4), .val (.int p5), .val (.long ja), .second, .val (.long jb), .second, .val (.long jc), .second, .val (.int i17), .val (.long m2), .second, .unset, .unset, .unset, .unset, .unset, .unset] [(.long jb), (.long ja)]))
      refine Go.step (fun t k => XS.lload X_6.here hx rfl (hb hby at_85) rfl  k) ?_
      show Go p.tables e below P (T_6.setTop (mkF m 87 #[.val (.int p1), .val (.int p2), .val (.int p3), .val (.int p4), .val (.int p5), .val (.long ja), .second, .val (.long jb), .second, .val (.long jc), .second, .val (.int i17), .val (.long m2), .second, .unset, .unset, .unset, .unset, .unset, .unset] [(.long jc), (.long jb), (.long ja)]))
      obtain ⟨_, _, ⟨T_7, L_7, k_7, n_7⟩, -, X_7, ⟨Lc_7, hQ_7, l_7, y_7, z_7⟩, st_7⟩ := Jvm.LawKit.callS X_6 hx (y := (⟨"java/lang/Math", "max", "(JJ)J"⟩ : MethodName)) hown (mvT hZ (hw _ (List.mem_of_getElem? (i := 39) rfl))) (mvT hZ (hw _ (List.mem_of_getElem? (i := 40) rfl))) (mvT hZ (hw _ (List.mem_of_getElem? (i := 37) rfl))) (mvT hZ (hw _ (List.mem_of_getElem? (i := 41) rfl))) (by decide) (backOf (W := 2) (rm3 l Z a0 hw [] jb jc h0 n0 Z0 ) hZ (hw _ (List.mem_of_getElem? (i := 41) rfl)) (hw _ (List.mem_of_getElem? (i := 37) rfl)) (by decide) (by decide)) (g := (mkF m 87 #[.val (.int p1), .val (.int p2), .val (.int p3), .val (.int p4), .val (.int p5), .val (.long ja), .second, .val (.long jb), .second, .val (.long jc), .second, .val (.int i17), .val (.long m2), .second, .unset, .unset, .unset, .unset, .unset, .unset] [(.long jc), (.long jb), (.long ja)])) rfl (by rw [hml]; rfl) (argsL := [(.long jb), (.long jc)]) (rest := [(.long ja)]) (lenOf pd_3 rfl) rfl (by show 2 * 0 + _ ≤ _; exact Nat.le_of_eq rfl) (hb hby at_87) (fun _ _ => ⟨rfl, eh_6, (by decide : 0 + 0 ≤ _), (by decide : 0 + 0 ≤ _)⟩)
      dsimp only [Pt.U, Pt.locs, Pt.cells, Pt.slots] at X_7 l_7 y_7 z_7 st_7 hQ_7
      subst l_7 y_7 z_7
      obtain ⟨m3, rfl, hm3, N_7q, eh_7⟩ := hQ_7
      have N_7 := Fr.app N_6 N_7q
      refine Go.step (fun t k => st_7 t k) ?_
      show Go p.tables e below P (T_7.setTop (mkF m 90 #[.val (.int p1), .val (.int p2), .val (.int p3), .val (.int p4), .val (.int p5), .val (.long ja), .second, .val (.long jb), .second, .val (.long jc), .second, .val (.int i17), .val (.long m2), .second, .unset, .unset, .unset, .unset, .unset, .unset] [(.long m3), (.long ja)]))
      obtain ⟨_, _, ⟨T_8, L_8, k_8, n_8⟩, -, X_8, ⟨Lc_8, hQ_8, l_8, y_8, z_8⟩, st_8⟩ := Jvm.LawKit.callS X_7 hx (y := (⟨"java/lang/Math", "max", "(JJ)J"⟩ : MethodName)) hown (mvT hZ (hw _ (List.mem_of_getElem? (i := 39) rfl))) (mvT hZ (hw _ (List.mem_of_getElem? (i := 40) rfl))) (mvT hZ (hw _ (List.mem_of_getElem? (i := 37) rfl))) (mvT hZ (hw _ (List.mem_of_getElem? (i := 41) rfl))) (by decide) (backOf (W := 0) (rm3 l Z a0 hw [] ja m3 h0 n0 Z0 ) hZ (hw _ (List.mem_of_getElem? (i := 41) rfl)) (hw _ (List.mem_of_getElem? (i := 37) rfl)) (by decide) (by decide)) (g := (mkF m 90 #[.val (.int p1), .val (.int p2), .val (.int p3), .val (.int p4), .val (.int p5), .val (.long ja), .second, .val (.long jb), .second, .val (.long jc), .second, .val (.int i17), .val (.long m2), .second, .unset, .unset, .unset, .unset, .unset, .unset] [(.long m3), (.long ja)])) rfl (by rw [hml]; rfl) (argsL := [(.long ja), (.long m3)]) (rest := []) (lenOf pd_3 rfl) rfl (by show 2 * 0 + _ ≤ _; exact Nat.le_of_eq rfl) (hb hby at_90) (fun _ _ => ⟨rfl, eh_7, (by decide : 0 + 0 ≤ _), (by decide : 0 + 0 ≤ _)⟩)
      dsimp only [Pt.U, Pt.locs, Pt.cells, Pt.slots] at X_8 l_8 y_8 z_8 st_8 hQ_8
      subst l_8 y_8 z_8
      obtain ⟨m4, rfl, hm4, N_8q, eh_8⟩ := hQ_8
      have N_8 := Fr.app N_7 N_8q
      refine Go.step (fun t k => st_8 t k) ?_
      show Go p.tables e below P (T_8.setTop (mkF m 93 #[.val (.int p1), .val (.int p2), .val (.int p3), .val (.int p4), .val (.int p5), .val (.long ja), .second, .val (.long jb), .second, .val (.long jc), .second, .val (.int i17), .val (.long m2), .second, .unset, .unset, .unset, .unset, .unset, .unset] [(.long m4)]))
      refine Go.step (fun t k => XS.lstore X_8.here hx rfl (hb hby at_93) rfl (l' := #[.val (.int p1), .val (.int p2), .val (.int p3), .val (.int p4), .val (.int p5), .val (.long ja), .second, .val (.long jb), .second, .val (.long jc), .second, .val (.int i17), .val (.long m2), .second, .val (.long m4), .second, .unset, .unset, .unset, .unset]) rfl k) ?_
      show Go p.tables e below P (T_8.setTop (mkF m 95 #[.val (.int p1), .val (.int p2), .val (.int p3), .val (.int p4), .val (.int p5), .val (.long ja), .second, .val (.long jb), .second, .val (.long jc), .second, .val (.int i17), .val (.long m2), .second, .val (.long m4), .second, .unset, .unset, .unset, .unset] []))
      refine Go.step (fun t k => XS.lload X_8.here hx rfl (hb hby at_95) rfl  k) ?_
      show Go p.tables e below P (T_8.setTop (mkF m 97 #[.val (.int p1), .val (.int p2), .val (.int p3), .val (.int p4), .val (.int p5), .val (.long ja), .second, .val (.long jb), .second, .val (.long jc), .second, .val (.int i17), .val (.long m2), .second, .val (.long m4), .second, .unset, .unset, .unset, .unset] [(.long ja)]))
      refine Go.step (fun t k => XS.lload X_8.here hx rfl (hb hby at_97) rfl  k) ?_
      show Go p.tables e below P (T_8.setTop (mkF m 99 #[.val (.int p1), .val (.int p2), .val (.int p3), .val (.int p4), .val (.int p5), .val (.long ja), .second, .val (.long jb), .second, .val (.long jc), .second, .val (.int i17), .val (.long m2), .second, .val (.long m4), .second, .unset, .unset, .unset, .unset] [(.long jb), (.long ja)]))
      obtain ⟨j99, hj99⟩ : ∃ z : Int64, ja + jb = z := ⟨_, rfl⟩
      refine Go.step (fun t k => ladd_v X_8.here hx rfl (hb hby at_99) rfl  hj99 k) ?_
      show Go p.tables e below P (T_8.setTop (mkF m 100 #[.val (.int p1), .val (.int p2), .val (.int p3), .val (.int p4), .val (.int p5), .val (.long ja), .second, .val (.long jb), .second, .val (.long jc), .second, .val (.int i17), .val (.long m2), .second, .val (.long m4), .second, .unset, .unset, .unset, .unset] [(.long j99)]))
      refine Go.step (fun t k => XS.lload X_8.here hx rfl (hb hby at_100) rfl  k) ?_
      show Go p.tables e below P (T_8.setTop (mkF m 102 #[.val (.int p1), .val (.int p2), .val (.int p3), .val (.int p4), .val (.int p5), .val (.long ja), .second, .val (.long jb), .second, .val (.long jc), .second, .val (.int i17), .val (.long m2), .second, .val (.long m4), .second, .unset, .unset, .unset, .unset] [(.long jc), (.long j99)]))
      obtain ⟨j102, hj102⟩ : ∃ z : Int64, j99 + jc = z := ⟨_, rfl⟩
      refine Go.step (fun t k => ladd_v X_8.here hx rfl (hb hby at_102) rfl  hj102 k) ?_
      show Go p.tables e below P (T_8.setTop (mkF m 103 #[.val (.int p1), .val (.int p2), .val (.int p3), .val (.int p4), .val (.int p5), .val (.long ja), .second, .val (.long jb), .second, .val (.long jc), .second, .val (.int i17), .val (.long m2), .second, .val (.long m4), .second, .unset, .unset, .unset, .unset] [(.long j102)]))
      refine Go.step (fun t k => XS.lload X_8.here hx rfl (hb hby at_103) rfl  k) ?_
      show Go p.tables e below P (T_8.setTop (mkF m 105 #[.val (.int p1), .val (.int p2), .val (.int p3), .val (.int p4), .val (.int p5), .val (.long ja), .second, .val (.long jb), .second, .val (.long jc), .second, .val (.int i17), .val (.long m2), .second, .val (.long m4), .second, .unset, .unset, .unset, .unset] [(.long m2), (.long j102)]))
      obtain ⟨j105, hj105⟩ : ∃ z : Int64, j102 - m2 = z := ⟨_, rfl⟩
      refine Go.step (fun t k => lsub_v X_8.here hx rfl (hb hby at_105) rfl  hj105 k) ?_
      show Go p.tables e below P (T_8.setTop (mkF m 106 #[.val (.int p1), .val (.int p2), .val (.int p3), .val (.int p4), .val (.int p5), .val (.long ja), .second, .val (.long jb), .second, .val (.long jc), .second, .val (.int i17), .val (.long m2), .second, .val (.long m4), .second, .unset, .unset, .unset, .unset] [(.long j105)]))
      refine Go.step (fun t k => XS.lload X_8.here hx rfl (hb hby at_106) rfl  k) ?_
      show Go p.tables e below P (T_8.setTop (mkF m 108 #[.val (.int p1), .val (.int p2), .val (.int p3), .val (.int p4), .val (.int p5), .val (.long ja), .second, .val (.long jb), .second, .val (.long jc), .second, .val (.int i17), .val (.long m2), .second, .val (.long m4), .second, .unset, .unset, .unset, .unset] [(.long m4), (.long j105)]))
      obtain ⟨j108, hj108⟩ : ∃ z : Int64, j105 - m4 = z := ⟨_, rfl⟩
      refine Go.step (fun t k => lsub_v X_8.here hx rfl (hb hby at_108) rfl  hj108 k) ?_
      show Go p.tables e below P (T_8.setTop (mkF m 109 #[.val (.int p1), .val (.int p2), .val (.int p3), .val (.int p4), .val (.int p5), .val (.long ja), .second, .val (.long jb), .second, .val (.long jc), .second, .val (.int i17), .val (.long m2), .second, .val (.long m4), .second, .unset, .unset, .unset, .unset] [(.long j108)]))
      have f99 := c_ladd ja jb; rw [hj99] at f99
      have G99 := rng64 j99
      have f102 := c_ladd j99 jc; rw [hj102] at f102
      have G102 := rng64 j102
      have f105 := c_lsub j102 m2; rw [hj105] at f105
      have G105 := rng64 j105
      have f108 := c_lsub j105 m4; rw [hj108] at f108
      have G108 := rng64 j108
      have v99 : j99.toInt = ja.toInt + jb.toInt := by omega
      have v102 : j102.toInt = j99.toInt + jc.toInt := by omega
      have b2 : (-2147483648 ≤ m2.toInt ∧ m2.toInt ≤ 2147483647) := by omega
      have b4 : (-2147483648 ≤ m4.toInt ∧ m4.toInt ≤ 2147483647) := by omega
      have v105 : j105.toInt = j102.toInt - m2.toInt := by omega
      have v108 : j108.toInt = j105.toInt - m4.toInt := by omega
      have b8 : (-2147483648 ≤ j108.toInt ∧ j108.toInt ≤ 2147483647) := by omega
      clear f99 f102 f105 f108 hm1 hm2 hm3 hm4 v99 v102 v105 v108
      refine Go.step (fun t k => XS.lstore X_8.here hx rfl (hb hby at_109) rfl (l' := #[.val (.int p1), .val (.int p2), .val (.int p3), .val (.int p4), .val (.int p5), .val (.long ja), .second, .val (.long jb), .second, .val (.long jc), .second, .val (.int i17), .val (.long m2), .second, .val (.long m4), .second, .val (.long j108), .second, .unset, .unset]) rfl k) ?_
      show Go p.tables e below P (T_8.setTop (mkF m 111 #[.val (.int p1), .val (.int p2), .val (.int p3), .val (.int p4), .val (.int p5), .val (.long ja), .second, .val (.long jb), .second, .val (.long jc), .second, .val (.int i17), .val (.long m2), .second, .val (.long m4), .second, .val (.long j108), .second, .unset, .unset] []))
      refine Go.step (fun t k => XS.lload X_8.here hx rfl (hb hby at_111) rfl  k) ?_
      show Go p.tables e below P (T_8.setTop (mkF m 113 #[.val (.int p1), .val (.int p2), .val (.int p3), .val (.int p4), .val (.int p5), .val (.long ja), .second, .val (.long jb), .second, .val (.long jc), .second, .val (.int i17), .val (.long m2), .second, .val (.long m4), .second, .val (.long j108), .second, .unset, .unset] [(.long m2)]))
      refine Go.step (fun t k => XS.lstore X_8.here hx rfl (hb hby at_113) rfl (l' := #[.val (.int p1), .val (.int p2), .val (.int p3), .val (.int p4), .val (.int p5), .val (.long m2), .second, .val (.long jb), .second, .val (.long jc), .second, .val (.int i17), .val (.long m2), .second, .val (.long m4), .second, .val (.long j108), .second, .unset, .unset]) rfl k) ?_
      show Go p.tables e below P (T_8.setTop (mkF m 115 #[.val (.int p1), .val (.int p2), .val (.int p3), .val (.int p4), .val (.int p5), .val (.long m2), .second, .val (.long jb), .second, .val (.long jc), .second, .val (.int i17), .val (.long m2), .second, .val (.long m4), .second, .val (.long j108), .second, .unset, .unset] []))
      refine Go.step (fun t k => XS.lload X_8.here hx rfl (hb hby at_115) rfl  k) ?_
      show Go p.tables e below P (T_8.setTop (mkF m 117 #[.val (.int p1), .val (.int p2), .val (.int p3), .val (.int p4), .val (.int p5), .val (.long m2), .second, .val (.long jb), .second, .val (.long jc), .second, .val (.int i17), .val (.long m2), .second, .val (.long m4), .second, .val (.long j108), .second, .unset, .unset] [(.long j108)]))
      refine Go.step (fun t k => XS.lstore X_8.here hx rfl (hb hby at_117) rfl (l' := #[.val (.int p1), .val (.int p2), .val (.int p3), .val (.int p4), .val (.int p5), .val (.long m2), .second, .val (.long j108), .second, .val (.long jc), .second, .val (.int i17), .val (.long m2), .second, .val (.long m4), .second, .val (.long j108), .second, .unset, .unset]) rfl k) ?_
      show Go p.tables e below P (T_8.setTop (mkF m 119 #[.val (.int p1), .val (.int p2), .val (.int p3), .val (.int p4), .val (.int p5), .val (.long m2), .second, .val (.long j108), .second, .val (.long jc), .second, .val (.int i17), .val (.long m2), .second, .val (.long m4), .second, .val (.long j108), .second, .unset, .unset] []))
      refine Go.step (fun t k => XS.lload X_8.here hx rfl (hb hby at_119) rfl  k) ?_
      show Go p.tables e below P (T_8.setTop (mkF m 121 #[.val (.int p1), .val (.int p2), .val (.int p3), .val (.int p4), .val (.int p5), .val (.long m2), .second, .val (.long j108), .second, .val (.long jc), .second, .val (.int i17), .val (.long m2), .second, .val (.long m4), .second, .val (.long j108), .second, .unset, .unset] [(.long m4)]))
      refine Go.step (fun t k => XS.lstore X_8.here hx rfl (hb hby at_121) rfl (l' := #[.val (.int p1), .val (.int p2), .val (.int p3), .val (.int p4), .val (.int p5), .val (.long m2), .second, .val (.long j108), .second, .val (.long m4), .second, .val (.int i17), .val (.long m2), .second, .val (.long m4), .second, .val (.long j108), .second, .unset, .unset]) rfl k) ?_
      show Go p.tables e below P (T_8.setTop (mkF m 123 #[.val (.int p1), .val (.int p2), .val (.int p3), .val (.int p4), .val (.int p5), .val (.long m2), .second, .val (.long j108), .second, .val (.long m4), .second, .val (.int i17), .val (.long m2), .second, .val (.long m4), .second, .val (.long j108), .second, .unset, .unset] []))
      have J186 : ∀ (ja : Int64) (jb : Int64) (jc : Int64) (jo : Int64) (io : Int32) (jx : Int64), ((-2147483648 ≤ ja.toInt ∧ ja.toInt ≤ 2147483647) ∧ (-2147483648 ≤ jb.toInt ∧ jb.toInt ≤ 2147483647) ∧ (-2147483648 ≤ jc.toInt ∧ jc.toInt ≤ 2147483647) ∧ (-2147483651 ≤ jx.toInt ∧ jx.toInt ≤ 2147483650)) → Go p.tables e below P (T_8.setTop (mkF m 186 #[.val (.int p1), .val (.int p2), .val (.int p3), .val (.int p4), .val (.int p5), .val (.long ja), .second, .val (.long jb), .second, .val (.long jc), .second, .val (.int i17), .val (.long jo), .second, .val (.int io), .val (.long jx), .second, .unset, .unset, .unset] [])) := by
        intro ja jb jc jo io jx hj_
        show Go p.tables e below P (T_8.setTop (mkF m 186 #[.val (.int p1), .val (.int p2), .val (.int p3), .val (.int p4), .val (.int p5), .val (.long ja), .second, .val (.long jb), .second, .val (.long jc), .second, .val (.int i17), .val (.long jo), .second, .val (.int io), .val (.long jx), .second, .unset, .unset, .unset] []))
        obtain ⟨bja, bjb, bjc, bjx⟩ := hj_
        obtain ⟨T_9, h_9, X_9, e_9, E_9, A_9, D_9, -, st_9⟩ := newO X_8 hx hZ hown (hw _ (List.mem_of_getElem? (i := 0) rfl)) (hw _ (List.mem_of_getElem? (i := 1) rfl)) (hw _ (List.mem_of_getElem? (i := 2) rfl)) eh_8 (g := (mkF m 186 #[.val (.int p1), .val (.int p2), .val (.int p3), .val (.int p4), .val (.int p5), .val (.long ja), .second, .val (.long jb), .second, .val (.long jc), .second, .val (.int i17), .val (.long jo), .second, .val (.int io), .val (.long jx), .second, .unset, .unset, .unset] [])) rfl (hb hby at_186) (by decide) (by decide)
        obtain ⟨b_9, g_9⟩ : ∃ z, z = h0.size := ⟨_, rfl⟩
        rw [← g_9] at A_9 D_9 st_9
        have g_b_9 : n0 ≤ b_9 := Nat.le_trans Z0 (Nat.le_of_eq g_9.symm)
        have sz_b_9 : h0.size ≤ b_9 := Nat.le_trans (Keep.refl h0 []).1 (Nat.le_of_eq g_9.symm)
        have F_name_b_9 : Fld Z h_9 b_9 "com/example/orabona/orabona/model/FuzzySet$Triangular" "name" "Ljava/lang/String;" .null := D_9 (Or.inr (hw _ (List.mem_of_getElem? (i := 23) rfl))) (ty := (.object "java/lang/String")) (by decide)
        have F_a_b_9 : Fld Z h_9 b_9 "com/example/orabona/orabona/model/FuzzySet$Triangular" "a" "D" (.double (0 : UInt64)) := D_9 (Or.inr (hw _ (List.mem_of_getElem? (i := 25) rfl))) (ty := .double) (by decide)
        have F_b_b_9 : Fld Z h_9 b_9 "com/example/orabona/orabona/model/FuzzySet$Triangular" "b" "D" (.double (0 : UInt64)) := D_9 (Or.inr (hw _ (List.mem_of_getElem? (i := 27) rfl))) (ty := .double) (by decide)
        have F_c_b_9 : Fld Z h_9 b_9 "com/example/orabona/orabona/model/FuzzySet$Triangular" "c" "D" (.double (0 : UInt64)) := D_9 (Or.inr (hw _ (List.mem_of_getElem? (i := 29) rfl))) (ty := .double) (by decide)
        have K_9 : Keep h0 h_9 [] := (Keep.refl h0 []).ext E_9
        have Z_9 : n0 ≤ h_9.size := Nat.le_trans Z0 E_9.1
        refine Go.step (fun t k => st_9 t k) ?_
        show Go p.tables e below P (T_9.setTop (mkF m 189 #[.val (.int p1), .val (.int p2), .val (.int p3), .val (.int p4), .val (.int p5), .val (.long ja), .second, .val (.long jb), .second, .val (.long jc), .second, .val (.int i17), .val (.long jo), .second, .val (.int io), .val (.long jx), .second, .unset, .unset, .unset] [(.ref b_9)]))
        refine Go.step (fun t k => XS.dup X_9.here hx rfl (hb hby at_189) rfl rfl k) ?_
        show Go p.tables e below P (T_9.setTop (mkF m 190 #[.val (.int p1), .val (.int p2), .val (.int p3), .val (.int p4), .val (.int p5), .val (.long ja), .second, .val (.long jb), .second, .val (.long jc), .second, .val (.int i17), .val (.long jo), .second, .val (.int io), .val (.long jx), .second, .unset, .unset, .unset] [(.ref b_9), (.ref b_9)]))
        have wS_10 : ∀ d ∈ Bundle.stringAtoms, d.before a0 Z = true := by
          intro d hd
          simp only [Bundle.stringAtoms, List.mem_cons, List.not_mem_nil, or_false] at hd
          rcases hd with rfl | rfl | rfl | rfl | rfl | rfl | rfl
          · exact (hw _ (List.mem_of_getElem? (i := 4) rfl))
          · exact (hw _ (List.mem_of_getElem? (i := 5) rfl))
          · exact (hw _ (List.mem_of_getElem? (i := 6) rfl))
          · exact (hw _ (List.mem_of_getElem? (i := 7) rfl))
          · exact (hw _ (List.mem_of_getElem? (i := 8) rfl))
          · exact (hw _ (List.mem_of_getElem? (i := 9) rfl))
          · exact (hw _ (List.mem_of_getElem? (i := 10) rfl))
        obtain ⟨b_10, T_10, h_10, kk_10, X_10, e_10, E_10, hS, hk_10, hZ, hown, st_10⟩ := ldcS (s := s) (vm0 := s.vm) X_9 hx hZ hown (hw _ (List.mem_of_getElem? (i := 3) rfl)) wS_10 e_9 ((State.WarmedH.refl s).since _) K_9.1 (g := (mkF m 190 #[.val (.int p1), .val (.int p2), .val (.int p3), .val (.int p4), .val (.int p5), .val (.long ja), .second, .val (.long jb), .second, .val (.long jc), .second, .val (.int i17), .val (.long jo), .second, .val (.int io), .val (.long jx), .second, .unset, .unset, .unset] [(.ref b_9), (.ref b_9)])) rfl (hb hby at_190) (n := 4) (by decide) (by decide) (by decide) (by decide)
        have K_10 : Keep h0 h_10 [] := K_9.ext E_10
        have Z_10 : n0 ≤ h_10.size := Nat.le_trans Z_9 E_10.1
        refine Go.step (fun t k => st_10 t k) ?_
        show Go p.tables e below P (T_10.setTop (mkF m 192 #[.val (.int p1), .val (.int p2), .val (.int p3), .val (.int p4), .val (.int p5), .val (.long ja), .second, .val (.long jb), .second, .val (.long jc), .second, .val (.int i17), .val (.long jo), .second, .val (.int io), .val (.long jx), .second, .unset, .unset, .unset] [(.ref b_10), (.ref b_9), (.ref b_9)]))
        refine Go.step (fun t k => XS.lload X_10.here hx rfl (hb hby at_192) rfl  k) ?_
        show Go p.tables e below P (T_10.setTop (mkF m 194 #[.val (.int p1), .val (.int p2), .val (.int p3), .val (.int p4), .val (.int p5), .val (.long ja), .second, .val (.long jb), .second, .val (.long jc), .second, .val (.int i17), .val (.long jo), .second, .val (.int io), .val (.long jx), .second, .unset, .unset, .unset] [(.long ja), (.ref b_10), (.ref b_9), (.ref b_9)]))
        obtain ⟨d194, hd194⟩ : ∃ z : UInt64, FP.l2d ja = z := ⟨_, rfl⟩
        refine Go.step (fun t k => XS.l2dS X_10.here hx rfl (hb hby at_194) rfl hd194 k) ?_
        show Go p.tables e below P (T_10.setTop (mkF m 195 #[.val (.int p1), .val (.int p2), .val (.int p3), .val (.int p4), .val (.int p5), .val (.long ja), .second, .val (.long jb), .second, .val (.long jc), .second, .val (.int i17), .val (.long jo), .second, .val (.int io), .val (.long jx), .second, .unset, .unset, .unset] [(.double d194), (.ref b_10), (.ref b_9), (.ref b_9)]))
        have qja := l2d_e (x := ja) (by omega); rw [hd194] at qja
        refine Go.step (fun t k => XS.lload X_10.here hx rfl (hb hby at_195) rfl  k) ?_
        show Go p.tables e below P (T_10.setTop (mkF m 197 #[.val (.int p1), .val (.int p2), .val (.int p3), .val (.int p4), .val (.int p5), .val (.long ja), .second, .val (.long jb), .second, .val (.long jc), .second, .val (.int i17), .val (.long jo), .second, .val (.int io), .val (.long jx), .second, .unset, .unset, .unset] [(.long jb), (.double d194), (.ref b_10), (.ref b_9), (.ref b_9)]))
        obtain ⟨d197, hd197⟩ : ∃ z : UInt64, FP.l2d jb = z := ⟨_, rfl⟩
        refine Go.step (fun t k => XS.l2dS X_10.here hx rfl (hb hby at_197) rfl hd197 k) ?_
        show Go p.tables e below P (T_10.setTop (mkF m 198 #[.val (.int p1), .val (.int p2), .val (.int p3), .val (.int p4), .val (.int p5), .val (.long ja), .second, .val (.long jb), .second, .val (.long jc), .second, .val (.int i17), .val (.long jo), .second, .val (.int io), .val (.long jx), .second, .unset, .unset, .unset] [(.double d197), (.double d194), (.ref b_10), (.ref b_9), (.ref b_9)]))
        have qjb := l2d_e (x := jb) (by omega); rw [hd197] at qjb
        refine Go.step (fun t k => XS.lload X_10.here hx rfl (hb hby at_198) rfl  k) ?_
        show Go p.tables e below P (T_10.setTop (mkF m 200 #[.val (.int p1), .val (.int p2), .val (.int p3), .val (.int p4), .val (.int p5), .val (.long ja), .second, .val (.long jb), .second, .val (.long jc), .second, .val (.int i17), .val (.long jo), .second, .val (.int io), .val (.long jx), .second, .unset, .unset, .unset] [(.long jc), (.double d197), (.double d194), (.ref b_10), (.ref b_9), (.ref b_9)]))
        obtain ⟨d200, hd200⟩ : ∃ z : UInt64, FP.l2d jc = z := ⟨_, rfl⟩
        refine Go.step (fun t k => XS.l2dS X_10.here hx rfl (hb hby at_200) rfl hd200 k) ?_
        show Go p.tables e below P (T_10.setTop (mkF m 201 #[.val (.int p1), .val (.int p2), .val (.int p3), .val (.int p4), .val (.int p5), .val (.long ja), .second, .val (.long jb), .second, .val (.long jc), .second, .val (.int i17), .val (.long jo), .second, .val (.int io), .val (.long jx), .second, .unset, .unset, .unset] [(.double d200), (.double d197), (.double d194), (.ref b_10), (.ref b_9), (.ref b_9)]))
        have qjc := l2d_e (x := jc) (by omega); rw [hd200] at qjc
        obtain ⟨_, _, ⟨T_11, L_11, k_11, n_11⟩, -, X_11, ⟨Lc_11, hQ_11, l_11, y_11, z_11⟩, st_11⟩ := X_10.specialBack hx (y := (⟨"com/example/orabona/orabona/model/FuzzySet$Triangular", "<init>", "(Ljava/lang/String;DDD)V"⟩ : MethodName)) rfl hown (mvT hZ (hw _ (List.mem_of_getElem? (i := 11) rfl))) (mvT hZ (hw _ (List.mem_of_getElem? (i := 12) rfl))) (mvT hZ (hw _ (List.mem_of_getElem? (i := 13) rfl))) (by decide) (backOf (W := 1) (rm4 l Z a0 hw [] b_9 b_10 d194 d197 d200 h_10 n0 Z_10 (A_9.ext E_10) (F_name_b_9.ext E_10) (F_a_b_9.ext E_10) (F_b_b_9.ext E_10) (F_c_b_9.ext E_10) g_b_9 ) hZ (hw _ (List.mem_of_getElem? (i := 13) rfl)) (hw _ (List.mem_of_getElem? (i := 2) rfl)) (by decide) (by decide)) (g := (mkF m 201 #[.val (.int p1), .val (.int p2), .val (.int p3), .val (.int p4), .val (.int p5), .val (.long ja), .second, .val (.long jb), .second, .val (.long jc), .second, .val (.int i17), .val (.long jo), .second, .val (.int io), .val (.long jx), .second, .unset, .unset, .unset] [(.double d200), (.double d197), (.double d194), (.ref b_10), (.ref b_9), (.ref b_9)])) rfl (by rw [hml]; rfl) (Steps.refl _) (a := b_9) (argsL := [(.ref b_10), (.double d194), (.double d197), (.double d200)]) (rest := [(.ref b_9)]) (lenOf pd_1 rfl) rfl (by show 2 * 0 + _ ≤ _; exact Nat.le_of_eq rfl) (hb hby at_201) (fun _ _ => ⟨rfl, e_10, (by decide : 3 + 0 ≤ _), (by decide : 12 + 0 ≤ _)⟩)
        dsimp only [Pt.U, Pt.locs, Pt.cells, Pt.slots] at X_11 l_11 y_11 z_11 st_11 hQ_11
        subst l_11 y_11 z_11
        obtain ⟨rfl, N_11q, Kc_11, Ee_11, Ff_name__11, Ff_a__11, Ff_b__11, Ff_c__11⟩ := hQ_11
        have N_11 := Fr.app N_8 N_11q
        have K_11 : Keep h0 T_11.heap [] := K_10.trans Kc_11 (allS (Or.inr sz_b_9) all0)
        have Z_11 : n0 ≤ T_11.heap.size := Nat.le_trans Z_10 Kc_11.1
        refine Go.tr st_11 ?_
        show Go p.tables e below P (T_11.setTop (mkF m 204 #[.val (.int p1), .val (.int p2), .val (.int p3), .val (.int p4), .val (.int p5), .val (.long ja), .second, .val (.long jb), .second, .val (.long jc), .second, .val (.int i17), .val (.long jo), .second, .val (.int io), .val (.long jx), .second, .unset, .unset, .unset] [(.ref b_9)]))
        refine Go.step (fun t k => XS.astore X_11.here hx rfl (hb hby at_204) rfl rfl (l' := #[.val (.int p1), .val (.int p2), .val (.int p3), .val (.int p4), .val (.int p5), .val (.long ja), .second, .val (.long jb), .second, .val (.long jc), .second, .val (.int i17), .val (.long jo), .second, .val (.int io), .val (.long jx), .second, .val (.ref b_9), .unset, .unset]) rfl k) ?_
        show Go p.tables e below P (T_11.setTop (mkF m 206 #[.val (.int p1), .val (.int p2), .val (.int p3), .val (.int p4), .val (.int p5), .val (.long ja), .second, .val (.long jb), .second, .val (.long jc), .second, .val (.int i17), .val (.long jo), .second, .val (.int io), .val (.long jx), .second, .val (.ref b_9), .unset, .unset] []))
        refine Go.step (fun t k => XS.aload X_11.here hx rfl (hb hby at_206) rfl rfl k) ?_
        show Go p.tables e below P (T_11.setTop (mkF m 208 #[.val (.int p1), .val (.int p2), .val (.int p3), .val (.int p4), .val (.int p5), .val (.long ja), .second, .val (.long jb), .second, .val (.long jc), .second, .val (.int i17), .val (.long jo), .second, .val (.int io), .val (.long jx), .second, .val (.ref b_9), .unset, .unset] [(.ref b_9)]))
        refine Go.step (fun t k => XS.lload X_11.here hx rfl (hb hby at_208) rfl  k) ?_
        show Go p.tables e below P (T_11.setTop (mkF m 210 #[.val (.int p1), .val (.int p2), .val (.int p3), .val (.int p4), .val (.int p5), .val (.long ja), .second, .val (.long jb), .second, .val (.long jc), .second, .val (.int i17), .val (.long jo), .second, .val (.int io), .val (.long jx), .second, .val (.ref b_9), .unset, .unset] [(.long jx), (.ref b_9)]))
        obtain ⟨d210, hd210⟩ : ∃ z : UInt64, FP.l2d jx = z := ⟨_, rfl⟩
        refine Go.step (fun t k => XS.l2dS X_11.here hx rfl (hb hby at_210) rfl hd210 k) ?_
        show Go p.tables e below P (T_11.setTop (mkF m 211 #[.val (.int p1), .val (.int p2), .val (.int p3), .val (.int p4), .val (.int p5), .val (.long ja), .second, .val (.long jb), .second, .val (.long jc), .second, .val (.int i17), .val (.long jo), .second, .val (.int io), .val (.long jx), .second, .val (.ref b_9), .unset, .unset] [(.double d210), (.ref b_9)]))
        have qjx := l2d_e (x := jx) (by omega); rw [hd210] at qjx
        obtain ⟨cq_12, kq_12, q_12a, q_12b, q_12c⟩ := isOf hZ rfl ((A_9.ext E_10).keep Kc_11)
        obtain ⟨_, _, ⟨T_12, L_12, k_12, n_12⟩, -, X_12, ⟨Lc_12, hQ_12, l_12, y_12, z_12⟩, st_12⟩ := X_11.virtualBack hx (y := (⟨"com/example/orabona/orabona/model/FuzzySet$Triangular", "degree", "(D)D"⟩ : MethodName)) (z := (⟨"com/example/orabona/orabona/model/FuzzySet$Triangular", "degree", "(D)D"⟩ : MethodName)) hown (mvT hZ (hw _ (List.mem_of_getElem? (i := 30) rfl))) (mvT hZ (hw _ (List.mem_of_getElem? (i := 31) rfl))) (notFace_of_selects (args := #[]) (mvT hZ (hw _ (List.mem_of_getElem? (i := 33) rfl)))) (mvT hZ (hw _ (List.mem_of_getElem? (i := 33) rfl))) (mvT hZ (hw _ (List.mem_of_getElem? (i := 32) rfl))) (by decide) (backOf (W := 0) (rm5 l Z a0 hw [] b_9 d210 d194 d197 d200 ja.toInt jb.toInt jc.toInt jx.toInt T_11.heap n0 Z_11 Ff_a__11 Ff_b__11 Ff_c__11 qja qjb qjc qjx bja bjb bjc bjx) hZ (hw _ (List.mem_of_getElem? (i := 34) rfl)) (hw _ (List.mem_of_getElem? (i := 2) rfl)) (by decide) (by decide)) q_12a q_12c (g := (mkF m 211 #[.val (.int p1), .val (.int p2), .val (.int p3), .val (.int p4), .val (.int p5), .val (.long ja), .second, .val (.long jb), .second, .val (.long jc), .second, .val (.int i17), .val (.long jo), .second, .val (.int io), .val (.long jx), .second, .val (.ref b_9), .unset, .unset] [(.double d210), (.ref b_9)])) rfl (by rw [hml]; rfl) (Steps.refl _) (argsL := [(.double d210)]) (rest := []) (lenOf pd_2 rfl) rfl (by show 2 * 0 + _ ≤ _; exact Nat.le_of_eq rfl) (hb hby at_211) (fun _ _ => ⟨rfl, rfl, (by decide : 3 + 0 ≤ _), (by decide : 12 + 0 ≤ _)⟩)
        dsimp only [Pt.U, Pt.locs, Pt.cells, Pt.slots] at X_12 l_12 y_12 z_12 st_12 hQ_12
        subst l_12 y_12 z_12
        obtain ⟨dg, rfl, hdg, N_12q, eh_12⟩ := hQ_12
        have N_12 := Fr.app N_11 N_12q
        refine Go.tr st_12 ?_
        show Go p.tables e below P (T_12.setTop (mkF m 214 #[.val (.int p1), .val (.int p2), .val (.int p3), .val (.int p4), .val (.int p5), .val (.long ja), .second, .val (.long jb), .second, .val (.long jc), .second, .val (.int i17), .val (.long jo), .second, .val (.int io), .val (.long jx), .second, .val (.ref b_9), .unset, .unset] [(.double dg)]))
        refine Go.step (fun t k => XS.dstore X_12.here hx rfl (hb hby at_214) rfl (l' := #[.val (.int p1), .val (.int p2), .val (.int p3), .val (.int p4), .val (.int p5), .val (.long ja), .second, .val (.long jb), .second, .val (.long jc), .second, .val (.int i17), .val (.long jo), .second, .val (.int io), .val (.long jx), .second, .val (.ref b_9), .val (.double dg), .second]) rfl k) ?_
        show Go p.tables e below P (T_12.setTop (mkF m 216 #[.val (.int p1), .val (.int p2), .val (.int p3), .val (.int p4), .val (.int p5), .val (.long ja), .second, .val (.long jb), .second, .val (.long jc), .second, .val (.int i17), .val (.long jo), .second, .val (.int io), .val (.long jx), .second, .val (.ref b_9), .val (.double dg), .second] []))
        refine Go.step (fun t k => XS.lload X_12.here hx rfl (hb hby at_216) rfl  k) ?_
        show Go p.tables e below P (T_12.setTop (mkF m 218 #[.val (.int p1), .val (.int p2), .val (.int p3), .val (.int p4), .val (.int p5), .val (.long ja), .second, .val (.long jb), .second, .val (.long jc), .second, .val (.int i17), .val (.long jo), .second, .val (.int io), .val (.long jx), .second, .val (.ref b_9), .val (.double dg), .second] [(.long jx)]))
        refine Go.step (fun t k => XS.lload X_12.here hx rfl (hb hby at_218) rfl  k) ?_
        show Go p.tables e below P (T_12.setTop (mkF m 220 #[.val (.int p1), .val (.int p2), .val (.int p3), .val (.int p4), .val (.int p5), .val (.long ja), .second, .val (.long jb), .second, .val (.long jc), .second, .val (.int i17), .val (.long jo), .second, .val (.int io), .val (.long jx), .second, .val (.ref b_9), .val (.double dg), .second] [(.long jb), (.long jx)]))
        refine Go.step (fun t k => XS.lcmp X_12.here hx rfl (hb hby at_220) rfl k) ?_
        show Go p.tables e below P (T_12.setTop (mkF m 221 #[.val (.int p1), .val (.int p2), .val (.int p3), .val (.int p4), .val (.int p5), .val (.long ja), .second, .val (.long jb), .second, .val (.long jc), .second, .val (.int i17), .val (.long jo), .second, .val (.int io), .val (.long jx), .second, .val (.ref b_9), .val (.double dg), .second] [(.int (lcmpW jx jb))]))
        by_cases hc221 : ¬ jx.toInt = jb.toInt
        · refine Go.step (fun t k => XS.ifYes X_12.here hx rfl (pc0 := 221) (pc' := 237) rfl (hb hby at_221) rfl (lcY (cd := .ne) hc221) (by decide) (by decide) k) ?_
          show Go p.tables e below P (T_12.setTop (mkF m 237 #[.val (.int p1), .val (.int p2), .val (.int p3), .val (.int p4), .val (.int p5), .val (.long ja), .second, .val (.long jb), .second, .val (.long jc), .second, .val (.int i17), .val (.long jo), .second, .val (.int io), .val (.long jx), .second, .val (.ref b_9), .val (.double dg), .second] []))
          refine Go.step (fun t k => XS.lload X_12.here hx rfl (hb hby at_237) rfl  k) ?_
          show Go p.tables e below P (T_12.setTop (mkF m 239 #[.val (.int p1), .val (.int p2), .val (.int p3), .val (.int p4), .val (.int p5), .val (.long ja), .second, .val (.long jb), .second, .val (.long jc), .second, .val (.int i17), .val (.long jo), .second, .val (.int io), .val (.long jx), .second, .val (.ref b_9), .val (.double dg), .second] [(.long jx)]))
          refine Go.step (fun t k => XS.lload X_12.here hx rfl (hb hby at_239) rfl  k) ?_
          show Go p.tables e below P (T_12.setTop (mkF m 241 #[.val (.int p1), .val (.int p2), .val (.int p3), .val (.int p4), .val (.int p5), .val (.long ja), .second, .val (.long jb), .second, .val (.long jc), .second, .val (.int i17), .val (.long jo), .second, .val (.int io), .val (.long jx), .second, .val (.ref b_9), .val (.double dg), .second] [(.long ja), (.long jx)]))
          refine Go.step (fun t k => XS.lcmp X_12.here hx rfl (hb hby at_241) rfl k) ?_
          show Go p.tables e below P (T_12.setTop (mkF m 242 #[.val (.int p1), .val (.int p2), .val (.int p3), .val (.int p4), .val (.int p5), .val (.long ja), .second, .val (.long jb), .second, .val (.long jc), .second, .val (.int i17), .val (.long jo), .second, .val (.int io), .val (.long jx), .second, .val (.ref b_9), .val (.double dg), .second] [(.int (lcmpW jx ja))]))
          by_cases hc242 : jx.toInt ≤ ja.toInt
          · refine Go.step (fun t k => XS.ifYes X_12.here hx rfl (pc0 := 242) (pc' := 253) rfl (hb hby at_242) rfl (lcY (cd := .le) hc242) (by decide) (by decide) k) ?_
            show Go p.tables e below P (T_12.setTop (mkF m 253 #[.val (.int p1), .val (.int p2), .val (.int p3), .val (.int p4), .val (.int p5), .val (.long ja), .second, .val (.long jb), .second, .val (.long jc), .second, .val (.int i17), .val (.long jo), .second, .val (.int io), .val (.long jx), .second, .val (.ref b_9), .val (.double dg), .second] []))
            have hq1 : dg = FP.dconst0 := by rcases hdg with ⟨h, _⟩ | ⟨_, _, h⟩ | ⟨h, _, h', _⟩ | ⟨h, _, h', _⟩; omega; exact h; omega; omega
            have q1 : DE 1074 0 dg := by rw [hq1]; exact zero_e 1074
            refine Go.step (fun t k => XS.dload X_12.here hx rfl (hb hby at_253) rfl  k) ?_
            show Go p.tables e below P (T_12.setTop (mkF m 255 #[.val (.int p1), .val (.int p2), .val (.int p3), .val (.int p4), .val (.int p5), .val (.long ja), .second, .val (.long jb), .second, .val (.long jc), .second, .val (.int i17), .val (.long jo), .second, .val (.int io), .val (.long jx), .second, .val (.ref b_9), .val (.double dg), .second] [(.double dg)]))
            refine Go.step (fun t k => XS.dconst0 X_12.here hx rfl (hb hby at_255) rfl k) ?_
            show Go p.tables e below P (T_12.setTop (mkF m 256 #[.val (.int p1), .val (.int p2), .val (.int p3), .val (.int p4), .val (.int p5), .val (.long ja), .second, .val (.long jb), .second, .val (.long jc), .second, .val (.int i17), .val (.long jo), .second, .val (.int io), .val (.long jx), .second, .val (.ref b_9), .val (.double dg), .second] [(.double FP.dconst0), (.double dg)]))
            refine Go.step (fun t k => XS.dcmpS X_12.here hx rfl (hb hby at_256) rfl rfl k) ?_
            show Go p.tables e below P (T_12.setTop (mkF m 257 #[.val (.int p1), .val (.int p2), .val (.int p3), .val (.int p4), .val (.int p5), .val (.long ja), .second, .val (.long jb), .second, .val (.long jc), .second, .val (.int i17), .val (.long jo), .second, .val (.int io), .val (.long jx), .second, .val (.ref b_9), .val (.double dg), .second] [(.int (cmpValue (FP.dcmp dg FP.dconst0) .l))]))
            refine Go.step (fun t k => XS.ifNo X_12.here hx rfl (hb hby at_257) rfl (dcN (cd := .ne) (DE.cmp q1 (zero_e 1074)) (fun q => q rfl)) k) ?_
            show Go p.tables e below P (T_12.setTop (mkF m 260 #[.val (.int p1), .val (.int p2), .val (.int p3), .val (.int p4), .val (.int p5), .val (.long ja), .second, .val (.long jb), .second, .val (.long jc), .second, .val (.int i17), .val (.long jo), .second, .val (.int io), .val (.long jx), .second, .val (.ref b_9), .val (.double dg), .second] []))
            refine Go.step (fun t k => XS.iconst X_12.here hx rfl (hb hby at_260) k) ?_
            show Go p.tables e below P (T_12.setTop (mkF m 261 #[.val (.int p1), .val (.int p2), .val (.int p3), .val (.int p4), .val (.int p5), .val (.long ja), .second, .val (.long jb), .second, .val (.long jc), .second, .val (.int i17), .val (.long jo), .second, .val (.int io), .val (.long jx), .second, .val (.ref b_9), .val (.double dg), .second] [(.int (1 : Int32))]))
            refine Go.step (fun t k => XS.goto X_12.here hx rfl (pc0 := 261) (pc' := 265) rfl (hb hby at_261) (by decide) (by decide) k) ?_
            show Go p.tables e below P (T_12.setTop (mkF m 265 #[.val (.int p1), .val (.int p2), .val (.int p3), .val (.int p4), .val (.int p5), .val (.long ja), .second, .val (.long jb), .second, .val (.long jc), .second, .val (.int i17), .val (.long jo), .second, .val (.int io), .val (.long jx), .second, .val (.ref b_9), .val (.double dg), .second] [(.int (1 : Int32))]))
            exact retGoW X_12 hx hS (by rw [eh_12]; exact (Nat.le_trans hk_10 Kc_11.1)) hP Bd.returns hlk rfl (Or.inl ⟨rfl, Or.inr (Or.inl rfl), _, rfl⟩) (hb hby at_265) (by decide) (by decide) (by rw [eh_12]; exact ⟨rfl, N_12⟩)
          · refine Go.step (fun t k => XS.ifNo X_12.here hx rfl (hb hby at_242) rfl (lcN (cd := .le) hc242) k) ?_
            show Go p.tables e below P (T_12.setTop (mkF m 245 #[.val (.int p1), .val (.int p2), .val (.int p3), .val (.int p4), .val (.int p5), .val (.long ja), .second, .val (.long jb), .second, .val (.long jc), .second, .val (.int i17), .val (.long jo), .second, .val (.int io), .val (.long jx), .second, .val (.ref b_9), .val (.double dg), .second] []))
            refine Go.step (fun t k => XS.lload X_12.here hx rfl (hb hby at_245) rfl  k) ?_
            show Go p.tables e below P (T_12.setTop (mkF m 247 #[.val (.int p1), .val (.int p2), .val (.int p3), .val (.int p4), .val (.int p5), .val (.long ja), .second, .val (.long jb), .second, .val (.long jc), .second, .val (.int i17), .val (.long jo), .second, .val (.int io), .val (.long jx), .second, .val (.ref b_9), .val (.double dg), .second] [(.long jx)]))
            refine Go.step (fun t k => XS.lload X_12.here hx rfl (hb hby at_247) rfl  k) ?_
            show Go p.tables e below P (T_12.setTop (mkF m 249 #[.val (.int p1), .val (.int p2), .val (.int p3), .val (.int p4), .val (.int p5), .val (.long ja), .second, .val (.long jb), .second, .val (.long jc), .second, .val (.int i17), .val (.long jo), .second, .val (.int io), .val (.long jx), .second, .val (.ref b_9), .val (.double dg), .second] [(.long jc), (.long jx)]))
            refine Go.step (fun t k => XS.lcmp X_12.here hx rfl (hb hby at_249) rfl k) ?_
            show Go p.tables e below P (T_12.setTop (mkF m 250 #[.val (.int p1), .val (.int p2), .val (.int p3), .val (.int p4), .val (.int p5), .val (.long ja), .second, .val (.long jb), .second, .val (.long jc), .second, .val (.int i17), .val (.long jo), .second, .val (.int io), .val (.long jx), .second, .val (.ref b_9), .val (.double dg), .second] [(.int (lcmpW jx jc))]))
            by_cases hc250 : jx.toInt < jc.toInt
            · refine Go.step (fun t k => XS.ifYes X_12.here hx rfl (pc0 := 250) (pc' := 266) rfl (hb hby at_250) rfl (lcY (cd := .lt) hc250) (by decide) (by decide) k) ?_
              show Go p.tables e below P (T_12.setTop (mkF m 266 #[.val (.int p1), .val (.int p2), .val (.int p3), .val (.int p4), .val (.int p5), .val (.long ja), .second, .val (.long jb), .second, .val (.long jc), .second, .val (.int i17), .val (.long jo), .second, .val (.int io), .val (.long jx), .second, .val (.ref b_9), .val (.double dg), .second] []))
              have sp : (jx.toInt < jb.toInt ∧ ∃ y z, dg = FP.ddiv y z ∧ DE 1074 (jx.toInt - ja.toInt) y ∧ DE 1074 (jb.toInt - ja.toInt) z) ∨ (jb.toInt < jx.toInt ∧ ∃ y z, dg = FP.ddiv y z ∧ DE 1074 (jc.toInt - jx.toInt) y ∧ DE 1074 (jc.toInt - jb.toInt) z) := by rcases hdg with ⟨h, _⟩ | ⟨_, h, _⟩ | ⟨_, h1, _, h⟩ | ⟨_, h1, _, h⟩; omega; omega; exact Or.inl ⟨h1, h⟩; exact Or.inr ⟨h1, h⟩
              have fr : DB 1040 1 17179869183 dg := by rcases sp with ⟨h0, y, z, rfl, h1, h2⟩ | ⟨h0, y, z, rfl, h1, h2⟩; exact frac h1 h2 (by omega) (by omega) (by omega); exact frac h1 h2 (by omega) (by omega) (by omega)
              refine Go.step (fun t k => XS.dload X_12.here hx rfl (hb hby at_266) rfl  k) ?_
              show Go p.tables e below P (T_12.setTop (mkF m 268 #[.val (.int p1), .val (.int p2), .val (.int p3), .val (.int p4), .val (.int p5), .val (.long ja), .second, .val (.long jb), .second, .val (.long jc), .second, .val (.int i17), .val (.long jo), .second, .val (.int io), .val (.long jx), .second, .val (.ref b_9), .val (.double dg), .second] [(.double dg)]))
              refine Go.step (fun t k => XS.dconst0 X_12.here hx rfl (hb hby at_268) rfl k) ?_
              show Go p.tables e below P (T_12.setTop (mkF m 269 #[.val (.int p1), .val (.int p2), .val (.int p3), .val (.int p4), .val (.int p5), .val (.long ja), .second, .val (.long jb), .second, .val (.long jc), .second, .val (.int i17), .val (.long jo), .second, .val (.int io), .val (.long jx), .second, .val (.ref b_9), .val (.double dg), .second] [(.double FP.dconst0), (.double dg)]))
              refine Go.step (fun t k => XS.dcmpS X_12.here hx rfl (hb hby at_269) rfl rfl k) ?_
              show Go p.tables e below P (T_12.setTop (mkF m 270 #[.val (.int p1), .val (.int p2), .val (.int p3), .val (.int p4), .val (.int p5), .val (.long ja), .second, .val (.long jb), .second, .val (.long jc), .second, .val (.int i17), .val (.long jo), .second, .val (.int io), .val (.long jx), .second, .val (.ref b_9), .val (.double dg), .second] [(.int (cmpValue (FP.dcmp dg FP.dconst0) .l))]))
              refine Go.step (fun t k => XS.ifNo X_12.here hx rfl (hb hby at_270) rfl (dcN (cd := .le) ((fr.gt (zero_e 1040) (by decide)).trans (rfl : _ = some (compare (1 : Int) 0))) (by decide : ¬ ((1 : Int) ≤ (0 : Int)))) k) ?_
              show Go p.tables e below P (T_12.setTop (mkF m 273 #[.val (.int p1), .val (.int p2), .val (.int p3), .val (.int p4), .val (.int p5), .val (.long ja), .second, .val (.long jb), .second, .val (.long jc), .second, .val (.int i17), .val (.long jo), .second, .val (.int io), .val (.long jx), .second, .val (.ref b_9), .val (.double dg), .second] []))
              refine Go.step (fun t k => XS.dload X_12.here hx rfl (hb hby at_273) rfl  k) ?_
              show Go p.tables e below P (T_12.setTop (mkF m 275 #[.val (.int p1), .val (.int p2), .val (.int p3), .val (.int p4), .val (.int p5), .val (.long ja), .second, .val (.long jb), .second, .val (.long jc), .second, .val (.int i17), .val (.long jo), .second, .val (.int io), .val (.long jx), .second, .val (.ref b_9), .val (.double dg), .second] [(.double dg)]))
              refine Go.step (fun t k => XS.dconst1 X_12.here hx rfl (hb hby at_275) rfl k) ?_
              show Go p.tables e below P (T_12.setTop (mkF m 276 #[.val (.int p1), .val (.int p2), .val (.int p3), .val (.int p4), .val (.int p5), .val (.long ja), .second, .val (.long jb), .second, .val (.long jc), .second, .val (.int i17), .val (.long jo), .second, .val (.int io), .val (.long jx), .second, .val (.ref b_9), .val (.double dg), .second] [(.double FP.dconst1), (.double dg)]))
              refine Go.step (fun t k => XS.dcmpS X_12.here hx rfl (hb hby at_276) rfl rfl k) ?_
              show Go p.tables e below P (T_12.setTop (mkF m 277 #[.val (.int p1), .val (.int p2), .val (.int p3), .val (.int p4), .val (.int p5), .val (.long ja), .second, .val (.long jb), .second, .val (.long jc), .second, .val (.int i17), .val (.long jo), .second, .val (.int io), .val (.long jx), .second, .val (.ref b_9), .val (.double dg), .second] [(.int (cmpValue (FP.dcmp dg FP.dconst1) .g))]))
              refine Go.step (fun t k => XS.ifYes X_12.here hx rfl (pc0 := 277) (pc' := 282) rfl (hb hby at_277) rfl (dcY (cd := .lt) ((fr.lt one_1040 (by decide)).trans (rfl : _ = some (compare (0 : Int) 1))) (by decide : (0 : Int) < (1 : Int))) (by decide) (by decide) k) ?_
              show Go p.tables e below P (T_12.setTop (mkF m 282 #[.val (.int p1), .val (.int p2), .val (.int p3), .val (.int p4), .val (.int p5), .val (.long ja), .second, .val (.long jb), .second, .val (.long jc), .second, .val (.int i17), .val (.long jo), .second, .val (.int io), .val (.long jx), .second, .val (.ref b_9), .val (.double dg), .second] []))
              refine Go.step (fun t k => XS.lload X_12.here hx rfl (hb hby at_282) rfl  k) ?_
              show Go p.tables e below P (T_12.setTop (mkF m 284 #[.val (.int p1), .val (.int p2), .val (.int p3), .val (.int p4), .val (.int p5), .val (.long ja), .second, .val (.long jb), .second, .val (.long jc), .second, .val (.int i17), .val (.long jo), .second, .val (.int io), .val (.long jx), .second, .val (.ref b_9), .val (.double dg), .second] [(.long ja)]))
              refine Go.step (fun t k => XS.lload X_12.here hx rfl (hb hby at_284) rfl  k) ?_
              show Go p.tables e below P (T_12.setTop (mkF m 286 #[.val (.int p1), .val (.int p2), .val (.int p3), .val (.int p4), .val (.int p5), .val (.long ja), .second, .val (.long jb), .second, .val (.long jc), .second, .val (.int i17), .val (.long jo), .second, .val (.int io), .val (.long jx), .second, .val (.ref b_9), .val (.double dg), .second] [(.long jb), (.long ja)]))
              refine Go.step (fun t k => XS.lcmp X_12.here hx rfl (hb hby at_286) rfl k) ?_
              show Go p.tables e below P (T_12.setTop (mkF m 287 #[.val (.int p1), .val (.int p2), .val (.int p3), .val (.int p4), .val (.int p5), .val (.long ja), .second, .val (.long jb), .second, .val (.long jc), .second, .val (.int i17), .val (.long jo), .second, .val (.int io), .val (.long jx), .second, .val (.ref b_9), .val (.double dg), .second] [(.int (lcmpW ja jb))]))
              by_cases hc287 : jb.toInt < ja.toInt
              · refine Go.step (fun t k => XS.ifYes X_12.here hx rfl (pc0 := 287) (pc' := 356) rfl (hb hby at_287) rfl (lcY (cd := .gt) hc287) (by decide) (by decide) k) ?_
                show Go p.tables e below P (T_12.setTop (mkF m 356 #[.val (.int p1), .val (.int p2), .val (.int p3), .val (.int p4), .val (.int p5), .val (.long ja), .second, .val (.long jb), .second, .val (.long jc), .second, .val (.int i17), .val (.long jo), .second, .val (.int io), .val (.long jx), .second, .val (.ref b_9), .val (.double dg), .second] []))
                refine Go.step (fun t k => XS.iconst X_12.here hx rfl (hb hby at_356) k) ?_
                show Go p.tables e below P (T_12.setTop (mkF m 357 #[.val (.int p1), .val (.int p2), .val (.int p3), .val (.int p4), .val (.int p5), .val (.long ja), .second, .val (.long jb), .second, .val (.long jc), .second, .val (.int i17), .val (.long jo), .second, .val (.int io), .val (.long jx), .second, .val (.ref b_9), .val (.double dg), .second] [(.int (1 : Int32))]))
                exact retGoW X_12 hx hS (by rw [eh_12]; exact (Nat.le_trans hk_10 Kc_11.1)) hP Bd.returns hlk rfl (Or.inl ⟨rfl, Or.inr (Or.inl rfl), _, rfl⟩) (hb hby at_357) (by decide) (by decide) (by rw [eh_12]; exact ⟨rfl, N_12⟩)
              · refine Go.step (fun t k => XS.ifNo X_12.here hx rfl (hb hby at_287) rfl (lcN (cd := .gt) hc287) k) ?_
                show Go p.tables e below P (T_12.setTop (mkF m 290 #[.val (.int p1), .val (.int p2), .val (.int p3), .val (.int p4), .val (.int p5), .val (.long ja), .second, .val (.long jb), .second, .val (.long jc), .second, .val (.int i17), .val (.long jo), .second, .val (.int io), .val (.long jx), .second, .val (.ref b_9), .val (.double dg), .second] []))
                refine Go.step (fun t k => XS.lload X_12.here hx rfl (hb hby at_290) rfl  k) ?_
                show Go p.tables e below P (T_12.setTop (mkF m 292 #[.val (.int p1), .val (.int p2), .val (.int p3), .val (.int p4), .val (.int p5), .val (.long ja), .second, .val (.long jb), .second, .val (.long jc), .second, .val (.int i17), .val (.long jo), .second, .val (.int io), .val (.long jx), .second, .val (.ref b_9), .val (.double dg), .second] [(.long jb)]))
                refine Go.step (fun t k => XS.lload X_12.here hx rfl (hb hby at_292) rfl  k) ?_
                show Go p.tables e below P (T_12.setTop (mkF m 294 #[.val (.int p1), .val (.int p2), .val (.int p3), .val (.int p4), .val (.int p5), .val (.long ja), .second, .val (.long jb), .second, .val (.long jc), .second, .val (.int i17), .val (.long jo), .second, .val (.int io), .val (.long jx), .second, .val (.ref b_9), .val (.double dg), .second] [(.long jc), (.long jb)]))
                refine Go.step (fun t k => XS.lcmp X_12.here hx rfl (hb hby at_294) rfl k) ?_
                show Go p.tables e below P (T_12.setTop (mkF m 295 #[.val (.int p1), .val (.int p2), .val (.int p3), .val (.int p4), .val (.int p5), .val (.long ja), .second, .val (.long jb), .second, .val (.long jc), .second, .val (.int i17), .val (.long jo), .second, .val (.int io), .val (.long jx), .second, .val (.ref b_9), .val (.double dg), .second] [(.int (lcmpW jb jc))]))
                by_cases hc295 : jc.toInt < jb.toInt
                · refine Go.step (fun t k => XS.ifYes X_12.here hx rfl (pc0 := 295) (pc' := 356) rfl (hb hby at_295) rfl (lcY (cd := .gt) hc295) (by decide) (by decide) k) ?_
                  show Go p.tables e below P (T_12.setTop (mkF m 356 #[.val (.int p1), .val (.int p2), .val (.int p3), .val (.int p4), .val (.int p5), .val (.long ja), .second, .val (.long jb), .second, .val (.long jc), .second, .val (.int i17), .val (.long jo), .second, .val (.int io), .val (.long jx), .second, .val (.ref b_9), .val (.double dg), .second] []))
                  refine Go.step (fun t k => XS.iconst X_12.here hx rfl (hb hby at_356) k) ?_
                  show Go p.tables e below P (T_12.setTop (mkF m 357 #[.val (.int p1), .val (.int p2), .val (.int p3), .val (.int p4), .val (.int p5), .val (.long ja), .second, .val (.long jb), .second, .val (.long jc), .second, .val (.int i17), .val (.long jo), .second, .val (.int io), .val (.long jx), .second, .val (.ref b_9), .val (.double dg), .second] [(.int (1 : Int32))]))
                  exact retGoW X_12 hx hS (by rw [eh_12]; exact (Nat.le_trans hk_10 Kc_11.1)) hP Bd.returns hlk rfl (Or.inl ⟨rfl, Or.inr (Or.inl rfl), _, rfl⟩) (hb hby at_357) (by decide) (by decide) (by rw [eh_12]; exact ⟨rfl, N_12⟩)
                · refine Go.step (fun t k => XS.ifNo X_12.here hx rfl (hb hby at_295) rfl (lcN (cd := .gt) hc295) k) ?_
                  show Go p.tables e below P (T_12.setTop (mkF m 298 #[.val (.int p1), .val (.int p2), .val (.int p3), .val (.int p4), .val (.int p5), .val (.long ja), .second, .val (.long jb), .second, .val (.long jc), .second, .val (.int i17), .val (.long jo), .second, .val (.int io), .val (.long jx), .second, .val (.ref b_9), .val (.double dg), .second] []))
                  refine Go.step (fun t k => XS.lload X_12.here hx rfl (hb hby at_298) rfl  k) ?_
                  show Go p.tables e below P (T_12.setTop (mkF m 300 #[.val (.int p1), .val (.int p2), .val (.int p3), .val (.int p4), .val (.int p5), .val (.long ja), .second, .val (.long jb), .second, .val (.long jc), .second, .val (.int i17), .val (.long jo), .second, .val (.int io), .val (.long jx), .second, .val (.ref b_9), .val (.double dg), .second] [(.long jx)]))
                  refine Go.step (fun t k => XS.lload X_12.here hx rfl (hb hby at_300) rfl  k) ?_
                  show Go p.tables e below P (T_12.setTop (mkF m 302 #[.val (.int p1), .val (.int p2), .val (.int p3), .val (.int p4), .val (.int p5), .val (.long ja), .second, .val (.long jb), .second, .val (.long jc), .second, .val (.int i17), .val (.long jo), .second, .val (.int io), .val (.long jx), .second, .val (.ref b_9), .val (.double dg), .second] [(.long jb), (.long jx)]))
                  refine Go.step (fun t k => XS.lcmp X_12.here hx rfl (hb hby at_302) rfl k) ?_
                  show Go p.tables e below P (T_12.setTop (mkF m 303 #[.val (.int p1), .val (.int p2), .val (.int p3), .val (.int p4), .val (.int p5), .val (.long ja), .second, .val (.long jb), .second, .val (.long jc), .second, .val (.int i17), .val (.long jo), .second, .val (.int io), .val (.long jx), .second, .val (.ref b_9), .val (.double dg), .second] [(.int (lcmpW jx jb))]))
                  by_cases hc303 : jb.toInt ≤ jx.toInt
                  · refine Go.step (fun t k => XS.ifYes X_12.here hx rfl (pc0 := 303) (pc' := 331) rfl (hb hby at_303) rfl (lcY (cd := .ge) hc303) (by decide) (by decide) k) ?_
                    show Go p.tables e below P (T_12.setTop (mkF m 331 #[.val (.int p1), .val (.int p2), .val (.int p3), .val (.int p4), .val (.int p5), .val (.long ja), .second, .val (.long jb), .second, .val (.long jc), .second, .val (.int i17), .val (.long jo), .second, .val (.int io), .val (.long jx), .second, .val (.ref b_9), .val (.double dg), .second] []))
                    refine Go.step (fun t k => XS.dload X_12.here hx rfl (hb hby at_331) rfl  k) ?_
                    show Go p.tables e below P (T_12.setTop (mkF m 333 #[.val (.int p1), .val (.int p2), .val (.int p3), .val (.int p4), .val (.int p5), .val (.long ja), .second, .val (.long jb), .second, .val (.long jc), .second, .val (.int i17), .val (.long jo), .second, .val (.int io), .val (.long jx), .second, .val (.ref b_9), .val (.double dg), .second] [(.double dg)]))
                    refine Go.step (fun t k => XS.lload X_12.here hx rfl (hb hby at_333) rfl  k) ?_
                    show Go p.tables e below P (T_12.setTop (mkF m 335 #[.val (.int p1), .val (.int p2), .val (.int p3), .val (.int p4), .val (.int p5), .val (.long ja), .second, .val (.long jb), .second, .val (.long jc), .second, .val (.int i17), .val (.long jo), .second, .val (.int io), .val (.long jx), .second, .val (.ref b_9), .val (.double dg), .second] [(.long jc), (.double dg)]))
                    refine Go.step (fun t k => XS.lload X_12.here hx rfl (hb hby at_335) rfl  k) ?_
                    show Go p.tables e below P (T_12.setTop (mkF m 337 #[.val (.int p1), .val (.int p2), .val (.int p3), .val (.int p4), .val (.int p5), .val (.long ja), .second, .val (.long jb), .second, .val (.long jc), .second, .val (.int i17), .val (.long jo), .second, .val (.int io), .val (.long jx), .second, .val (.ref b_9), .val (.double dg), .second] [(.long jx), (.long jc), (.double dg)]))
                    obtain ⟨j337, hj337⟩ : ∃ z : Int64, jc - jx = z := ⟨_, rfl⟩
                    refine Go.step (fun t k => lsub_v X_12.here hx rfl (hb hby at_337) rfl  hj337 k) ?_
                    show Go p.tables e below P (T_12.setTop (mkF m 338 #[.val (.int p1), .val (.int p2), .val (.int p3), .val (.int p4), .val (.int p5), .val (.long ja), .second, .val (.long jb), .second, .val (.long jc), .second, .val (.int i17), .val (.long jo), .second, .val (.int io), .val (.long jx), .second, .val (.ref b_9), .val (.double dg), .second] [(.long j337), (.double dg)]))
                    have f337 := c_lsub jc jx; rw [hj337] at f337
                    have G337 := rng64 j337
                    have v337 : j337.toInt = jc.toInt - jx.toInt := by omega
                    obtain ⟨d338, hd338⟩ : ∃ z : UInt64, FP.l2d j337 = z := ⟨_, rfl⟩
                    refine Go.step (fun t k => XS.l2dS X_12.here hx rfl (hb hby at_338) rfl hd338 k) ?_
                    show Go p.tables e below P (T_12.setTop (mkF m 339 #[.val (.int p1), .val (.int p2), .val (.int p3), .val (.int p4), .val (.int p5), .val (.long ja), .second, .val (.long jb), .second, .val (.long jc), .second, .val (.int i17), .val (.long jo), .second, .val (.int io), .val (.long jx), .second, .val (.ref b_9), .val (.double dg), .second] [(.double d338), (.double dg)]))
                    have Q337 := l2d_e (x := j337) (by omega); rw [hd338, v337] at Q337
                    refine Go.step (fun t k => XS.lload X_12.here hx rfl (hb hby at_339) rfl  k) ?_
                    show Go p.tables e below P (T_12.setTop (mkF m 341 #[.val (.int p1), .val (.int p2), .val (.int p3), .val (.int p4), .val (.int p5), .val (.long ja), .second, .val (.long jb), .second, .val (.long jc), .second, .val (.int i17), .val (.long jo), .second, .val (.int io), .val (.long jx), .second, .val (.ref b_9), .val (.double dg), .second] [(.long jc), (.double d338), (.double dg)]))
                    refine Go.step (fun t k => XS.lload X_12.here hx rfl (hb hby at_341) rfl  k) ?_
                    show Go p.tables e below P (T_12.setTop (mkF m 343 #[.val (.int p1), .val (.int p2), .val (.int p3), .val (.int p4), .val (.int p5), .val (.long ja), .second, .val (.long jb), .second, .val (.long jc), .second, .val (.int i17), .val (.long jo), .second, .val (.int io), .val (.long jx), .second, .val (.ref b_9), .val (.double dg), .second] [(.long jb), (.long jc), (.double d338), (.double dg)]))
                    obtain ⟨j343, hj343⟩ : ∃ z : Int64, jc - jb = z := ⟨_, rfl⟩
                    refine Go.step (fun t k => lsub_v X_12.here hx rfl (hb hby at_343) rfl  hj343 k) ?_
                    show Go p.tables e below P (T_12.setTop (mkF m 344 #[.val (.int p1), .val (.int p2), .val (.int p3), .val (.int p4), .val (.int p5), .val (.long ja), .second, .val (.long jb), .second, .val (.long jc), .second, .val (.int i17), .val (.long jo), .second, .val (.int io), .val (.long jx), .second, .val (.ref b_9), .val (.double dg), .second] [(.long j343), (.double d338), (.double dg)]))
                    have f343 := c_lsub jc jb; rw [hj343] at f343
                    have G343 := rng64 j343
                    have v343 : j343.toInt = jc.toInt - jb.toInt := by omega
                    obtain ⟨d344, hd344⟩ : ∃ z : UInt64, FP.l2d j343 = z := ⟨_, rfl⟩
                    refine Go.step (fun t k => XS.l2dS X_12.here hx rfl (hb hby at_344) rfl hd344 k) ?_
                    show Go p.tables e below P (T_12.setTop (mkF m 345 #[.val (.int p1), .val (.int p2), .val (.int p3), .val (.int p4), .val (.int p5), .val (.long ja), .second, .val (.long jb), .second, .val (.long jc), .second, .val (.int i17), .val (.long jo), .second, .val (.int io), .val (.long jx), .second, .val (.ref b_9), .val (.double dg), .second] [(.double d344), (.double d338), (.double dg)]))
                    have Q343 := l2d_e (x := j343) (by omega); rw [hd344, v343] at Q343
                    obtain ⟨y, z, hdq, hy, hz⟩ := (show ∃ y z, dg = FP.ddiv y z ∧ DE 1074 (jc.toInt - jx.toInt) y ∧ DE 1074 (jc.toInt - jb.toInt) z from by rcases sp with ⟨h, _⟩ | ⟨_, h⟩; omega; exact h)
                    obtain rfl := DE.uniq Q337 hy (by omega)
                    obtain rfl := DE.uniq Q343 hz (by omega)
                    obtain ⟨qq, hqq⟩ : ∃ z : UInt64, FP.ddiv d338 d344 = z := ⟨_, rfl⟩
                    refine Go.step (fun t k => XS.ddivS X_12.here hx rfl (hb hby at_345) rfl (by rw [← hdq]; exact fr.nn) hqq k) ?_
                    show Go p.tables e below P (T_12.setTop (mkF m 346 #[.val (.int p1), .val (.int p2), .val (.int p3), .val (.int p4), .val (.int p5), .val (.long ja), .second, .val (.long jb), .second, .val (.long jc), .second, .val (.int i17), .val (.long jo), .second, .val (.int io), .val (.long jx), .second, .val (.ref b_9), .val (.double dg), .second] [(.double qq), (.double dg)]))
                    have hqd : qq = dg := by rw [hdq, ← hqq]
                    rw [hqd]
                    show Go p.tables e below P (T_12.setTop (mkF m 346 #[.val (.int p1), .val (.int p2), .val (.int p3), .val (.int p4), .val (.int p5), .val (.long ja), .second, .val (.long jb), .second, .val (.long jc), .second, .val (.int i17), .val (.long jo), .second, .val (.int io), .val (.long jx), .second, .val (.ref b_9), .val (.double dg), .second] [(.double dg), (.double dg)]))
                    refine Go.step (fun t k => XS.dcmpS X_12.here hx rfl (hb hby at_346) rfl rfl k) ?_
                    show Go p.tables e below P (T_12.setTop (mkF m 347 #[.val (.int p1), .val (.int p2), .val (.int p3), .val (.int p4), .val (.int p5), .val (.long ja), .second, .val (.long jb), .second, .val (.long jc), .second, .val (.int i17), .val (.long jo), .second, .val (.int io), .val (.long jx), .second, .val (.ref b_9), .val (.double dg), .second] [(.int (cmpValue (FP.dcmp dg dg) .l))]))
                    refine Go.step (fun t k => XS.ifNo X_12.here hx rfl (hb hby at_347) rfl (dcN (cd := .ne) (same_cmp fr.ne) (fun q => q rfl)) k) ?_
                    show Go p.tables e below P (T_12.setTop (mkF m 350 #[.val (.int p1), .val (.int p2), .val (.int p3), .val (.int p4), .val (.int p5), .val (.long ja), .second, .val (.long jb), .second, .val (.long jc), .second, .val (.int i17), .val (.long jo), .second, .val (.int io), .val (.long jx), .second, .val (.ref b_9), .val (.double dg), .second] []))
                    refine Go.step (fun t k => XS.iconst X_12.here hx rfl (hb hby at_350) k) ?_
                    show Go p.tables e below P (T_12.setTop (mkF m 351 #[.val (.int p1), .val (.int p2), .val (.int p3), .val (.int p4), .val (.int p5), .val (.long ja), .second, .val (.long jb), .second, .val (.long jc), .second, .val (.int i17), .val (.long jo), .second, .val (.int io), .val (.long jx), .second, .val (.ref b_9), .val (.double dg), .second] [(.int (1 : Int32))]))
                    refine Go.step (fun t k => XS.goto X_12.here hx rfl (pc0 := 351) (pc' := 355) rfl (hb hby at_351) (by decide) (by decide) k) ?_
                    show Go p.tables e below P (T_12.setTop (mkF m 355 #[.val (.int p1), .val (.int p2), .val (.int p3), .val (.int p4), .val (.int p5), .val (.long ja), .second, .val (.long jb), .second, .val (.long jc), .second, .val (.int i17), .val (.long jo), .second, .val (.int io), .val (.long jx), .second, .val (.ref b_9), .val (.double dg), .second] [(.int (1 : Int32))]))
                    exact retGoW X_12 hx hS (by rw [eh_12]; exact (Nat.le_trans hk_10 Kc_11.1)) hP Bd.returns hlk rfl (Or.inl ⟨rfl, Or.inr (Or.inl rfl), _, rfl⟩) (hb hby at_355) (by decide) (by decide) (by rw [eh_12]; exact ⟨rfl, N_12⟩)
                  · refine Go.step (fun t k => XS.ifNo X_12.here hx rfl (hb hby at_303) rfl (lcN (cd := .ge) hc303) k) ?_
                    show Go p.tables e below P (T_12.setTop (mkF m 306 #[.val (.int p1), .val (.int p2), .val (.int p3), .val (.int p4), .val (.int p5), .val (.long ja), .second, .val (.long jb), .second, .val (.long jc), .second, .val (.int i17), .val (.long jo), .second, .val (.int io), .val (.long jx), .second, .val (.ref b_9), .val (.double dg), .second] []))
                    refine Go.step (fun t k => XS.dload X_12.here hx rfl (hb hby at_306) rfl  k) ?_
                    show Go p.tables e below P (T_12.setTop (mkF m 308 #[.val (.int p1), .val (.int p2), .val (.int p3), .val (.int p4), .val (.int p5), .val (.long ja), .second, .val (.long jb), .second, .val (.long jc), .second, .val (.int i17), .val (.long jo), .second, .val (.int io), .val (.long jx), .second, .val (.ref b_9), .val (.double dg), .second] [(.double dg)]))
                    refine Go.step (fun t k => XS.lload X_12.here hx rfl (hb hby at_308) rfl  k) ?_
                    show Go p.tables e below P (T_12.setTop (mkF m 310 #[.val (.int p1), .val (.int p2), .val (.int p3), .val (.int p4), .val (.int p5), .val (.long ja), .second, .val (.long jb), .second, .val (.long jc), .second, .val (.int i17), .val (.long jo), .second, .val (.int io), .val (.long jx), .second, .val (.ref b_9), .val (.double dg), .second] [(.long jx), (.double dg)]))
                    refine Go.step (fun t k => XS.lload X_12.here hx rfl (hb hby at_310) rfl  k) ?_
                    show Go p.tables e below P (T_12.setTop (mkF m 312 #[.val (.int p1), .val (.int p2), .val (.int p3), .val (.int p4), .val (.int p5), .val (.long ja), .second, .val (.long jb), .second, .val (.long jc), .second, .val (.int i17), .val (.long jo), .second, .val (.int io), .val (.long jx), .second, .val (.ref b_9), .val (.double dg), .second] [(.long ja), (.long jx), (.double dg)]))
                    obtain ⟨j312, hj312⟩ : ∃ z : Int64, jx - ja = z := ⟨_, rfl⟩
                    refine Go.step (fun t k => lsub_v X_12.here hx rfl (hb hby at_312) rfl  hj312 k) ?_
                    show Go p.tables e below P (T_12.setTop (mkF m 313 #[.val (.int p1), .val (.int p2), .val (.int p3), .val (.int p4), .val (.int p5), .val (.long ja), .second, .val (.long jb), .second, .val (.long jc), .second, .val (.int i17), .val (.long jo), .second, .val (.int io), .val (.long jx), .second, .val (.ref b_9), .val (.double dg), .second] [(.long j312), (.double dg)]))
                    have f312 := c_lsub jx ja; rw [hj312] at f312
                    have G312 := rng64 j312
                    have v312 : j312.toInt = jx.toInt - ja.toInt := by omega
                    obtain ⟨d313, hd313⟩ : ∃ z : UInt64, FP.l2d j312 = z := ⟨_, rfl⟩
                    refine Go.step (fun t k => XS.l2dS X_12.here hx rfl (hb hby at_313) rfl hd313 k) ?_
                    show Go p.tables e below P (T_12.setTop (mkF m 314 #[.val (.int p1), .val (.int p2), .val (.int p3), .val (.int p4), .val (.int p5), .val (.long ja), .second, .val (.long jb), .second, .val (.long jc), .second, .val (.int i17), .val (.long jo), .second, .val (.int io), .val (.long jx), .second, .val (.ref b_9), .val (.double dg), .second] [(.double d313), (.double dg)]))
                    have Q312 := l2d_e (x := j312) (by omega); rw [hd313, v312] at Q312
                    refine Go.step (fun t k => XS.lload X_12.here hx rfl (hb hby at_314) rfl  k) ?_
                    show Go p.tables e below P (T_12.setTop (mkF m 316 #[.val (.int p1), .val (.int p2), .val (.int p3), .val (.int p4), .val (.int p5), .val (.long ja), .second, .val (.long jb), .second, .val (.long jc), .second, .val (.int i17), .val (.long jo), .second, .val (.int io), .val (.long jx), .second, .val (.ref b_9), .val (.double dg), .second] [(.long jb), (.double d313), (.double dg)]))
                    refine Go.step (fun t k => XS.lload X_12.here hx rfl (hb hby at_316) rfl  k) ?_
                    show Go p.tables e below P (T_12.setTop (mkF m 318 #[.val (.int p1), .val (.int p2), .val (.int p3), .val (.int p4), .val (.int p5), .val (.long ja), .second, .val (.long jb), .second, .val (.long jc), .second, .val (.int i17), .val (.long jo), .second, .val (.int io), .val (.long jx), .second, .val (.ref b_9), .val (.double dg), .second] [(.long ja), (.long jb), (.double d313), (.double dg)]))
                    obtain ⟨j318, hj318⟩ : ∃ z : Int64, jb - ja = z := ⟨_, rfl⟩
                    refine Go.step (fun t k => lsub_v X_12.here hx rfl (hb hby at_318) rfl  hj318 k) ?_
                    show Go p.tables e below P (T_12.setTop (mkF m 319 #[.val (.int p1), .val (.int p2), .val (.int p3), .val (.int p4), .val (.int p5), .val (.long ja), .second, .val (.long jb), .second, .val (.long jc), .second, .val (.int i17), .val (.long jo), .second, .val (.int io), .val (.long jx), .second, .val (.ref b_9), .val (.double dg), .second] [(.long j318), (.double d313), (.double dg)]))
                    have f318 := c_lsub jb ja; rw [hj318] at f318
                    have G318 := rng64 j318
                    have v318 : j318.toInt = jb.toInt - ja.toInt := by omega
                    obtain ⟨d319, hd319⟩ : ∃ z : UInt64, FP.l2d j318 = z := ⟨_, rfl⟩
                    refine Go.step (fun t k => XS.l2dS X_12.here hx rfl (hb hby at_319) rfl hd319 k) ?_
                    show Go p.tables e below P (T_12.setTop (mkF m 320 #[.val (.int p1), .val (.int p2), .val (.int p3), .val (.int p4), .val (.int p5), .val (.long ja), .second, .val (.long jb), .second, .val (.long jc), .second, .val (.int i17), .val (.long jo), .second, .val (.int io), .val (.long jx), .second, .val (.ref b_9), .val (.double dg), .second] [(.double d319), (.double d313), (.double dg)]))
                    have Q318 := l2d_e (x := j318) (by omega); rw [hd319, v318] at Q318
                    obtain ⟨y, z, hdq, hy, hz⟩ := (show ∃ y z, dg = FP.ddiv y z ∧ DE 1074 (jx.toInt - ja.toInt) y ∧ DE 1074 (jb.toInt - ja.toInt) z from by rcases sp with ⟨_, h⟩ | ⟨h, _⟩; exact h; omega)
                    obtain rfl := DE.uniq Q312 hy (by omega)
                    obtain rfl := DE.uniq Q318 hz (by omega)
                    obtain ⟨qq, hqq⟩ : ∃ z : UInt64, FP.ddiv d313 d319 = z := ⟨_, rfl⟩
                    refine Go.step (fun t k => XS.ddivS X_12.here hx rfl (hb hby at_320) rfl (by rw [← hdq]; exact fr.nn) hqq k) ?_
                    show Go p.tables e below P (T_12.setTop (mkF m 321 #[.val (.int p1), .val (.int p2), .val (.int p3), .val (.int p4), .val (.int p5), .val (.long ja), .second, .val (.long jb), .second, .val (.long jc), .second, .val (.int i17), .val (.long jo), .second, .val (.int io), .val (.long jx), .second, .val (.ref b_9), .val (.double dg), .second] [(.double qq), (.double dg)]))
                    have hqd : qq = dg := by rw [hdq, ← hqq]
                    rw [hqd]
                    show Go p.tables e below P (T_12.setTop (mkF m 321 #[.val (.int p1), .val (.int p2), .val (.int p3), .val (.int p4), .val (.int p5), .val (.long ja), .second, .val (.long jb), .second, .val (.long jc), .second, .val (.int i17), .val (.long jo), .second, .val (.int io), .val (.long jx), .second, .val (.ref b_9), .val (.double dg), .second] [(.double dg), (.double dg)]))
                    refine Go.step (fun t k => XS.dcmpS X_12.here hx rfl (hb hby at_321) rfl rfl k) ?_
                    show Go p.tables e below P (T_12.setTop (mkF m 322 #[.val (.int p1), .val (.int p2), .val (.int p3), .val (.int p4), .val (.int p5), .val (.long ja), .second, .val (.long jb), .second, .val (.long jc), .second, .val (.int i17), .val (.long jo), .second, .val (.int io), .val (.long jx), .second, .val (.ref b_9), .val (.double dg), .second] [(.int (cmpValue (FP.dcmp dg dg) .l))]))
                    refine Go.step (fun t k => XS.ifNo X_12.here hx rfl (hb hby at_322) rfl (dcN (cd := .ne) (same_cmp fr.ne) (fun q => q rfl)) k) ?_
                    show Go p.tables e below P (T_12.setTop (mkF m 325 #[.val (.int p1), .val (.int p2), .val (.int p3), .val (.int p4), .val (.int p5), .val (.long ja), .second, .val (.long jb), .second, .val (.long jc), .second, .val (.int i17), .val (.long jo), .second, .val (.int io), .val (.long jx), .second, .val (.ref b_9), .val (.double dg), .second] []))
                    refine Go.step (fun t k => XS.iconst X_12.here hx rfl (hb hby at_325) k) ?_
                    show Go p.tables e below P (T_12.setTop (mkF m 326 #[.val (.int p1), .val (.int p2), .val (.int p3), .val (.int p4), .val (.int p5), .val (.long ja), .second, .val (.long jb), .second, .val (.long jc), .second, .val (.int i17), .val (.long jo), .second, .val (.int io), .val (.long jx), .second, .val (.ref b_9), .val (.double dg), .second] [(.int (1 : Int32))]))
                    refine Go.step (fun t k => XS.goto X_12.here hx rfl (pc0 := 326) (pc' := 330) rfl (hb hby at_326) (by decide) (by decide) k) ?_
                    show Go p.tables e below P (T_12.setTop (mkF m 330 #[.val (.int p1), .val (.int p2), .val (.int p3), .val (.int p4), .val (.int p5), .val (.long ja), .second, .val (.long jb), .second, .val (.long jc), .second, .val (.int i17), .val (.long jo), .second, .val (.int io), .val (.long jx), .second, .val (.ref b_9), .val (.double dg), .second] [(.int (1 : Int32))]))
                    exact retGoW X_12 hx hS (by rw [eh_12]; exact (Nat.le_trans hk_10 Kc_11.1)) hP Bd.returns hlk rfl (Or.inl ⟨rfl, Or.inr (Or.inl rfl), _, rfl⟩) (hb hby at_330) (by decide) (by decide) (by rw [eh_12]; exact ⟨rfl, N_12⟩)
            · refine Go.step (fun t k => XS.ifNo X_12.here hx rfl (hb hby at_250) rfl (lcN (cd := .lt) hc250) k) ?_
              show Go p.tables e below P (T_12.setTop (mkF m 253 #[.val (.int p1), .val (.int p2), .val (.int p3), .val (.int p4), .val (.int p5), .val (.long ja), .second, .val (.long jb), .second, .val (.long jc), .second, .val (.int i17), .val (.long jo), .second, .val (.int io), .val (.long jx), .second, .val (.ref b_9), .val (.double dg), .second] []))
              have hq1 : dg = FP.dconst0 := by rcases hdg with ⟨h, _⟩ | ⟨_, _, h⟩ | ⟨h, _, h', _⟩ | ⟨h, _, h', _⟩; omega; exact h; omega; omega
              have q1 : DE 1074 0 dg := by rw [hq1]; exact zero_e 1074
              refine Go.step (fun t k => XS.dload X_12.here hx rfl (hb hby at_253) rfl  k) ?_
              show Go p.tables e below P (T_12.setTop (mkF m 255 #[.val (.int p1), .val (.int p2), .val (.int p3), .val (.int p4), .val (.int p5), .val (.long ja), .second, .val (.long jb), .second, .val (.long jc), .second, .val (.int i17), .val (.long jo), .second, .val (.int io), .val (.long jx), .second, .val (.ref b_9), .val (.double dg), .second] [(.double dg)]))
              refine Go.step (fun t k => XS.dconst0 X_12.here hx rfl (hb hby at_255) rfl k) ?_
              show Go p.tables e below P (T_12.setTop (mkF m 256 #[.val (.int p1), .val (.int p2), .val (.int p3), .val (.int p4), .val (.int p5), .val (.long ja), .second, .val (.long jb), .second, .val (.long jc), .second, .val (.int i17), .val (.long jo), .second, .val (.int io), .val (.long jx), .second, .val (.ref b_9), .val (.double dg), .second] [(.double FP.dconst0), (.double dg)]))
              refine Go.step (fun t k => XS.dcmpS X_12.here hx rfl (hb hby at_256) rfl rfl k) ?_
              show Go p.tables e below P (T_12.setTop (mkF m 257 #[.val (.int p1), .val (.int p2), .val (.int p3), .val (.int p4), .val (.int p5), .val (.long ja), .second, .val (.long jb), .second, .val (.long jc), .second, .val (.int i17), .val (.long jo), .second, .val (.int io), .val (.long jx), .second, .val (.ref b_9), .val (.double dg), .second] [(.int (cmpValue (FP.dcmp dg FP.dconst0) .l))]))
              refine Go.step (fun t k => XS.ifNo X_12.here hx rfl (hb hby at_257) rfl (dcN (cd := .ne) (DE.cmp q1 (zero_e 1074)) (fun q => q rfl)) k) ?_
              show Go p.tables e below P (T_12.setTop (mkF m 260 #[.val (.int p1), .val (.int p2), .val (.int p3), .val (.int p4), .val (.int p5), .val (.long ja), .second, .val (.long jb), .second, .val (.long jc), .second, .val (.int i17), .val (.long jo), .second, .val (.int io), .val (.long jx), .second, .val (.ref b_9), .val (.double dg), .second] []))
              refine Go.step (fun t k => XS.iconst X_12.here hx rfl (hb hby at_260) k) ?_
              show Go p.tables e below P (T_12.setTop (mkF m 261 #[.val (.int p1), .val (.int p2), .val (.int p3), .val (.int p4), .val (.int p5), .val (.long ja), .second, .val (.long jb), .second, .val (.long jc), .second, .val (.int i17), .val (.long jo), .second, .val (.int io), .val (.long jx), .second, .val (.ref b_9), .val (.double dg), .second] [(.int (1 : Int32))]))
              refine Go.step (fun t k => XS.goto X_12.here hx rfl (pc0 := 261) (pc' := 265) rfl (hb hby at_261) (by decide) (by decide) k) ?_
              show Go p.tables e below P (T_12.setTop (mkF m 265 #[.val (.int p1), .val (.int p2), .val (.int p3), .val (.int p4), .val (.int p5), .val (.long ja), .second, .val (.long jb), .second, .val (.long jc), .second, .val (.int i17), .val (.long jo), .second, .val (.int io), .val (.long jx), .second, .val (.ref b_9), .val (.double dg), .second] [(.int (1 : Int32))]))
              exact retGoW X_12 hx hS (by rw [eh_12]; exact (Nat.le_trans hk_10 Kc_11.1)) hP Bd.returns hlk rfl (Or.inl ⟨rfl, Or.inr (Or.inl rfl), _, rfl⟩) (hb hby at_265) (by decide) (by decide) (by rw [eh_12]; exact ⟨rfl, N_12⟩)
        · refine Go.step (fun t k => XS.ifNo X_12.here hx rfl (hb hby at_221) rfl (lcN (cd := .ne) hc221) k) ?_
          show Go p.tables e below P (T_12.setTop (mkF m 224 #[.val (.int p1), .val (.int p2), .val (.int p3), .val (.int p4), .val (.int p5), .val (.long ja), .second, .val (.long jb), .second, .val (.long jc), .second, .val (.int i17), .val (.long jo), .second, .val (.int io), .val (.long jx), .second, .val (.ref b_9), .val (.double dg), .second] []))
          have hq1 : dg = FP.dconst1 := by rcases hdg with ⟨_, h⟩ | ⟨h, _⟩ | ⟨_, h, _⟩ | ⟨_, h, _⟩; exact h; omega; omega; omega
          have q1 : DE 1074 1 dg := by rw [hq1]; exact one_1074
          refine Go.step (fun t k => XS.dload X_12.here hx rfl (hb hby at_224) rfl  k) ?_
          show Go p.tables e below P (T_12.setTop (mkF m 226 #[.val (.int p1), .val (.int p2), .val (.int p3), .val (.int p4), .val (.int p5), .val (.long ja), .second, .val (.long jb), .second, .val (.long jc), .second, .val (.int i17), .val (.long jo), .second, .val (.int io), .val (.long jx), .second, .val (.ref b_9), .val (.double dg), .second] [(.double dg)]))
          refine Go.step (fun t k => XS.dconst1 X_12.here hx rfl (hb hby at_226) rfl k) ?_
          show Go p.tables e below P (T_12.setTop (mkF m 227 #[.val (.int p1), .val (.int p2), .val (.int p3), .val (.int p4), .val (.int p5), .val (.long ja), .second, .val (.long jb), .second, .val (.long jc), .second, .val (.int i17), .val (.long jo), .second, .val (.int io), .val (.long jx), .second, .val (.ref b_9), .val (.double dg), .second] [(.double FP.dconst1), (.double dg)]))
          refine Go.step (fun t k => XS.dcmpS X_12.here hx rfl (hb hby at_227) rfl rfl k) ?_
          show Go p.tables e below P (T_12.setTop (mkF m 228 #[.val (.int p1), .val (.int p2), .val (.int p3), .val (.int p4), .val (.int p5), .val (.long ja), .second, .val (.long jb), .second, .val (.long jc), .second, .val (.int i17), .val (.long jo), .second, .val (.int io), .val (.long jx), .second, .val (.ref b_9), .val (.double dg), .second] [(.int (cmpValue (FP.dcmp dg FP.dconst1) .l))]))
          refine Go.step (fun t k => XS.ifNo X_12.here hx rfl (hb hby at_228) rfl (dcN (cd := .ne) (DE.cmp q1 one_1074) (fun q => q rfl)) k) ?_
          show Go p.tables e below P (T_12.setTop (mkF m 231 #[.val (.int p1), .val (.int p2), .val (.int p3), .val (.int p4), .val (.int p5), .val (.long ja), .second, .val (.long jb), .second, .val (.long jc), .second, .val (.int i17), .val (.long jo), .second, .val (.int io), .val (.long jx), .second, .val (.ref b_9), .val (.double dg), .second] []))
          refine Go.step (fun t k => XS.iconst X_12.here hx rfl (hb hby at_231) k) ?_
          show Go p.tables e below P (T_12.setTop (mkF m 232 #[.val (.int p1), .val (.int p2), .val (.int p3), .val (.int p4), .val (.int p5), .val (.long ja), .second, .val (.long jb), .second, .val (.long jc), .second, .val (.int i17), .val (.long jo), .second, .val (.int io), .val (.long jx), .second, .val (.ref b_9), .val (.double dg), .second] [(.int (1 : Int32))]))
          refine Go.step (fun t k => XS.goto X_12.here hx rfl (pc0 := 232) (pc' := 236) rfl (hb hby at_232) (by decide) (by decide) k) ?_
          show Go p.tables e below P (T_12.setTop (mkF m 236 #[.val (.int p1), .val (.int p2), .val (.int p3), .val (.int p4), .val (.int p5), .val (.long ja), .second, .val (.long jb), .second, .val (.long jc), .second, .val (.int i17), .val (.long jo), .second, .val (.int io), .val (.long jx), .second, .val (.ref b_9), .val (.double dg), .second] [(.int (1 : Int32))]))
          exact retGoW X_12 hx hS (by rw [eh_12]; exact (Nat.le_trans hk_10 Kc_11.1)) hP Bd.returns hlk rfl (Or.inl ⟨rfl, Or.inr (Or.inl rfl), _, rfl⟩) (hb hby at_236) (by decide) (by decide) (by rw [eh_12]; exact ⟨rfl, N_12⟩)
      refine Go.step (fun t k => XS.iloadN X_8.here hx rfl (hb hby at_123) rfl  k) ?_
      show Go p.tables e below P (T_8.setTop (mkF m 124 #[.val (.int p1), .val (.int p2), .val (.int p3), .val (.int p4), .val (.int p5), .val (.long m2), .second, .val (.long j108), .second, .val (.long m4), .second, .val (.int i17), .val (.long m2), .second, .val (.long m4), .second, .val (.long j108), .second, .unset, .unset] [(.int p4)]))
      refine Go.step (fun t k => XS.iconst X_8.here hx rfl (hb hby at_124) k) ?_
      show Go p.tables e below P (T_8.setTop (mkF m 125 #[.val (.int p1), .val (.int p2), .val (.int p3), .val (.int p4), .val (.int p5), .val (.long m2), .second, .val (.long j108), .second, .val (.long m4), .second, .val (.int i17), .val (.long m2), .second, .val (.long m4), .second, .val (.long j108), .second, .unset, .unset] [(.int (4 : Int32)), (.int p4)]))
      obtain ⟨i125, hi125⟩ : ∃ z : Int32, p4 % (4 : Int32) = z := ⟨_, rfl⟩
      refine Go.step (fun t k => irem_v X_8.here hx rfl (hb hby at_125) rfl (by decide) hi125 k) ?_
      show Go p.tables e below P (T_8.setTop (mkF m 126 #[.val (.int p1), .val (.int p2), .val (.int p3), .val (.int p4), .val (.int p5), .val (.long m2), .second, .val (.long j108), .second, .val (.long m4), .second, .val (.int i17), .val (.long m2), .second, .val (.long m4), .second, .val (.long j108), .second, .unset, .unset] [(.int i125)]))
      obtain ⟨j126, hj126⟩ : ∃ z : Int64, i125.toInt64 = z := ⟨_, rfl⟩
      refine Go.step (fun t k => i2l_v X_8.here hx rfl (hb hby at_126) rfl hj126 k) ?_
      show Go p.tables e below P (T_8.setTop (mkF m 127 #[.val (.int p1), .val (.int p2), .val (.int p3), .val (.int p4), .val (.int p5), .val (.long m2), .second, .val (.long j108), .second, .val (.long m4), .second, .val (.int i17), .val (.long m2), .second, .val (.long m4), .second, .val (.long j108), .second, .unset, .unset] [(.long j126)]))
      have f125 := c_irem p4 (4 : Int32) 4 rfl; rw [hi125] at f125
      have b125 : -3 ≤ i125.toInt ∧ i125.toInt ≤ 3 := by omega
      have f126 := c_i2l i125; rw [hj126] at f126
      refine Go.step (fun t k => XS.lstore X_8.here hx rfl (hb hby at_127) rfl (l' := #[.val (.int p1), .val (.int p2), .val (.int p3), .val (.int p4), .val (.int p5), .val (.long m2), .second, .val (.long j108), .second, .val (.long m4), .second, .val (.int i17), .val (.long j126), .second, .val (.long m4), .second, .val (.long j108), .second, .unset, .unset]) rfl k) ?_
      show Go p.tables e below P (T_8.setTop (mkF m 129 #[.val (.int p1), .val (.int p2), .val (.int p3), .val (.int p4), .val (.int p5), .val (.long m2), .second, .val (.long j108), .second, .val (.long m4), .second, .val (.int i17), .val (.long j126), .second, .val (.long m4), .second, .val (.long j108), .second, .unset, .unset] []))
      refine Go.step (fun t k => XS.iload X_8.here hx rfl (hb hby at_129) rfl  k) ?_
      show Go p.tables e below P (T_8.setTop (mkF m 131 #[.val (.int p1), .val (.int p2), .val (.int p3), .val (.int p4), .val (.int p5), .val (.long m2), .second, .val (.long j108), .second, .val (.long m4), .second, .val (.int i17), .val (.long j126), .second, .val (.long m4), .second, .val (.long j108), .second, .unset, .unset] [(.int p5)]))
      refine Go.step (fun t k => XS.iconst X_8.here hx rfl (hb hby at_131) k) ?_
      show Go p.tables e below P (T_8.setTop (mkF m 132 #[.val (.int p1), .val (.int p2), .val (.int p3), .val (.int p4), .val (.int p5), .val (.long m2), .second, .val (.long j108), .second, .val (.long m4), .second, .val (.int i17), .val (.long j126), .second, .val (.long m4), .second, .val (.long j108), .second, .unset, .unset] [(.int (3 : Int32)), (.int p5)]))
      obtain ⟨i132, hi132⟩ : ∃ z : Int32, p5 &&& (3 : Int32) = z := ⟨_, rfl⟩
      refine Go.step (fun t k => iand_v X_8.here hx rfl (hb hby at_132) rfl  hi132 k) ?_
      show Go p.tables e below P (T_8.setTop (mkF m 133 #[.val (.int p1), .val (.int p2), .val (.int p3), .val (.int p4), .val (.int p5), .val (.long m2), .second, .val (.long j108), .second, .val (.long m4), .second, .val (.int i17), .val (.long j126), .second, .val (.long m4), .second, .val (.long j108), .second, .unset, .unset] [(.int i132)]))
      refine Go.step (fun t k => XS.istore X_8.here hx rfl (hb hby at_133) rfl (l' := #[.val (.int p1), .val (.int p2), .val (.int p3), .val (.int p4), .val (.int p5), .val (.long m2), .second, .val (.long j108), .second, .val (.long m4), .second, .val (.int i17), .val (.long j126), .second, .val (.int i132), .unset, .val (.long j108), .second, .unset, .unset]) rfl k) ?_
      show Go p.tables e below P (T_8.setTop (mkF m 135 #[.val (.int p1), .val (.int p2), .val (.int p3), .val (.int p4), .val (.int p5), .val (.long m2), .second, .val (.long j108), .second, .val (.long m4), .second, .val (.int i17), .val (.long j126), .second, .val (.int i132), .unset, .val (.long j108), .second, .unset, .unset] []))
      refine Go.step (fun t k => XS.iload X_8.here hx rfl (hb hby at_135) rfl  k) ?_
      show Go p.tables e below P (T_8.setTop (mkF m 137 #[.val (.int p1), .val (.int p2), .val (.int p3), .val (.int p4), .val (.int p5), .val (.long m2), .second, .val (.long j108), .second, .val (.long m4), .second, .val (.int i17), .val (.long j126), .second, .val (.int i132), .unset, .val (.long j108), .second, .unset, .unset] [(.int i132)]))
      by_cases hc137 : ¬ i132.toInt = 0
      · refine Go.step (fun t k => XS.ifYes X_8.here hx rfl (pc0 := 137) (pc' := 147) rfl (hb hby at_137) rfl (ifY (cd := .ne) hc137) (by decide) (by decide) k) ?_
        show Go p.tables e below P (T_8.setTop (mkF m 147 #[.val (.int p1), .val (.int p2), .val (.int p3), .val (.int p4), .val (.int p5), .val (.long m2), .second, .val (.long j108), .second, .val (.long m4), .second, .val (.int i17), .val (.long j126), .second, .val (.int i132), .unset, .val (.long j108), .second, .unset, .unset] []))
        refine Go.step (fun t k => XS.iload X_8.here hx rfl (hb hby at_147) rfl  k) ?_
        show Go p.tables e below P (T_8.setTop (mkF m 149 #[.val (.int p1), .val (.int p2), .val (.int p3), .val (.int p4), .val (.int p5), .val (.long m2), .second, .val (.long j108), .second, .val (.long m4), .second, .val (.int i17), .val (.long j126), .second, .val (.int i132), .unset, .val (.long j108), .second, .unset, .unset] [(.int i132)]))
        refine Go.step (fun t k => XS.iconst X_8.here hx rfl (hb hby at_149) k) ?_
        show Go p.tables e below P (T_8.setTop (mkF m 150 #[.val (.int p1), .val (.int p2), .val (.int p3), .val (.int p4), .val (.int p5), .val (.long m2), .second, .val (.long j108), .second, .val (.long m4), .second, .val (.int i17), .val (.long j126), .second, .val (.int i132), .unset, .val (.long j108), .second, .unset, .unset] [(.int (1 : Int32)), (.int i132)]))
        by_cases hc150 : ¬ i132.toInt = (1 : Int)
        · refine Go.step (fun t k => XS.icmpYes X_8.here hx rfl (pc0 := 150) (pc' := 163) rfl (hb hby at_150) rfl (icY (cd := .ne) hc150) (by decide) (by decide) k) ?_
          show Go p.tables e below P (T_8.setTop (mkF m 163 #[.val (.int p1), .val (.int p2), .val (.int p3), .val (.int p4), .val (.int p5), .val (.long m2), .second, .val (.long j108), .second, .val (.long m4), .second, .val (.int i17), .val (.long j126), .second, .val (.int i132), .unset, .val (.long j108), .second, .unset, .unset] []))
          refine Go.step (fun t k => XS.iload X_8.here hx rfl (hb hby at_163) rfl  k) ?_
          show Go p.tables e below P (T_8.setTop (mkF m 165 #[.val (.int p1), .val (.int p2), .val (.int p3), .val (.int p4), .val (.int p5), .val (.long m2), .second, .val (.long j108), .second, .val (.long m4), .second, .val (.int i17), .val (.long j126), .second, .val (.int i132), .unset, .val (.long j108), .second, .unset, .unset] [(.int i132)]))
          refine Go.step (fun t k => XS.iconst X_8.here hx rfl (hb hby at_165) k) ?_
          show Go p.tables e below P (T_8.setTop (mkF m 166 #[.val (.int p1), .val (.int p2), .val (.int p3), .val (.int p4), .val (.int p5), .val (.long m2), .second, .val (.long j108), .second, .val (.long m4), .second, .val (.int i17), .val (.long j126), .second, .val (.int i132), .unset, .val (.long j108), .second, .unset, .unset] [(.int (2 : Int32)), (.int i132)]))
          by_cases hc166 : ¬ i132.toInt = (2 : Int)
          · refine Go.step (fun t k => XS.icmpYes X_8.here hx rfl (pc0 := 166) (pc' := 179) rfl (hb hby at_166) rfl (icY (cd := .ne) hc166) (by decide) (by decide) k) ?_
            show Go p.tables e below P (T_8.setTop (mkF m 179 #[.val (.int p1), .val (.int p2), .val (.int p3), .val (.int p4), .val (.int p5), .val (.long m2), .second, .val (.long j108), .second, .val (.long m4), .second, .val (.int i17), .val (.long j126), .second, .val (.int i132), .unset, .val (.long j108), .second, .unset, .unset] []))
            refine Go.step (fun t k => XS.lload X_8.here hx rfl (hb hby at_179) rfl  k) ?_
            show Go p.tables e below P (T_8.setTop (mkF m 181 #[.val (.int p1), .val (.int p2), .val (.int p3), .val (.int p4), .val (.int p5), .val (.long m2), .second, .val (.long j108), .second, .val (.long m4), .second, .val (.int i17), .val (.long j126), .second, .val (.int i132), .unset, .val (.long j108), .second, .unset, .unset] [(.long m4)]))
            refine Go.step (fun t k => XS.lload X_8.here hx rfl (hb hby at_181) rfl  k) ?_
            show Go p.tables e below P (T_8.setTop (mkF m 183 #[.val (.int p1), .val (.int p2), .val (.int p3), .val (.int p4), .val (.int p5), .val (.long m2), .second, .val (.long j108), .second, .val (.long m4), .second, .val (.int i17), .val (.long j126), .second, .val (.int i132), .unset, .val (.long j108), .second, .unset, .unset] [(.long j126), (.long m4)]))
            obtain ⟨j183, hj183⟩ : ∃ z : Int64, m4 + j126 = z := ⟨_, rfl⟩
            refine Go.step (fun t k => ladd_v X_8.here hx rfl (hb hby at_183) rfl  hj183 k) ?_
            show Go p.tables e below P (T_8.setTop (mkF m 184 #[.val (.int p1), .val (.int p2), .val (.int p3), .val (.int p4), .val (.int p5), .val (.long m2), .second, .val (.long j108), .second, .val (.long m4), .second, .val (.int i17), .val (.long j126), .second, .val (.int i132), .unset, .val (.long j108), .second, .unset, .unset] [(.long j183)]))
            have f183 := c_ladd m4 j126; rw [hj183] at f183
            have G183 := rng64 j183
            refine Go.step (fun t k => XS.lstore X_8.here hx rfl (hb hby at_184) rfl (l' := #[.val (.int p1), .val (.int p2), .val (.int p3), .val (.int p4), .val (.int p5), .val (.long m2), .second, .val (.long j108), .second, .val (.long m4), .second, .val (.int i17), .val (.long j126), .second, .val (.int i132), .val (.long j183), .second, .unset, .unset, .unset]) rfl k) ?_
            show Go p.tables e below P (T_8.setTop (mkF m 186 #[.val (.int p1), .val (.int p2), .val (.int p3), .val (.int p4), .val (.int p5), .val (.long m2), .second, .val (.long j108), .second, .val (.long m4), .second, .val (.int i17), .val (.long j126), .second, .val (.int i132), .val (.long j183), .second, .unset, .unset, .unset] []))
            exact J186 _ _ _ _ _ _ ⟨by omega, by omega, by omega, by omega⟩
          · refine Go.step (fun t k => XS.icmpNo X_8.here hx rfl (hb hby at_166) rfl (icN (cd := .ne) hc166) k) ?_
            show Go p.tables e below P (T_8.setTop (mkF m 169 #[.val (.int p1), .val (.int p2), .val (.int p3), .val (.int p4), .val (.int p5), .val (.long m2), .second, .val (.long j108), .second, .val (.long m4), .second, .val (.int i17), .val (.long j126), .second, .val (.int i132), .unset, .val (.long j108), .second, .unset, .unset] []))
            refine Go.step (fun t k => XS.lload X_8.here hx rfl (hb hby at_169) rfl  k) ?_
            show Go p.tables e below P (T_8.setTop (mkF m 171 #[.val (.int p1), .val (.int p2), .val (.int p3), .val (.int p4), .val (.int p5), .val (.long m2), .second, .val (.long j108), .second, .val (.long m4), .second, .val (.int i17), .val (.long j126), .second, .val (.int i132), .unset, .val (.long j108), .second, .unset, .unset] [(.long j108)]))
            refine Go.step (fun t k => XS.lload X_8.here hx rfl (hb hby at_171) rfl  k) ?_
            show Go p.tables e below P (T_8.setTop (mkF m 173 #[.val (.int p1), .val (.int p2), .val (.int p3), .val (.int p4), .val (.int p5), .val (.long m2), .second, .val (.long j108), .second, .val (.long m4), .second, .val (.int i17), .val (.long j126), .second, .val (.int i132), .unset, .val (.long j108), .second, .unset, .unset] [(.long j126), (.long j108)]))
            obtain ⟨j173, hj173⟩ : ∃ z : Int64, j108 + j126 = z := ⟨_, rfl⟩
            refine Go.step (fun t k => ladd_v X_8.here hx rfl (hb hby at_173) rfl  hj173 k) ?_
            show Go p.tables e below P (T_8.setTop (mkF m 174 #[.val (.int p1), .val (.int p2), .val (.int p3), .val (.int p4), .val (.int p5), .val (.long m2), .second, .val (.long j108), .second, .val (.long m4), .second, .val (.int i17), .val (.long j126), .second, .val (.int i132), .unset, .val (.long j108), .second, .unset, .unset] [(.long j173)]))
            have f173 := c_ladd j108 j126; rw [hj173] at f173
            have G173 := rng64 j173
            refine Go.step (fun t k => XS.lstore X_8.here hx rfl (hb hby at_174) rfl (l' := #[.val (.int p1), .val (.int p2), .val (.int p3), .val (.int p4), .val (.int p5), .val (.long m2), .second, .val (.long j108), .second, .val (.long m4), .second, .val (.int i17), .val (.long j126), .second, .val (.int i132), .val (.long j173), .second, .unset, .unset, .unset]) rfl k) ?_
            show Go p.tables e below P (T_8.setTop (mkF m 176 #[.val (.int p1), .val (.int p2), .val (.int p3), .val (.int p4), .val (.int p5), .val (.long m2), .second, .val (.long j108), .second, .val (.long m4), .second, .val (.int i17), .val (.long j126), .second, .val (.int i132), .val (.long j173), .second, .unset, .unset, .unset] []))
            refine Go.step (fun t k => XS.goto X_8.here hx rfl (pc0 := 176) (pc' := 186) rfl (hb hby at_176) (by decide) (by decide) k) ?_
            show Go p.tables e below P (T_8.setTop (mkF m 186 #[.val (.int p1), .val (.int p2), .val (.int p3), .val (.int p4), .val (.int p5), .val (.long m2), .second, .val (.long j108), .second, .val (.long m4), .second, .val (.int i17), .val (.long j126), .second, .val (.int i132), .val (.long j173), .second, .unset, .unset, .unset] []))
            exact J186 _ _ _ _ _ _ ⟨by omega, by omega, by omega, by omega⟩
        · refine Go.step (fun t k => XS.icmpNo X_8.here hx rfl (hb hby at_150) rfl (icN (cd := .ne) hc150) k) ?_
          show Go p.tables e below P (T_8.setTop (mkF m 153 #[.val (.int p1), .val (.int p2), .val (.int p3), .val (.int p4), .val (.int p5), .val (.long m2), .second, .val (.long j108), .second, .val (.long m4), .second, .val (.int i17), .val (.long j126), .second, .val (.int i132), .unset, .val (.long j108), .second, .unset, .unset] []))
          refine Go.step (fun t k => XS.lload X_8.here hx rfl (hb hby at_153) rfl  k) ?_
          show Go p.tables e below P (T_8.setTop (mkF m 155 #[.val (.int p1), .val (.int p2), .val (.int p3), .val (.int p4), .val (.int p5), .val (.long m2), .second, .val (.long j108), .second, .val (.long m4), .second, .val (.int i17), .val (.long j126), .second, .val (.int i132), .unset, .val (.long j108), .second, .unset, .unset] [(.long m2)]))
          refine Go.step (fun t k => XS.lload X_8.here hx rfl (hb hby at_155) rfl  k) ?_
          show Go p.tables e below P (T_8.setTop (mkF m 157 #[.val (.int p1), .val (.int p2), .val (.int p3), .val (.int p4), .val (.int p5), .val (.long m2), .second, .val (.long j108), .second, .val (.long m4), .second, .val (.int i17), .val (.long j126), .second, .val (.int i132), .unset, .val (.long j108), .second, .unset, .unset] [(.long j126), (.long m2)]))
          obtain ⟨j157, hj157⟩ : ∃ z : Int64, m2 + j126 = z := ⟨_, rfl⟩
          refine Go.step (fun t k => ladd_v X_8.here hx rfl (hb hby at_157) rfl  hj157 k) ?_
          show Go p.tables e below P (T_8.setTop (mkF m 158 #[.val (.int p1), .val (.int p2), .val (.int p3), .val (.int p4), .val (.int p5), .val (.long m2), .second, .val (.long j108), .second, .val (.long m4), .second, .val (.int i17), .val (.long j126), .second, .val (.int i132), .unset, .val (.long j108), .second, .unset, .unset] [(.long j157)]))
          have f157 := c_ladd m2 j126; rw [hj157] at f157
          have G157 := rng64 j157
          refine Go.step (fun t k => XS.lstore X_8.here hx rfl (hb hby at_158) rfl (l' := #[.val (.int p1), .val (.int p2), .val (.int p3), .val (.int p4), .val (.int p5), .val (.long m2), .second, .val (.long j108), .second, .val (.long m4), .second, .val (.int i17), .val (.long j126), .second, .val (.int i132), .val (.long j157), .second, .unset, .unset, .unset]) rfl k) ?_
          show Go p.tables e below P (T_8.setTop (mkF m 160 #[.val (.int p1), .val (.int p2), .val (.int p3), .val (.int p4), .val (.int p5), .val (.long m2), .second, .val (.long j108), .second, .val (.long m4), .second, .val (.int i17), .val (.long j126), .second, .val (.int i132), .val (.long j157), .second, .unset, .unset, .unset] []))
          refine Go.step (fun t k => XS.goto X_8.here hx rfl (pc0 := 160) (pc' := 186) rfl (hb hby at_160) (by decide) (by decide) k) ?_
          show Go p.tables e below P (T_8.setTop (mkF m 186 #[.val (.int p1), .val (.int p2), .val (.int p3), .val (.int p4), .val (.int p5), .val (.long m2), .second, .val (.long j108), .second, .val (.long m4), .second, .val (.int i17), .val (.long j126), .second, .val (.int i132), .val (.long j157), .second, .unset, .unset, .unset] []))
          exact J186 _ _ _ _ _ _ ⟨by omega, by omega, by omega, by omega⟩
      · refine Go.step (fun t k => XS.ifNo X_8.here hx rfl (hb hby at_137) rfl (ifN (cd := .ne) hc137) k) ?_
        show Go p.tables e below P (T_8.setTop (mkF m 140 #[.val (.int p1), .val (.int p2), .val (.int p3), .val (.int p4), .val (.int p5), .val (.long m2), .second, .val (.long j108), .second, .val (.long m4), .second, .val (.int i17), .val (.long j126), .second, .val (.int i132), .unset, .val (.long j108), .second, .unset, .unset] []))
        refine Go.step (fun t k => XS.iloadN X_8.here hx rfl (hb hby at_140) rfl  k) ?_
        show Go p.tables e below P (T_8.setTop (mkF m 141 #[.val (.int p1), .val (.int p2), .val (.int p3), .val (.int p4), .val (.int p5), .val (.long m2), .second, .val (.long j108), .second, .val (.long m4), .second, .val (.int i17), .val (.long j126), .second, .val (.int i132), .unset, .val (.long j108), .second, .unset, .unset] [(.int p4)]))
        obtain ⟨j141, hj141⟩ : ∃ z : Int64, p4.toInt64 = z := ⟨_, rfl⟩
        refine Go.step (fun t k => i2l_v X_8.here hx rfl (hb hby at_141) rfl hj141 k) ?_
        show Go p.tables e below P (T_8.setTop (mkF m 142 #[.val (.int p1), .val (.int p2), .val (.int p3), .val (.int p4), .val (.int p5), .val (.long m2), .second, .val (.long j108), .second, .val (.long m4), .second, .val (.int i17), .val (.long j126), .second, .val (.int i132), .unset, .val (.long j108), .second, .unset, .unset] [(.long j141)]))
        refine Go.step (fun t k => XS.lstore X_8.here hx rfl (hb hby at_142) rfl (l' := #[.val (.int p1), .val (.int p2), .val (.int p3), .val (.int p4), .val (.int p5), .val (.long m2), .second, .val (.long j108), .second, .val (.long m4), .second, .val (.int i17), .val (.long j126), .second, .val (.int i132), .val (.long j141), .second, .unset, .unset, .unset]) rfl k) ?_
        show Go p.tables e below P (T_8.setTop (mkF m 144 #[.val (.int p1), .val (.int p2), .val (.int p3), .val (.int p4), .val (.int p5), .val (.long m2), .second, .val (.long j108), .second, .val (.long m4), .second, .val (.int i17), .val (.long j126), .second, .val (.int i132), .val (.long j141), .second, .unset, .unset, .unset] []))
        refine Go.step (fun t k => XS.goto X_8.here hx rfl (pc0 := 144) (pc' := 186) rfl (hb hby at_144) (by decide) (by decide) k) ?_
        show Go p.tables e below P (T_8.setTop (mkF m 186 #[.val (.int p1), .val (.int p2), .val (.int p3), .val (.int p4), .val (.int p5), .val (.long m2), .second, .val (.long j108), .second, .val (.long m4), .second, .val (.int i17), .val (.long j126), .second, .val (.int i132), .val (.long j141), .second, .unset, .unset, .unset] []))
        have f141 := c_i2l p4; rw [hj141] at f141
        exact J186 _ _ _ _ _ _ ⟨by omega, by omega, by omega, by omega⟩
  refine Go.step (fun t k => XS.iload X0.here hx rfl (hb hby at_20) rfl  k) ?_
  show Go p.tables e below P (s₁.setTop (mkF m 22 #[.val (.int p1), .val (.int p2), .val (.int p3), .val (.int p4), .val (.int p5), .val (.long j1), .second, .val (.long j5), .second, .val (.long j9), .second, .val (.int i17), .unset, .unset, .unset, .unset, .unset, .unset, .unset, .unset] [(.int i17)]))
  refine Go.step (fun t k => XS.iconst X0.here hx rfl (hb hby at_22) k) ?_
  show Go p.tables e below P (s₁.setTop (mkF m 23 #[.val (.int p1), .val (.int p2), .val (.int p3), .val (.int p4), .val (.int p5), .val (.long j1), .second, .val (.long j5), .second, .val (.long j9), .second, .val (.int i17), .unset, .unset, .unset, .unset, .unset, .unset, .unset, .unset] [(.int (1 : Int32)), (.int i17)]))
  by_cases hc23 : ¬ i17.toInt = (1 : Int)
  · refine Go.step (fun t k => XS.icmpYes X0.here hx rfl (pc0 := 23) (pc' := 33) rfl (hb hby at_23) rfl (icY (cd := .ne) hc23) (by decide) (by decide) k) ?_
    show Go p.tables e below P (s₁.setTop (mkF m 33 #[.val (.int p1), .val (.int p2), .val (.int p3), .val (.int p4), .val (.int p5), .val (.long j1), .second, .val (.long j5), .second, .val (.long j9), .second, .val (.int i17), .unset, .unset, .unset, .unset, .unset, .unset, .unset, .unset] []))
    refine Go.step (fun t k => XS.iload X0.here hx rfl (hb hby at_33) rfl  k) ?_
    show Go p.tables e below P (s₁.setTop (mkF m 35 #[.val (.int p1), .val (.int p2), .val (.int p3), .val (.int p4), .val (.int p5), .val (.long j1), .second, .val (.long j5), .second, .val (.long j9), .second, .val (.int i17), .unset, .unset, .unset, .unset, .unset, .unset, .unset, .unset] [(.int i17)]))
    refine Go.step (fun t k => XS.iconst X0.here hx rfl (hb hby at_35) k) ?_
    show Go p.tables e below P (s₁.setTop (mkF m 36 #[.val (.int p1), .val (.int p2), .val (.int p3), .val (.int p4), .val (.int p5), .val (.long j1), .second, .val (.long j5), .second, .val (.long j9), .second, .val (.int i17), .unset, .unset, .unset, .unset, .unset, .unset, .unset, .unset] [(.int (2 : Int32)), (.int i17)]))
    by_cases hc36 : ¬ i17.toInt = (2 : Int)
    · refine Go.step (fun t k => XS.icmpYes X0.here hx rfl (pc0 := 36) (pc' := 46) rfl (hb hby at_36) rfl (icY (cd := .ne) hc36) (by decide) (by decide) k) ?_
      show Go p.tables e below P (s₁.setTop (mkF m 46 #[.val (.int p1), .val (.int p2), .val (.int p3), .val (.int p4), .val (.int p5), .val (.long j1), .second, .val (.long j5), .second, .val (.long j9), .second, .val (.int i17), .unset, .unset, .unset, .unset, .unset, .unset, .unset, .unset] []))
      refine Go.step (fun t k => XS.iload X0.here hx rfl (hb hby at_46) rfl  k) ?_
      show Go p.tables e below P (s₁.setTop (mkF m 48 #[.val (.int p1), .val (.int p2), .val (.int p3), .val (.int p4), .val (.int p5), .val (.long j1), .second, .val (.long j5), .second, .val (.long j9), .second, .val (.int i17), .unset, .unset, .unset, .unset, .unset, .unset, .unset, .unset] [(.int i17)]))
      refine Go.step (fun t k => XS.iconst X0.here hx rfl (hb hby at_48) k) ?_
      show Go p.tables e below P (s₁.setTop (mkF m 49 #[.val (.int p1), .val (.int p2), .val (.int p3), .val (.int p4), .val (.int p5), .val (.long j1), .second, .val (.long j5), .second, .val (.long j9), .second, .val (.int i17), .unset, .unset, .unset, .unset, .unset, .unset, .unset, .unset] [(.int (3 : Int32)), (.int i17)]))
      by_cases hc49 : ¬ i17.toInt = (3 : Int)
      · refine Go.step (fun t k => XS.icmpYes X0.here hx rfl (pc0 := 49) (pc' := 60) rfl (hb hby at_49) rfl (icY (cd := .ne) hc49) (by decide) (by decide) k) ?_
        show Go p.tables e below P (s₁.setTop (mkF m 60 #[.val (.int p1), .val (.int p2), .val (.int p3), .val (.int p4), .val (.int p5), .val (.long j1), .second, .val (.long j5), .second, .val (.long j9), .second, .val (.int i17), .unset, .unset, .unset, .unset, .unset, .unset, .unset, .unset] []))
        exact J60 _ _ _ ⟨by omega, by omega, by omega⟩
      · refine Go.step (fun t k => XS.icmpNo X0.here hx rfl (hb hby at_49) rfl (icN (cd := .ne) hc49) k) ?_
        show Go p.tables e below P (s₁.setTop (mkF m 52 #[.val (.int p1), .val (.int p2), .val (.int p3), .val (.int p4), .val (.int p5), .val (.long j1), .second, .val (.long j5), .second, .val (.long j9), .second, .val (.int i17), .unset, .unset, .unset, .unset, .unset, .unset, .unset, .unset] []))
        refine Go.step (fun t k => XS.lload X0.here hx rfl (hb hby at_52) rfl  k) ?_
        show Go p.tables e below P (s₁.setTop (mkF m 54 #[.val (.int p1), .val (.int p2), .val (.int p3), .val (.int p4), .val (.int p5), .val (.long j1), .second, .val (.long j5), .second, .val (.long j9), .second, .val (.int i17), .unset, .unset, .unset, .unset, .unset, .unset, .unset, .unset] [(.long j1)]))
        refine Go.step (fun t k => XS.lstore X0.here hx rfl (hb hby at_54) rfl (l' := #[.val (.int p1), .val (.int p2), .val (.int p3), .val (.int p4), .val (.int p5), .val (.long j1), .second, .val (.long j1), .second, .val (.long j9), .second, .val (.int i17), .unset, .unset, .unset, .unset, .unset, .unset, .unset, .unset]) rfl k) ?_
        show Go p.tables e below P (s₁.setTop (mkF m 56 #[.val (.int p1), .val (.int p2), .val (.int p3), .val (.int p4), .val (.int p5), .val (.long j1), .second, .val (.long j1), .second, .val (.long j9), .second, .val (.int i17), .unset, .unset, .unset, .unset, .unset, .unset, .unset, .unset] []))
        refine Go.step (fun t k => XS.lload X0.here hx rfl (hb hby at_56) rfl  k) ?_
        show Go p.tables e below P (s₁.setTop (mkF m 58 #[.val (.int p1), .val (.int p2), .val (.int p3), .val (.int p4), .val (.int p5), .val (.long j1), .second, .val (.long j1), .second, .val (.long j9), .second, .val (.int i17), .unset, .unset, .unset, .unset, .unset, .unset, .unset, .unset] [(.long j1)]))
        refine Go.step (fun t k => XS.lstore X0.here hx rfl (hb hby at_58) rfl (l' := #[.val (.int p1), .val (.int p2), .val (.int p3), .val (.int p4), .val (.int p5), .val (.long j1), .second, .val (.long j1), .second, .val (.long j1), .second, .val (.int i17), .unset, .unset, .unset, .unset, .unset, .unset, .unset, .unset]) rfl k) ?_
        show Go p.tables e below P (s₁.setTop (mkF m 60 #[.val (.int p1), .val (.int p2), .val (.int p3), .val (.int p4), .val (.int p5), .val (.long j1), .second, .val (.long j1), .second, .val (.long j1), .second, .val (.int i17), .unset, .unset, .unset, .unset, .unset, .unset, .unset, .unset] []))
        exact J60 _ _ _ ⟨by omega, by omega, by omega⟩
    · refine Go.step (fun t k => XS.icmpNo X0.here hx rfl (hb hby at_36) rfl (icN (cd := .ne) hc36) k) ?_
      show Go p.tables e below P (s₁.setTop (mkF m 39 #[.val (.int p1), .val (.int p2), .val (.int p3), .val (.int p4), .val (.int p5), .val (.long j1), .second, .val (.long j5), .second, .val (.long j9), .second, .val (.int i17), .unset, .unset, .unset, .unset, .unset, .unset, .unset, .unset] []))
      refine Go.step (fun t k => XS.lload X0.here hx rfl (hb hby at_39) rfl  k) ?_
      show Go p.tables e below P (s₁.setTop (mkF m 41 #[.val (.int p1), .val (.int p2), .val (.int p3), .val (.int p4), .val (.int p5), .val (.long j1), .second, .val (.long j5), .second, .val (.long j9), .second, .val (.int i17), .unset, .unset, .unset, .unset, .unset, .unset, .unset, .unset] [(.long j5)]))
      refine Go.step (fun t k => XS.lstore X0.here hx rfl (hb hby at_41) rfl (l' := #[.val (.int p1), .val (.int p2), .val (.int p3), .val (.int p4), .val (.int p5), .val (.long j1), .second, .val (.long j5), .second, .val (.long j5), .second, .val (.int i17), .unset, .unset, .unset, .unset, .unset, .unset, .unset, .unset]) rfl k) ?_
      show Go p.tables e below P (s₁.setTop (mkF m 43 #[.val (.int p1), .val (.int p2), .val (.int p3), .val (.int p4), .val (.int p5), .val (.long j1), .second, .val (.long j5), .second, .val (.long j5), .second, .val (.int i17), .unset, .unset, .unset, .unset, .unset, .unset, .unset, .unset] []))
      refine Go.step (fun t k => XS.goto X0.here hx rfl (pc0 := 43) (pc' := 60) rfl (hb hby at_43) (by decide) (by decide) k) ?_
      show Go p.tables e below P (s₁.setTop (mkF m 60 #[.val (.int p1), .val (.int p2), .val (.int p3), .val (.int p4), .val (.int p5), .val (.long j1), .second, .val (.long j5), .second, .val (.long j5), .second, .val (.int i17), .unset, .unset, .unset, .unset, .unset, .unset, .unset, .unset] []))
      exact J60 _ _ _ ⟨by omega, by omega, by omega⟩
  · refine Go.step (fun t k => XS.icmpNo X0.here hx rfl (hb hby at_23) rfl (icN (cd := .ne) hc23) k) ?_
    show Go p.tables e below P (s₁.setTop (mkF m 26 #[.val (.int p1), .val (.int p2), .val (.int p3), .val (.int p4), .val (.int p5), .val (.long j1), .second, .val (.long j5), .second, .val (.long j9), .second, .val (.int i17), .unset, .unset, .unset, .unset, .unset, .unset, .unset, .unset] []))
    refine Go.step (fun t k => XS.lload X0.here hx rfl (hb hby at_26) rfl  k) ?_
    show Go p.tables e below P (s₁.setTop (mkF m 28 #[.val (.int p1), .val (.int p2), .val (.int p3), .val (.int p4), .val (.int p5), .val (.long j1), .second, .val (.long j5), .second, .val (.long j9), .second, .val (.int i17), .unset, .unset, .unset, .unset, .unset, .unset, .unset, .unset] [(.long j1)]))
    refine Go.step (fun t k => XS.lstore X0.here hx rfl (hb hby at_28) rfl (l' := #[.val (.int p1), .val (.int p2), .val (.int p3), .val (.int p4), .val (.int p5), .val (.long j1), .second, .val (.long j1), .second, .val (.long j9), .second, .val (.int i17), .unset, .unset, .unset, .unset, .unset, .unset, .unset, .unset]) rfl k) ?_
    show Go p.tables e below P (s₁.setTop (mkF m 30 #[.val (.int p1), .val (.int p2), .val (.int p3), .val (.int p4), .val (.int p5), .val (.long j1), .second, .val (.long j1), .second, .val (.long j9), .second, .val (.int i17), .unset, .unset, .unset, .unset, .unset, .unset, .unset, .unset] []))
    refine Go.step (fun t k => XS.goto X0.here hx rfl (pc0 := 30) (pc' := 60) rfl (hb hby at_30) (by decide) (by decide) k) ?_
    show Go p.tables e below P (s₁.setTop (mkF m 60 #[.val (.int p1), .val (.int p2), .val (.int p3), .val (.int p4), .val (.int p5), .val (.long j1), .second, .val (.long j1), .second, .val (.long j9), .second, .val (.int i17), .unset, .unset, .unset, .unset, .unset, .unset, .unset, .unset] []))
    exact J60 _ _ _ ⟨by omega, by omega, by omega⟩
set_option maxRecDepth 65536 in
set_option maxHeartbeats 40000000 in
theorem comes_1 {Post : Tables → Env → Array Value → State → Outcome → State → Prop} (hpost : ∀ tb e args s v u, (limb_1_1.after args s (.returned v) u = true ∧ limb_1_2.after args s (.returned v) u = true ∧ True) → ReturnedEndW s (.returned v) u (Jvm.fieldLocs frame_1_writes args s ++ Jvm.arrayLocs frame_1_arrays args s ++ Jvm.staticLocs frame_1_statics s) 16 1152 → Post tb e args s (.returned v) u) :
    ArmFor flags0 classFile x code maxLocals ret World_1 tables_1 room_1 Calls_1 rest_1 Pre_1 Post := by
  intro l hfl _ _ p e ha hc hk s m args below hf hA hF happ hP
  obtain ⟨hcalls, hrest, hpre⟩ := hP
  obtain ⟨-, -, -, hnamed, -, -, -, hat⟩ := (Spec.applies_iff hf).mp happ
  obtain ⟨hg, hn⟩ := and_e (Cond.before_iff.mp (show (Jvm.Cond.and given_1 narrow_1).before args s = true from hpre))
  obtain ⟨gc, hg0⟩ := and_e hg
  obtain ⟨ga0, hg1⟩ := and_e hg0
  obtain ⟨ga1, hg2⟩ := and_e hg1
  obtain ⟨ga2, hg3⟩ := and_e hg2
  obtain ⟨ga3, hg4⟩ := and_e hg3
  have ga4 := hg4
  obtain ⟨w0, w1, w2, w3, w4, rfl⟩ : ∃ w0 w1 w2 w3 w4 : Value, args = #[w0, w1, w2, w3, w4] := by
    have hs : args.size = 5 := by simpa [Cond.value, given_1] using gc
    obtain ⟨L⟩ := args
    match L, hs with
    | [w0, w1, w2, w3, w4], _ => exact ⟨w0, w1, w2, w3, w4, rfl⟩
  have hw := fun d (hd : d ∈ tables_1) => atoms_spec (ws := Jvm.Cond.code x code maxLocals ret :: tables_1) hat d (List.mem_cons_of_mem _ hd)
  obtain ⟨i0, ei0⟩ := is_v ga0
  obtain rfl : w0 = (.int i0) := Option.some.inj ei0
  obtain ⟨i1, ei1⟩ := is_v ga1
  obtain rfl : w1 = (.int i1) := Option.some.inj ei1
  obtain ⟨i2, ei2⟩ := is_v ga2
  obtain rfl : w2 = (.int i2) := Option.some.inj ei2
  obtain ⟨i3, ei3⟩ := is_v ga3
  obtain rfl : w3 = (.int i3) := Option.some.inj ei3
  obtain ⟨i4, ei4⟩ := is_v ga4
  obtain rfl : w4 = (.int i4) := Option.some.inj ei4
  obtain ⟨n, o, h1, h2, h3, _, L, rfl, ⟨rfl, N⟩, hq⟩ := rm0 l s _ hw tables_1 i0 i1 i2 i3 i4 s.heap s.heap.size (Nat.le_refl _) p e ha hc hk s m _ below hf ((Spec.applies_iff_loose hf).mp happ).1 ⟨rfl, State.Warmed39.refl s, rfl⟩ trivial
  refine ⟨n, _, h1, h2, h3, hpost _ _ _ _ _ _ ⟨Cond.after_iff.mpr rfl, Cond.after_iff.mpr (eq_i res_at (Term.int_eval (1)) rfl), trivial⟩ ⟨hq.1, hq.2.1, hq.2.2.1, (hq.2.2.2.sift fun y hy => Or.inr (N y hy)).mono (by decide) (by decide)⟩⟩
theorem main_1_1 : Claimed_1_1 := comes_1 fun _ _ _ _ _ _ h hF => ⟨h.1, hF⟩
theorem main_1_2 : Claimed_1_2 := comes_1 fun _ _ _ _ _ _ h hF => ⟨h.2.1, hF⟩
end Jvm.Pilot.@@N@@
namespace Jvm.Pilot.@@N@@
open Jvm Jvm.ClassFile Sem Op Lib Jvm.Free Jvm.Stand Jvm.Pilot.@@N@@.Jvm.D
/-! MADE BY PROGRAM (witnessworld.py) out of the Statement's table words and the real class files: 17 classes; the members and pool entries that the words name. The judged class is class 1, her method 1. -/
namespace start1
open Jvm.ClassFile
def u (s : String) : CpInfo := .utf8 (stringToUtf16 s)
/-- a pool by its gaps: so many unusable entries, then the entry; so many at the end -/
def gap : Nat → List CpInfo → List CpInfo
  | 0, r => r
  | n + 1, r => .unusable :: gap n r
def poolList (es : List (Nat × CpInfo)) (last : Nat) : List CpInfo := es.foldr (fun e r => gap e.1 (e.2 :: r)) (gap last [])
def pool (es : List (Nat × CpInfo)) (last : Nat) : Array CpInfo := ⟨poolList es last⟩
def fileOf (pool : Array CpInfo) (this : Nat) (attrs : Array Attribute := #[]) (ms : Array MethodInfo := #[]) (fl : Nat := 33) (sup : Nat := 0) (ifs : Array Nat := #[]) (fds : Array FieldInfo := #[]) : ClassFile where
  minorVersion := 0
  majorVersion := 65
  constantPool := pool
  accessFlags := fl
  thisClass := this
  superClass := sup
  interfaces := ifs
  fields := fds
  methods := ms
  attributes := attrs
def plain (name : String) (sup : Option ClassId) : Class where
  name := name
  kind := .ordinary
  loader := none
  accessFlags := 33
  super := sup
  interfaces := #[]
  cf := none
  fields := #[]
  methods := #[]
  instanceTypes := #[]
  staticTypes := #[]
  resolved := #[]
  callSites := []
  init := .initialized
  statics := none
  mirror := none

def pool0 : Array CpInfo := pool [(5, u "<init>"), (0, u "()V"), (1, .class_ 10), (1, u "java/lang/Object")] 113

def k0c0 : Code := { maxStack := 0, maxLocals := 1, code := object_method_1_code, exceptionTable := #[], attributes := #[] }
def k0m0 : Method := { name := "<init>", desc := "()V", sig := { parameters := [], returnType := none }, accessFlags := 1, code := some k0c0 }
/-- java/lang/Object -/
def k0 : Class := { plain "java/lang/Object" none with
  accessFlags := 33
  interfaces := #[]
  cf := some (fileOf pool0 8 #[] #[{ accessFlags := 1, nameIndex := 5, descriptorIndex := 6, attributes := #[] }] 33 0 #[] #[])
  fields := #[]
  methods := #[k0m0]
  instanceTypes := #[]
  staticTypes := #[]
  resolved := Array.replicate 124 none
  statics := none }

def pool1 : Array CpInfo := pool [(2, .class_ 4), (1, u "java/lang/Object"), (0, u "<init>"), (0, u "()V"), (0, .methodref 8 9), (0, .class_ 10), (0, .nameAndType 11 12), (0, u "java/lang/Math"), (0, u "min"), (0, u "(JJ)J"), (0, .methodref 8 14), (0, .nameAndType 15 12), (0, u "max"), (0, .class_ 17), (0, u "com/example/orabona/orabona/model/FuzzySet$Triangular"), (0, .string 19), (0, u "t"), (0, .methodref 16 21), (0, .nameAndType 5 22), (0, u "(Ljava/lang/String;DDD)V"), (0, .methodref 16 24), (0, .nameAndType 25 26), (0, u "degree"), (0, u "(D)D"), (0, .class_ 28), (0, u "com/example/orabona/orabona/model/TriangularDegreePinLaw"), (2, u "law"), (0, u "(IIIII)Z")] 7

def k1m0 : Method := { name := "<init>", desc := "()V", sig := { parameters := [], returnType := none }, accessFlags := 2, code := none }
def k1c1 : Code := { maxStack := 9, maxLocals := 20, code := code, exceptionTable := #[], attributes := #[] }
def k1m1 : Method := { name := "law", desc := "(IIIII)Z", sig := { parameters := [.int, .int, .int, .int, .int], returnType := some .boolean }, accessFlags := 9, code := some k1c1 }
/-- com/example/orabona/orabona/model/TriangularDegreePinLaw -/
def k1 : Class := { plain "com/example/orabona/orabona/model/TriangularDegreePinLaw" (some 0) with
  accessFlags := 49
  interfaces := #[]
  cf := some (fileOf pool1 27 #[] #[{ accessFlags := 2, nameIndex := 5, descriptorIndex := 6, attributes := #[] }, { accessFlags := 9, nameIndex := 31, descriptorIndex := 32, attributes := #[] }] 49 2 #[] #[])
  fields := #[]
  methods := #[k1m0, k1m1]
  instanceTypes := #[]
  staticTypes := #[]
  resolved := Array.replicate 40 none
  statics := none }

def pool2 : Array CpInfo := pool [(1, .methodref 2 3), (0, .class_ 4), (0, .nameAndType 5 6), (0, u "java/lang/Object"), (0, u "<init>"), (0, u "()V"), (0, .class_ 8), (0, u "java/lang/Record")] 13

def k2c0 : Code := { maxStack := 1, maxLocals := 1, code := jdk_30_method_1_code, exceptionTable := #[], attributes := #[] }
def k2m0 : Method := { name := "<init>", desc := "()V", sig := { parameters := [], returnType := none }, accessFlags := 4, code := some k2c0 }
/-- java/lang/Record -/
def k2 : Class := { plain "java/lang/Record" (some 0) with
  accessFlags := 1057
  interfaces := #[]
  cf := some (fileOf pool2 7 #[] #[{ accessFlags := 4, nameIndex := 5, descriptorIndex := 6, attributes := #[] }] 1057 2 #[] #[])
  fields := #[]
  methods := #[k2m0]
  instanceTypes := #[]
  staticTypes := #[]
  resolved := Array.replicate 22 none
  statics := none }

def pool3 : Array CpInfo := pool [(16, .class_ 18), (1, u "com/example/orabona/orabona/model/FuzzySet"), (27, .class_ 47), (0, u "java/lang/Object"), (20, .class_ 69), (0, u "com/example/orabona/orabona/model/FuzzySet$RightShoulder"), (0, .class_ 71), (0, u "com/example/orabona/orabona/model/FuzzySet$Triangular"), (0, .class_ 73), (0, u "com/example/orabona/orabona/model/FuzzySet$LeftShoulder"), (0, .class_ 75), (0, u "com/example/orabona/orabona/model/FuzzySet$Cut"), (0, .class_ 77), (0, u "com/example/orabona/orabona/model/FuzzySet$Visitor")] 32

/-- com/example/orabona/orabona/model/FuzzySet -/
def k3 : Class := { plain "com/example/orabona/orabona/model/FuzzySet" (some 0) with
  accessFlags := 1537
  interfaces := #[]
  cf := some (fileOf pool3 16 #[.nestMembers #[68, 70, 72, 74, 76]] #[] 1537 46 #[] #[])
  fields := #[]
  methods := #[]
  instanceTypes := #[]
  staticTypes := #[]
  resolved := Array.replicate 110 none
  statics := none }

def pool4 : Array CpInfo := pool [(1, .methodref 2 3), (0, .class_ 4), (0, .nameAndType 5 6), (0, u "java/lang/Record"), (0, u "<init>"), (0, u "()V"), (0, .fieldref 8 9), (0, .class_ 10), (0, .nameAndType 11 12), (0, u "com/example/orabona/orabona/model/FuzzySet$Triangular"), (0, u "name"), (0, u "Ljava/lang/String;"), (0, .fieldref 8 14), (0, .nameAndType 15 16), (0, u "a"), (0, u "D"), (0, .fieldref 8 18), (0, .nameAndType 19 16), (0, u "b"), (0, .fieldref 8 21), (0, .nameAndType 22 16), (0, u "c"), (18, .class_ 43), (1, u "com/example/orabona/orabona/model/FuzzySet"), (35, u "(Ljava/lang/String;DDD)V"), (3, u "degree"), (0, u "(D)D")] 47

def k4c0 : Code := { maxStack := 3, maxLocals := 8, code := prog_17_method_1_code, exceptionTable := #[], attributes := #[] }
def k4m0 : Method := { name := "<init>", desc := "(Ljava/lang/String;DDD)V", sig := { parameters := [(.object "java/lang/String"), .double, .double, .double], returnType := none }, accessFlags := 1, code := some k4c0 }
def k4c1 : Code := { maxStack := 6, maxLocals := 3, code := prog_17_method_2_code, exceptionTable := #[], attributes := #[] }
def k4m1 : Method := { name := "degree", desc := "(D)D", sig := { parameters := [.double], returnType := some .double }, accessFlags := 1, code := some k4c1 }
/-- com/example/orabona/orabona/model/FuzzySet$Triangular -/
def k4 : Class := { plain "com/example/orabona/orabona/model/FuzzySet$Triangular" (some 2) with
  accessFlags := 49
  interfaces := #[3]
  cf := some (fileOf pool4 8 #[.nestHost 41] #[{ accessFlags := 1, nameIndex := 5, descriptorIndex := 79, attributes := #[] }, { accessFlags := 1, nameIndex := 83, descriptorIndex := 84, attributes := #[] }] 49 2 #[41] #[{ accessFlags := 18, nameIndex := 11, descriptorIndex := 12, attributes := #[] }, { accessFlags := 18, nameIndex := 15, descriptorIndex := 16, attributes := #[] }, { accessFlags := 18, nameIndex := 19, descriptorIndex := 16, attributes := #[] }, { accessFlags := 18, nameIndex := 22, descriptorIndex := 16, attributes := #[] }])
  fields := #[{ name := "name", type := (.object "java/lang/String"), accessFlags := 18, slot := 0, constantValue := 0 }, { name := "a", type := .double, accessFlags := 18, slot := 1, constantValue := 0 }, { name := "b", type := .double, accessFlags := 18, slot := 2, constantValue := 0 }, { name := "c", type := .double, accessFlags := 18, slot := 3, constantValue := 0 }]
  methods := #[k4m0, k4m1]
  instanceTypes := #[(.object "java/lang/String"), .double, .double, .double]
  staticTypes := #[]
  resolved := Array.replicate 132 none
  statics := none }

def pool5 : Array CpInfo := pool [(1, .class_ 2), (0, u "java/io/Serializable"), (0, .class_ 4), (0, u "java/lang/Object")] 2

/-- java/io/Serializable -/
def k5 : Class := { plain "java/io/Serializable" (some 0) with
  accessFlags := 1537
  interfaces := #[]
  cf := some (fileOf pool5 1 #[] #[] 1537 3 #[] #[])
  fields := #[]
  methods := #[]
  instanceTypes := #[]
  staticTypes := #[]
  resolved := Array.replicate 7 none
  statics := none }

def pool6 : Array CpInfo := pool [(1, .class_ 2), (0, u "java/lang/Comparable"), (0, .class_ 4), (0, u "java/lang/Object")] 7

/-- java/lang/Comparable -/
def k6 : Class := { plain "java/lang/Comparable" (some 0) with
  accessFlags := 1537
  interfaces := #[]
  cf := some (fileOf pool6 1 #[] #[] 1537 3 #[] #[])
  fields := #[]
  methods := #[]
  instanceTypes := #[]
  staticTypes := #[]
  resolved := Array.replicate 12 none
  statics := none }

def pool7 : Array CpInfo := pool [(2, .class_ 4), (1, u "java/lang/CharSequence"), (42, .class_ 48), (0, u "java/lang/CharSequence$1CodePointIterator"), (10, .class_ 60), (0, u "java/lang/CharSequence$1CharIterator"), (5, .class_ 67), (0, u "java/lang/Object")] 63

/-- java/lang/CharSequence -/
def k7 : Class := { plain "java/lang/CharSequence" (some 0) with
  accessFlags := 1537
  interfaces := #[]
  cf := some (fileOf pool7 2 #[.nestMembers #[47, 59]] #[] 1537 66 #[] #[])
  fields := #[]
  methods := #[]
  instanceTypes := #[]
  staticTypes := #[]
  resolved := Array.replicate 131 none
  statics := none }

def pool8 : Array CpInfo := pool [(1, .class_ 2), (0, u "java/lang/constant/Constable"), (0, .class_ 4), (0, u "java/lang/Object")] 6

/-- java/lang/constant/Constable -/
def k8 : Class := { plain "java/lang/constant/Constable" (some 0) with
  accessFlags := 1537
  interfaces := #[]
  cf := some (fileOf pool8 1 #[] #[] 1537 3 #[] #[])
  fields := #[]
  methods := #[]
  instanceTypes := #[]
  staticTypes := #[]
  resolved := Array.replicate 11 none
  statics := none }

def pool9 : Array CpInfo := pool [(1, .class_ 2), (0, u "java/lang/constant/ConstantDesc"), (0, .class_ 4), (0, u "java/lang/Object")] 32

/-- java/lang/constant/ConstantDesc -/
def k9 : Class := { plain "java/lang/constant/ConstantDesc" (some 0) with
  accessFlags := 1537
  interfaces := #[]
  cf := some (fileOf pool9 1 #[] #[] 1537 3 #[] #[])
  fields := #[]
  methods := #[]
  instanceTypes := #[]
  staticTypes := #[]
  resolved := Array.replicate 37 none
  statics := none }

def pool10 : Array CpInfo := pool [(2, .class_ 4), (1, u "java/lang/Object"), (0, u "<init>"), (0, u "()V"), (3, .class_ 12), (1, u "java/lang/String"), (0, u "value"), (0, u "[B"), (2, u "coder"), (0, u "B"), (2, u "hash"), (0, u "I"), (2, u "hashIsZero"), (0, u "Z"), (13, u "COMPACT_STRINGS"), (534, .class_ 576), (0, u "java/lang/CharSequence"), (22, u "CASE_INSENSITIVE_ORDER"), (0, u "Ljava/util/Comparator;"), (500, u "serialPersistentFields"), (0, u "[Ljava/io/ObjectStreamField;"), (0, .class_ 1104), (0, u "java/lang/String$CaseInsensitiveComparator"), (1, .class_ 1107), (0, u "java/io/Serializable"), (0, .class_ 1109), (0, u "java/lang/Comparable"), (0, .class_ 1111), (0, u "java/lang/constant/Constable"), (0, .class_ 1113), (0, u "java/lang/constant/ConstantDesc"), (2, u "serialVersionUID"), (0, u "J"), (3, u "REPL"), (0, u "C"), (2, u "LATIN1"), (1, u "UTF16")] 323

def k10m0 : Method := { name := "<init>", desc := "()V", sig := { parameters := [], returnType := none }, accessFlags := 1, code := none }
/-- java/lang/String -/
def k10 : Class := { plain "java/lang/String" (some 0) with
  accessFlags := 49
  interfaces := #[5, 6, 7, 8, 9]
  cf := some (fileOf pool10 10 #[.nestMembers #[1103]] #[{ accessFlags := 1, nameIndex := 5, descriptorIndex := 6, attributes := #[] }] 49 2 #[1106, 1108, 575, 1110, 1112] #[{ accessFlags := 18, nameIndex := 13, descriptorIndex := 14, attributes := #[] }, { accessFlags := 18, nameIndex := 17, descriptorIndex := 18, attributes := #[] }, { accessFlags := 2, nameIndex := 21, descriptorIndex := 22, attributes := #[] }, { accessFlags := 2, nameIndex := 25, descriptorIndex := 26, attributes := #[] }, { accessFlags := 26, nameIndex := 1116, descriptorIndex := 1117, attributes := #[] }, { accessFlags := 24, nameIndex := 40, descriptorIndex := 26, attributes := #[] }, { accessFlags := 26, nameIndex := 1101, descriptorIndex := 1102, attributes := #[] }, { accessFlags := 26, nameIndex := 1121, descriptorIndex := 1122, attributes := #[] }, { accessFlags := 25, nameIndex := 599, descriptorIndex := 600, attributes := #[] }, { accessFlags := 24, nameIndex := 1125, descriptorIndex := 18, attributes := #[] }, { accessFlags := 24, nameIndex := 1127, descriptorIndex := 18, attributes := #[] }])
  fields := #[{ name := "value", type := (.array .byte), accessFlags := 18, slot := 0, constantValue := 0 }, { name := "coder", type := .byte, accessFlags := 18, slot := 1, constantValue := 0 }, { name := "hash", type := .int, accessFlags := 2, slot := 2, constantValue := 0 }, { name := "hashIsZero", type := .boolean, accessFlags := 2, slot := 3, constantValue := 0 }, { name := "serialVersionUID", type := .long, accessFlags := 26, slot := 0, constantValue := 0 }, { name := "COMPACT_STRINGS", type := .boolean, accessFlags := 24, slot := 1, constantValue := 0 }, { name := "serialPersistentFields", type := (.array (.object "java/io/ObjectStreamField")), accessFlags := 26, slot := 2, constantValue := 0 }, { name := "REPL", type := .char, accessFlags := 26, slot := 3, constantValue := 0 }, { name := "CASE_INSENSITIVE_ORDER", type := (.object "java/util/Comparator"), accessFlags := 25, slot := 4, constantValue := 0 }, { name := "LATIN1", type := .byte, accessFlags := 24, slot := 5, constantValue := 0 }, { name := "UTF16", type := .byte, accessFlags := 24, slot := 6, constantValue := 0 }]
  methods := #[k10m0]
  instanceTypes := #[(.array .byte), .byte, .int, .boolean]
  staticTypes := #[.long, .boolean, (.array (.object "java/io/ObjectStreamField")), .char, (.object "java/util/Comparator"), .byte, .byte]
  resolved := Array.replicate 1451 none
  statics := none }

def pool11 : Array CpInfo := pool [(1, .class_ 2), (0, u "java/lang/Math"), (1, .class_ 6), (1, u "java/lang/Object"), (0, u "<init>"), (0, u "()V"), (89, .class_ 100), (1, u "java/lang/Math$RandomNumberGeneratorHolder"), (20, u "(JJ)J"), (50, u "negativeZeroFloatBits"), (0, u "J"), (2, u "negativeZeroDoubleBits"), (21, u "max"), (2, u "min"), (43, u "$assertionsDisabled"), (0, u "Z"), (91, u "twoToTheDoubleScaleDown"), (0, u "D"), (4, u "twoToTheDoubleScaleUp"), (9, u "E"), (3, u "PI"), (2, u "TAU"), (2, u "DEGREES_TO_RADIANS"), (0, u "RADIANS_TO_DEGREES")] 94

def k11m0 : Method := { name := "<init>", desc := "()V", sig := { parameters := [], returnType := none }, accessFlags := 2, code := none }
def k11c1 : Code := { maxStack := 4, maxLocals := 4, code := jdk_29_method_66_code, exceptionTable := #[], attributes := #[] }
def k11m1 : Method := { name := "max", desc := "(JJ)J", sig := { parameters := [.long, .long], returnType := some .long }, accessFlags := 9, code := some k11c1 }
def k11c2 : Code := { maxStack := 4, maxLocals := 4, code := jdk_29_method_70_code, exceptionTable := #[], attributes := #[] }
def k11m2 : Method := { name := "min", desc := "(JJ)J", sig := { parameters := [.long, .long], returnType := some .long }, accessFlags := 9, code := some k11c2 }
/-- java/lang/Math -/
def k11 : Class := { plain "java/lang/Math" (some 0) with
  accessFlags := 49
  interfaces := #[]
  cf := some (fileOf pool11 1 #[.nestMembers #[98]] #[{ accessFlags := 2, nameIndex := 7, descriptorIndex := 8, attributes := #[] }, { accessFlags := 9, nameIndex := 198, descriptorIndex := 121, attributes := #[] }, { accessFlags := 9, nameIndex := 201, descriptorIndex := 121, attributes := #[] }] 49 4 #[] #[{ accessFlags := 25, nameIndex := 354, descriptorIndex := 339, attributes := #[] }, { accessFlags := 25, nameIndex := 358, descriptorIndex := 339, attributes := #[] }, { accessFlags := 25, nameIndex := 361, descriptorIndex := 339, attributes := #[] }, { accessFlags := 26, nameIndex := 364, descriptorIndex := 339, attributes := #[] }, { accessFlags := 26, nameIndex := 365, descriptorIndex := 339, attributes := #[] }, { accessFlags := 26, nameIndex := 172, descriptorIndex := 173, attributes := #[] }, { accessFlags := 26, nameIndex := 176, descriptorIndex := 173, attributes := #[] }, { accessFlags := 8, nameIndex := 344, descriptorIndex := 339, attributes := #[] }, { accessFlags := 8, nameIndex := 338, descriptorIndex := 339, attributes := #[] }, { accessFlags := 4120, nameIndex := 245, descriptorIndex := 246, attributes := #[] }])
  fields := #[{ name := "E", type := .double, accessFlags := 25, slot := 0, constantValue := 0 }, { name := "PI", type := .double, accessFlags := 25, slot := 1, constantValue := 0 }, { name := "TAU", type := .double, accessFlags := 25, slot := 2, constantValue := 0 }, { name := "DEGREES_TO_RADIANS", type := .double, accessFlags := 26, slot := 3, constantValue := 0 }, { name := "RADIANS_TO_DEGREES", type := .double, accessFlags := 26, slot := 4, constantValue := 0 }, { name := "negativeZeroFloatBits", type := .long, accessFlags := 26, slot := 5, constantValue := 0 }, { name := "negativeZeroDoubleBits", type := .long, accessFlags := 26, slot := 6, constantValue := 0 }, { name := "twoToTheDoubleScaleUp", type := .double, accessFlags := 8, slot := 7, constantValue := 0 }, { name := "twoToTheDoubleScaleDown", type := .double, accessFlags := 8, slot := 8, constantValue := 0 }, { name := "$assertionsDisabled", type := .boolean, accessFlags := 4120, slot := 9, constantValue := 0 }]
  methods := #[k11m0, k11m1, k11m2]
  instanceTypes := #[]
  staticTypes := #[.double, .double, .double, .double, .double, .long, .long, .double, .double, .boolean]
  resolved := Array.replicate 460 none
  statics := none }

def pool12 : Array CpInfo := pool [(1, u "java/lang/Cloneable"), (0, .class_ 1), (0, u "java/lang/Object"), (0, .class_ 3)] 3

/-- java/lang/Cloneable -/
def k12 : Class := { plain "java/lang/Cloneable" (some 0) with
  accessFlags := 1537
  interfaces := #[]
  cf := some (fileOf pool12 2 #[] #[] 1537 4 #[] #[])
  fields := #[]
  methods := #[]
  instanceTypes := #[]
  staticTypes := #[]
  resolved := Array.replicate 8 none
  statics := none }

/-- the primitive byte -/
def k13 : Class := { plain "byte" none with kind := .primitive 'B', accessFlags := 0x411 }
/-- [B -/
def k14 : Class := { plain "[B" (some 0) with kind := .array 13 .byte, interfaces := #[12, 5], accessFlags := 1041 }

/-- the primitive int -/
def k15 : Class := { plain "int" none with kind := .primitive 'I', accessFlags := 0x411 }
/-- [I -/
def k16 : Class := { plain "[I" (some 0) with kind := .array 15 .int, interfaces := #[12, 5], accessFlags := 1041 }

def heap : Heap := #[]
def classes : Array Class := #[k0, k1, k2, k3, k4, k5, k6, k7, k8, k9, k10, k11, k12, k13, k14, k15, k16]
def interned : List (Array UInt16 × Addr) := []
def slotsUsed : Nat := 0
def theMethod : MethodId := ⟨1, 1⟩
def args0 : Array Value := #[.int 3, .int 8, .int 5, .int 7, .int 9]
def aboutOver (below : List Frame) : State where
  vm := { classes := classes, interned := interned.toArray }
  heap := heap
  slotsUsed := slotsUsed
  threads := #[{ frames := .invoking theMethod args0 :: below }]
def below0 : List Frame := [.native { method := ⟨0, 0⟩, args := #[] }]
def about1 : State := aboutOver below0
def p0 : Program := .bare "" "" ""
def e0 : Env := launch0.env 0 0 0
theorem w_frames : about1.frames = Frame.invoking theMethod args0 :: below0 := rfl
set_option maxRecDepth 65536 in
theorem w_args : argsFit about1.vm theMethod args0 = true := by decide +kernel
set_option maxRecDepth 65536 in
theorem w_heap : heapFits about1 = true := by decide +kernel
set_option maxRecDepth 65536 in
theorem w_runnable : about1.curStatus? = some .runnable := by decide +kernel
set_option maxRecDepth 65536 in
theorem w_alone : about1.alone = true := by decide +kernel
set_option maxRecDepth 65536 in
theorem w_named : about1.methodNamed? x = some theMethod := by decide +kernel
set_option maxRecDepth 65536 in
theorem w_hears : about1.hears theMethod below0 = true := by decide +kernel
set_option maxRecDepth 65536 in
theorem w_ripe : about1.ripe theMethod args0 below0 = true := by decide +kernel
theorem w_running : about1.status = .running := rfl
set_option maxRecDepth 65536 in
theorem w_room : about1.hasRoom e0.platform room_1 = true :=
  launch0.hasRoom_least _ room_1 (by decide +kernel) (by decide +kernel) (by decide +kernel) (by decide +kernel) (by decide +kernel) (by decide +kernel)
theorem allAtoms_all (ts : List Jvm.Cond) (a : Array Jvm.Value) (st : Jvm.State) : (allAtoms ts).before a st = ts.all (fun c => c.before a st) := by
  induction ts with
  | nil => rfl
  | cons c t ih =>
    show (Jvm.Cond.and c (allAtoms t)).before a st = _
    rw [Jvm.Cond.before_and, ih, List.all_cons]
def words1 : List Jvm.Cond := Jvm.Cond.code x code maxLocals ret :: tables_1
/-- a 'code' word, met by the world's own term for the bytes: nothing is compared byte by byte -/
theorem code_word {y : MethodName} {bytes : ByteArray} {mx : Nat} {rt : Option FieldType} {a : Array Value} {s : State} {m : MethodId} {meth : Method} {c : Code} (h1 : s.methodNamed? y = some m) (h2 : s.vm.method? m = some meth) (h3 : meth.code = some c) (h4 : c.code = bytes)
    (h5 : (c.maxLocals == mx && c.exceptionTable.isEmpty && decide (c.maxStack ≤ mostOperands) && decide (meth.sig.returnType = rt) && !meth.locks && decide (parseMethodDescriptor y.desc = some meth.sig)) = true) : (Jvm.Cond.code y bytes mx rt).before a s = true := by
  simp only [Bool.and_eq_true, beq_iff_eq, Bool.not_eq_true', decide_eq_true_eq] at h5
  obtain ⟨⟨⟨⟨⟨g1, g2⟩, g3⟩, g4⟩, g5⟩, g6⟩ := h5
  simp [Cond.before, Cond.holds, Cond.value, h1, h2, h3, h4, g1, g2, g3, g4, g5, g6]
def isCode : Jvm.Cond → Bool
  | .code _ _ _ _ => true
  | _ => false
theorem all_split {L : List Jvm.Cond} {P : Jvm.Cond → Bool} (h1 : L.all (fun c => isCode c || P c) = true) (h2 : ∀ c ∈ L.filter isCode, P c = true) : L.all P = true := by
  refine List.all_eq_true.mpr fun c hc => ?_
  have h := List.all_eq_true.mp h1 c hc
  rcases Bool.eq_false_or_eq_true (isCode c) with hi | hi
  · exact h2 c (List.mem_filter.mpr ⟨hc, hi⟩)
  · simpa [hi] using h
set_option maxRecDepth 65536 in
theorem w_c0 : (Jvm.Cond.code x code maxLocals ret).before args0 about1 = true := code_word (m := ⟨1, 1⟩) (meth := k1m1) (c := k1c1) (by decide +kernel) rfl rfl rfl (by decide +kernel)
set_option maxRecDepth 65536 in
theorem w_c1 : (Jvm.Cond.code ({ cls := "com/example/orabona/orabona/model/FuzzySet$Triangular", name := "<init>", desc := "(Ljava/lang/String;DDD)V" } : Jvm.MethodName) prog_17_method_1_code (8 : Nat) (Option.none : Option Jvm.ClassFile.FieldType)).before args0 about1 = true := code_word (m := ⟨4, 0⟩) (meth := k4m0) (c := k4c0) (by decide +kernel) rfl rfl rfl (by decide +kernel)
set_option maxRecDepth 65536 in
theorem w_c2 : (Jvm.Cond.code ({ cls := "java/lang/Record", name := "<init>", desc := "()V" } : Jvm.MethodName) jdk_30_method_1_code (1 : Nat) (Option.none : Option Jvm.ClassFile.FieldType)).before args0 about1 = true := code_word (m := ⟨2, 0⟩) (meth := k2m0) (c := k2c0) (by decide +kernel) rfl rfl rfl (by decide +kernel)
set_option maxRecDepth 65536 in
theorem w_c3 : (Jvm.Cond.code ({ cls := "java/lang/Object", name := "<init>", desc := "()V" } : Jvm.MethodName) object_method_1_code (1 : Nat) (Option.none : Option Jvm.ClassFile.FieldType)).before args0 about1 = true := code_word (m := ⟨0, 0⟩) (meth := k0m0) (c := k0c0) (by decide +kernel) rfl rfl rfl (by decide +kernel)
set_option maxRecDepth 65536 in
theorem w_c4 : (Jvm.Cond.code ({ cls := "com/example/orabona/orabona/model/FuzzySet$Triangular", name := "degree", desc := "(D)D" } : Jvm.MethodName) prog_17_method_2_code (3 : Nat) (Option.some Jvm.ClassFile.FieldType.double)).before args0 about1 = true := code_word (m := ⟨4, 1⟩) (meth := k4m1) (c := k4c1) (by decide +kernel) rfl rfl rfl (by decide +kernel)
set_option maxRecDepth 65536 in
theorem w_c5 : (Jvm.Cond.code ({ cls := "java/lang/Math", name := "min", desc := "(JJ)J" } : Jvm.MethodName) jdk_29_method_70_code (4 : Nat) (Option.some Jvm.ClassFile.FieldType.long)).before args0 about1 = true := code_word (m := ⟨11, 2⟩) (meth := k11m2) (c := k11c2) (by decide +kernel) rfl rfl rfl (by decide +kernel)
set_option maxRecDepth 65536 in
theorem w_c6 : (Jvm.Cond.code ({ cls := "java/lang/Math", name := "max", desc := "(JJ)J" } : Jvm.MethodName) jdk_29_method_66_code (4 : Nat) (Option.some Jvm.ClassFile.FieldType.long)).before args0 about1 = true := code_word (m := ⟨11, 1⟩) (meth := k11m1) (c := k11c1) (by decide +kernel) rfl rfl rfl (by decide +kernel)
def codes1 : List Jvm.Cond := [Jvm.Cond.code x code maxLocals ret, Jvm.Cond.code ({ cls := "com/example/orabona/orabona/model/FuzzySet$Triangular", name := "<init>", desc := "(Ljava/lang/String;DDD)V" } : Jvm.MethodName) prog_17_method_1_code (8 : Nat) (Option.none : Option Jvm.ClassFile.FieldType), Jvm.Cond.code ({ cls := "java/lang/Record", name := "<init>", desc := "()V" } : Jvm.MethodName) jdk_30_method_1_code (1 : Nat) (Option.none : Option Jvm.ClassFile.FieldType), Jvm.Cond.code ({ cls := "java/lang/Object", name := "<init>", desc := "()V" } : Jvm.MethodName) object_method_1_code (1 : Nat) (Option.none : Option Jvm.ClassFile.FieldType), Jvm.Cond.code ({ cls := "com/example/orabona/orabona/model/FuzzySet$Triangular", name := "degree", desc := "(D)D" } : Jvm.MethodName) prog_17_method_2_code (3 : Nat) (Option.some Jvm.ClassFile.FieldType.double), Jvm.Cond.code ({ cls := "java/lang/Math", name := "min", desc := "(JJ)J" } : Jvm.MethodName) jdk_29_method_70_code (4 : Nat) (Option.some Jvm.ClassFile.FieldType.long), Jvm.Cond.code ({ cls := "java/lang/Math", name := "max", desc := "(JJ)J" } : Jvm.MethodName) jdk_29_method_66_code (4 : Nat) (Option.some Jvm.ClassFile.FieldType.long)]
set_option maxRecDepth 65536 in
theorem codes_eq : words1.filter isCode = codes1 := rfl
theorem w_codes : ∀ c ∈ words1.filter isCode, c.before args0 about1 = true := by
  rw [codes_eq]
  intro c hc
  simp only [codes1, List.mem_cons, List.not_mem_nil, or_false] at hc
  rcases hc with rfl | rfl | rfl | rfl | rfl | rfl | rfl
  · exact w_c0
  · exact w_c1
  · exact w_c2
  · exact w_c3
  · exact w_c4
  · exact w_c5
  · exact w_c6
set_option maxRecDepth 65536 in
theorem w_t1 : (words1.take 24).all (fun c => isCode c || c.before args0 about1) = true := by decide +kernel
set_option maxRecDepth 65536 in
theorem w_t2 : (words1.drop 24).all (fun c => isCode c || c.before args0 about1) = true := by decide +kernel
theorem w_tables : (allAtoms (Jvm.Cond.code x code maxLocals ret :: tables_1)).before args0 about1 = true := by
  rw [allAtoms_all]
  show words1.all (fun c => c.before args0 about1) = true
  refine all_split ?_ w_codes
  rw [← List.take_append_drop 24 words1, List.all_append, w_t1, w_t2]
  rfl
set_option maxRecDepth 65536 in
theorem w_case : (Jvm.Cond.and given_1 narrow_1).before args0 about1 = true := by decide +kernel
theorem w_applies : (headSpec (Jvm.Cond.code x code maxLocals ret :: tables_1) room_1).applies x e0.platform about1 = true :=
  (Spec.applies_iff w_frames).mpr ⟨w_running, w_runnable, w_alone, w_named, w_hears, w_ripe, w_room, w_tables⟩
theorem atStart : AtStart classFile x code maxLocals ret World_1 tables_1 room_1 Calls_1 rest_1 Pre_1 launch0 p0 e0 about1 theMethod args0 below0 :=
  ⟨lists_1, trivial, launch0.admits_env _ _ _, launch0.least_env, fairChoices_fair.cas, fairChoices_fair.clock, w_frames, w_args, w_heap, w_applies, trivial, trivial, w_case⟩
end start1
theorem witness_1 : WitnessClaimed_1 := ⟨start1.p0, start1.e0, start1.about1, start1.theMethod, start1.args0, start1.below0, start1.atStart⟩
end Jvm.Pilot.@@N@@
