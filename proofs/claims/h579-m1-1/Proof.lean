import JvmDerived
import JvmDerived.Pilot.@@N@@Statement
import JvmDerived.Pilot.@@N@@Code
set_option linter.unusedVariables false
set_option linter.unusedSimpArgs false
namespace Jvm.Pilot.@@N@@.Own
open Jvm Jvm.ClassFile Sem Op Lib Jvm.Free Jvm.Stand Jvm.LawKit Jvm.RoadKit
/-- from S the run comes to an end of which P holds -/
def Go (tb : Tables) (e : Env) (below : List Frame) (P : State → Outcome → Prop) (S : State) : Prop :=
  ∃ s₂ o, Steps tb e below S s₂ ∧ s₂.status = .running ∧ Ended s₂ below o ∧ P s₂ o
theorem Go.step {tb : Tables} {e : Env} {below : List Frame} {P : State → Outcome → Prop} {S S' : State}
    (h : ∀ t, Steps tb e below S' t → Steps tb e below S t) (g : Go tb e below P S') : Go tb e below P S := by
  obtain ⟨t, o, h1, h2⟩ := g; exact ⟨t, o, h t h1, h2⟩
theorem Go.tr {tb : Tables} {e : Env} {below : List Frame} {P : State → Outcome → Prop} {S S' : State}
    (h : Steps tb e below S S') (g : Go tb e below P S') : Go tb e below P S := by
  obtain ⟨t, o, h1, h2⟩ := g; exact ⟨t, o, h.trans h1, h2⟩
theorem Go.start {tb : Tables} {e : Env} {below : List Frame} {P₀ : State → Outcome → Prop} {S S' : State} (q : S = S')
    (h : ∀ P : State → Outcome → Prop, (∀ s₂ o, P₀ s₂ o → P s₂ o) → Go tb e below P S') : Go tb e below P₀ S := by
  subst q; exact h P₀ fun _ _ h => h
/-- a value gets a name -/
theorem nm {α : Type} (F : α → Prop) (x : α) (H : ∀ z, z = x → F z) : F x := H x rfl
section Ends
variable {p : Program} {l : Launch} {e : Env} {R : Room} {s : State} {m : MethodId} {args : Array Value} {below : List Frame} {meth : Method} {c : Code} {T : State} {locs : List Loc} {cells slots : Nat}
theorem retGo (X : Stand p l e R s m args below meth c T locs cells slots) (hx : p.tables.exec = Jvm.exec) {P : State → Outcome → Prop} {Q : Option Value → Heap → List Loc → Prop} {kc ks : Nat}
    (hP : ∀ s₂ o, (∃ v L, o = .returned v ∧ Q v s₂.heap L ∧ FrameEnd s o s₂ L kc ks) → P s₂ o) {pc : Nat} {Ls : Array Slot} {w : Value} {t : FieldType} {i : Instr} {rest : List Value} (hret : meth.sig.returnType = some t) (hlk : meth.locks = false) (hn : narrow t w = w)
    (hi : (i = .ireturn ∧ (t = .int ∨ t = .boolean ∨ t = .byte ∨ t = .char ∨ t = .short) ∧ ∃ z, w = .int z) ∨ (i = .lreturn ∧ t = .long ∧ ∃ z, w = .long z) ∨ (i = .dreturn ∧ t = .double ∧ ∃ z, w = .double z) ∨ (i = .freturn ∧ t = .float ∧ ∃ z, w = .float z) ∨ (i = .areturn ∧ t.isReference = true ∧ w.isRef = true))
    (hd : decode c.code pc = .ok (i, 1)) (hc : cells ≤ kc) (hs : slots ≤ ks) (hQ : Q (some w) T.heap locs) : Go p.tables e below P (T.setTop (mkF m pc Ls (w :: rest))) := by
  obtain ⟨fs, hr, hrun, hended, hW, hsame⟩ := X.leave (v := some w) (fun h => by rw [hret] at h; cases h) hlk
  exact ⟨_, _, retOut X hx hret hn hi hd hr, hrun, hended, hP _ _ ⟨_, _, rfl, hQ, ⟨_, rfl⟩, hW, hsame.mono hc hs⟩⟩
theorem voidGo (X : Stand p l e R s m args below meth c T locs cells slots) (hx : p.tables.exec = Jvm.exec) {P : State → Outcome → Prop} {Q : Option Value → Heap → List Loc → Prop} {kc ks : Nat}
    (hP : ∀ s₂ o, (∃ v L, o = .returned v ∧ Q v s₂.heap L ∧ FrameEnd s o s₂ L kc ks) → P s₂ o) {pc : Nat} {Ls : Array Slot} (hret : meth.sig.returnType = none) (hlk : meth.locks = false)
    (hd : decode c.code pc = .ok (.return_, 1)) (hc : cells ≤ kc) (hs : slots ≤ ks) (hQ : Q none T.heap locs) : Go p.tables e below P (T.setTop (mkF m pc Ls [])) := by
  obtain ⟨fs, hr, hrun, hended, hW, hsame⟩ := X.leave (v := none) (fun _ => rfl) hlk
  exact ⟨_, _, X.returnOut hx hret hd hr, hrun, hended, hP _ _ ⟨_, _, rfl, hQ, ⟨_, rfl⟩, hW, hsame.mono hc hs⟩⟩
end Ends
/-! branches: what is compared, as whole numbers -/
def rel : ClassFile.Cond → Int → Int → Prop
  | .eq, a, b => a = b
  | .ne, a, b => ¬ a = b
  | .lt, a, b => a < b
  | .ge, a, b => b ≤ a
  | .gt, a, b => b < a
  | .le, a, b => a ≤ b
theorem icY {cd : ClassFile.Cond} {x y : Int32} (h : rel cd x.toInt y.toInt) : if_icmp.holds cd x y = true := by
  cases cd <;> simp only [rel] at h <;> simp [if_icmp.holds, Int32.lt_iff_toInt_lt, Int32.le_iff_toInt_le, ← Int32.toInt_inj] <;> omega
theorem icN {cd : ClassFile.Cond} {x y : Int32} (h : ¬ rel cd x.toInt y.toInt) : if_icmp.holds cd x y = false := by
  cases cd <;> simp only [rel] at h <;> simp [if_icmp.holds, Int32.lt_iff_toInt_lt, Int32.le_iff_toInt_le, ← Int32.toInt_inj] <;> omega
theorem ifY {cd : ClassFile.Cond} {x : Int32} (h : rel cd x.toInt 0) : ifCond.holds cd x = true := (if0 cd x).trans (icY h)
theorem ifN {cd : ClassFile.Cond} {x : Int32} (h : ¬ rel cd x.toInt 0) : ifCond.holds cd x = false := (if0 cd x).trans (icN h)
theorem lcmp_rel {cd : ClassFile.Cond} {x y : Int64} : rel cd (lcmpW x y).toInt 0 ↔ rel cd x.toInt y.toInt := by
  have h1 : x < y ↔ x.toInt < y.toInt := Int64.lt_iff_toInt_lt
  have h2 : y < x ↔ y.toInt < x.toInt := Int64.lt_iff_toInt_lt
  have h3 : x = y ↔ x.toInt = y.toInt := Int64.toInt_inj.symm
  have e1 : (1 : Int32).toInt = 1 := rfl
  have e2 : (-1 : Int32).toInt = -1 := rfl
  have e3 : (0 : Int32).toInt = 0 := rfl
  unfold lcmpW
  by_cases c1 : x > y
  · rw [if_pos c1, e1]; have := h2.mp c1; cases cd <;> simp only [rel] <;> omega
  · rw [if_neg c1]
    have n1 : ¬ y.toInt < x.toInt := fun q => c1 (h2.mpr q)
    by_cases c2 : x = y
    · rw [if_pos c2, e3]; have q := h3.mp c2; cases cd <;> simp only [rel] <;> first | omega | simp [q]
    · rw [if_neg c2, e2]
      have n2 : ¬ x.toInt = y.toInt := fun q => c2 (h3.mpr q)
      cases cd <;> simp only [rel] <;> omega
theorem lcY {cd : ClassFile.Cond} {x y : Int64} (h : rel cd x.toInt y.toInt) : ifCond.holds cd (lcmpW x y) = true := ifY (lcmp_rel.mpr h)
theorem lcN {cd : ClassFile.Cond} {x y : Int64} (h : ¬ rel cd x.toInt y.toInt) : ifCond.holds cd (lcmpW x y) = false := ifN fun q => h (lcmp_rel.mp q)
theorem cmpV_rel {cd : ClassFile.Cond} {op : CmpOp} {i j : Int} : rel cd (cmpValue (some (compare i j)) op).toInt 0 ↔ rel cd i j := by
  have e1 : (1 : Int32).toInt = 1 := rfl
  have e2 : (-1 : Int32).toInt = -1 := rfl
  have e3 : (0 : Int32).toInt = 0 := rfl
  cases h : compare i j with
  | lt => have := (FP.Core.compare_lt_iff i j).mp h; show rel cd (-1 : Int32).toInt 0 ↔ _; rw [e2]; cases cd <;> simp only [rel] <;> omega
  | eq => have := (FP.Core.compare_eq_iff i j).mp h; show rel cd (0 : Int32).toInt 0 ↔ _; rw [e3]; cases cd <;> simp only [rel] <;> first | omega | simp [this]
  | gt => have := (FP.Core.compare_gt_iff i j).mp h; show rel cd (1 : Int32).toInt 0 ↔ _; rw [e1]; cases cd <;> simp only [rel] <;> omega
theorem dcY {cd : ClassFile.Cond} {op : CmpOp} {r : Option Ordering} {i j : Int} (q : r = some (compare i j)) (h : rel cd i j) : ifCond.holds cd (cmpValue r op) = true := by subst q; exact ifY (cmpV_rel.mpr h)
theorem dcN {cd : ClassFile.Cond} {op : CmpOp} {r : Option Ordering} {i j : Int} (q : r = some (compare i j)) (h : ¬ rel cd i j) : ifCond.holds cd (cmpValue r op) = false := by subst q; exact ifN fun z => h (cmpV_rel.mp z)
end Jvm.Pilot.@@N@@.Own
namespace Jvm.Pilot.@@N@@.Own
open Jvm Jvm.FP Jvm.FP.Core
/-! ## doubles as whole numbers of 2^-1074: what rounding leaves -/
/-- a double's value in units of 2^-1074 -/
def zv (a : UInt64) : Int := zval b64 (val64 a)
/-- a is finite and lies between lo * 2^k and hi * 2^k units -/
def DB (k : Nat) (lo hi : Int) (a : UInt64) : Prop := DFin a ∧ lo * ((2 ^ k : Nat) : Int) ≤ zv a ∧ zv a ≤ hi * ((2 ^ k : Nat) : Int)
/-- a is finite and is i * 2^k units -/
abbrev DE (k : Nat) (i : Int) (a : UInt64) : Prop := DB k i i a
theorem DE.eq {k : Nat} {i : Int} {a : UInt64} (h : DE k i a) : zv a = i * ((2 ^ k : Nat) : Int) := Int.le_antisymm h.2.2 h.2.1
theorem DE.of {k : Nat} {i : Int} {a : UInt64} (hf : DFin a) (h : zv a = i * ((2 ^ k : Nat) : Int)) : DE k i a := ⟨hf, Int.le_of_eq h.symm, Int.le_of_eq h⟩
theorem tn32 {q : Int32} (h0 : 0 ≤ q.toInt) : (q.toBitVec.toNat : Int) = q.toInt := by
  have l := q.toBitVec.isLt
  have e : q.toInt = q.toBitVec.toInt := rfl
  rw [e] at h0 ⊢
  rw [BitVec.toInt_eq_toNat_cond] at h0 ⊢
  split at h0 <;> split <;> omega
theorem nmul {a b : Int} {A B : Nat} (ha : a.natAbs ≤ A) (hb : b.natAbs ≤ B) : (a * b).natAbs ≤ A * B := by rw [Int.natAbs_mul]; exact Nat.mul_le_mul ha hb
theorem le_mul1 {a b : Int} (ha : 0 ≤ a) (hb : 1 ≤ b) : a ≤ a * b := by have := Int.mul_le_mul_of_nonneg_left hb ha; rwa [Int.mul_one] at this
theorem pw_pos (k : Nat) : (0 : Int) < ((2 ^ k : Nat) : Int) := Int.natCast_pos.mpr (Nat.two_pow_pos k)
theorem DB.nn {k : Nat} {lo hi : Int} {a : UInt64} (h : DB k lo hi a) : Jvm.Free.Fl.NoNaN64 a := Jvm.Free.Fl.noNaN64_no.mpr h.1.notNaN
theorem DB.ne {k : Nat} {lo hi : Int} {a : UInt64} (h : DB k lo hi a) : val64 a ≠ .nan := h.1.ne_nan
/-- a number of 53 digits is a double -/
theorem rep {n : Int} {k : Nat} (hn : n.natAbs ≤ 2 ^ 53) (hk : k ≤ 2044) : ∃ s c q, FP.Core.fits b64 (.fin s c q) ∧ zval b64 (.fin s c q) = n * ((2 ^ k : Nat) : Int) := by
  have key : ∀ (n : Int) (k : Nat), n.natAbs < 2 ^ 53 → k ≤ 2045 → ∃ s c q, FP.Core.fits b64 (.fin s c q) ∧ zval b64 (.fin s c q) = n * ((2 ^ k : Nat) : Int) := by
    intro n k hn hk
    have q1 : b64.qmin = -1074 := by decide
    have q2 : b64.qmax = 971 := by decide
    obtain ⟨c', q', h1, h2⟩ := round_exact good_b64 (decide (n < 0)) (c := n.natAbs) (q := b64.qmin + (k : Int)) (show n.natAbs < 2 ^ b64.p from hn) (by omega) (by omega)
    refine ⟨_, c', q', h1 ▸ round_fits good_b64 _, ?_⟩
    show signed (decide (n < 0)) (inUnits c' q' b64.qmin) = _
    rw [h2]
    unfold inUnits
    rw [signed_mul, show (b64.qmin + (k : Int) - b64.qmin).toNat = k by omega]
    congr 1
    unfold signed
    by_cases h : n < 0 <;> simp [h] <;> omega
  by_cases h : n.natAbs < 2 ^ 53
  · exact key n k h (by omega)
  · have e : n.natAbs = 2 ^ 53 := by omega
    have : ∃ m : Int, n = m * 2 ∧ m.natAbs < 2 ^ 53 := by
      rcases Int.natAbs_eq n with q | q
      · exact ⟨2 ^ 52, by rw [q, e]; decide, by decide⟩
      · exact ⟨-2 ^ 52, by rw [q, e]; decide, by decide⟩
    obtain ⟨m, rfl, hm⟩ := this
    obtain ⟨s, c, q, h1, h2⟩ := key m (k + 1) hm (by omega)
    refine ⟨s, c, q, h1, ?_⟩
    rw [h2, Nat.pow_succ, Int.natCast_mul, Int.mul_assoc]
    congr 1
    rw [Int.mul_comm]; rfl
/-- a number between two finite ones is finite -/
theorem fin_between {a : UInt64} {lo hi : Int} {k : Nat} (hl : lo.natAbs ≤ 2 ^ 53) (hh : hi.natAbs ≤ 2 ^ 53) (hk : k ≤ 2044) (hn : val64 a ≠ .nan) (h1 : lo * ((2 ^ k : Nat) : Int) ≤ zv a) (h2 : zv a ≤ hi * ((2 ^ k : Nat) : Int)) : DB k lo hi a := by
  refine ⟨?_, h1, h2⟩
  obtain ⟨s1, c1, q1, f1, e1⟩ := rep hl hk
  obtain ⟨s2, c2, q2, f2, e2⟩ := rep hh hk
  have t1 : zmag b64 (.fin s1 c1 q1) < b64.tails * 2 ^ (b64.exps - 2) := zmag_lt_top good_b64 f1
  have t2 : zmag b64 (.fin s2 c2 q2) < b64.tails * 2 ^ (b64.exps - 2) := zmag_lt_top good_b64 f2
  rw [← e1] at h1
  rw [← e2] at h2
  unfold zv at h1 h2
  cases hv : val64 a with
  | nan => exact absurd hv hn
  | fin s c q => exact ⟨s, c, q, hv⟩
  | inf s =>
    exfalso
    rw [hv] at h1 h2
    have z : zmag b64 (.inf s) = b64.tails * 2 ^ (b64.exps - 2) := rfl
    unfold zval at h1 h2
    rw [z] at h1 h2
    generalize b64.tails * 2 ^ (b64.exps - 2) = top at *
    generalize zmag b64 (.fin s1 c1 q1) = m1 at *
    generalize zmag b64 (.fin s2 c2 q2) = m2 at *
    simp only [sgn] at h1 h2
    cases s <;> cases s1 <;> cases s2 <;> simp only [signed, if_true, Bool.false_eq_true, if_false] at h1 h2 <;> omega
theorem qmin_sub : ((2 ^ (b64.qmin - b64.qmin).toNat : Nat) : Int) = 1 := by rw [Int.sub_self]; rfl
/-- what lies between two numbers of 53 digits is rounded to something between them -/
theorem round_between {s : Bool} {c : Nat} {q : Int} {lo hi : Int} {k : Nat} {a : UInt64} (ha : val64 a = round b64 (.fin s c q)) (hl : lo.natAbs ≤ 2 ^ 53) (hh : hi.natAbs ≤ 2 ^ 53) (hk : k ≤ 2044) {e0 : Int} (h0 : e0 ≤ b64.qmin) (h0e : e0 ≤ q)
    (h1 : lo * ((2 ^ k : Nat) : Int) * ((2 ^ (b64.qmin - e0).toNat : Nat) : Int) ≤ signed s (inUnits c q e0)) (h2 : signed s (inUnits c q e0) ≤ hi * ((2 ^ k : Nat) : Int) * ((2 ^ (b64.qmin - e0).toNat : Nat) : Int)) : DB k lo hi a := by
  obtain ⟨s1, c1, q1, f1, e1⟩ := rep hl hk
  obtain ⟨s2, c2, q2, f2, e2⟩ := rep hh hk
  have hn : val64 a ≠ .nan := by rw [ha]; exact roundRatio_ne_nan _ _ _ _ _
  refine fin_between hl hh hk hn ?_ ?_
  · unfold zv; rw [ha, ← e1]; exact zval_round_ge good_b64 f1 (by simp) h0 h0e (by rw [e1]; exact h1)
  · unfold zv; rw [ha, ← e2]; exact zval_round_le good_b64 f2 (by simp) h0 h0e (by rw [e2]; exact h2)
theorem add_b {a b : UInt64} {k : Nat} {l1 h1 l2 h2 lo hi : Int} (ha : DB k l1 h1 a) (hb : DB k l2 h2 b) (hlo : lo ≤ l1 + l2) (hhi : h1 + h2 ≤ hi) (hl : lo.natAbs ≤ 2 ^ 53) (hh : hi.natAbs ≤ 2 ^ 53) (hk : k ≤ 2044) : DB k lo hi (FP.dadd a b) := by
  obtain ⟨⟨s, c, q, va⟩, a1, a2⟩ := ha
  obtain ⟨⟨t, d, r, vb⟩, b1, b2⟩ := hb
  have hv := val64_dadd a b
  have fa := val64_fits a
  have fb := val64_fits b
  unfold zv at a1 a2 b1 b2
  rw [va] at hv fa a1 a2
  rw [vb] at hv fb b1 b2
  obtain ⟨sg, n, e, h3, h4, h5⟩ := sum_units fa fb
  rw [h3] at hv
  have hp := pw_pos k
  refine round_between hv hl hh hk (e0 := b64.qmin) (Int.le_refl _) h4 ?_ ?_
  · rw [h5, qmin_sub, Int.mul_one]
    have := Int.mul_le_mul_of_nonneg_right hlo (Int.le_of_lt hp)
    rw [Int.add_mul] at this
    omega
  · rw [h5, qmin_sub, Int.mul_one]
    have := Int.mul_le_mul_of_nonneg_right hhi (Int.le_of_lt hp)
    rw [Int.add_mul] at this
    omega
theorem zv_dneg {a : UInt64} : zv (FP.dneg a) = -zv a := by unfold zv; rw [FP.val64_dneg, zval_negate]
theorem neg_b {a : UInt64} {k : Nat} {lo hi : Int} (ha : DB k lo hi a) : DB k (-hi) (-lo) (FP.dneg a) := by
  refine ⟨?_, ?_, ?_⟩
  · obtain ⟨s, c, q, va⟩ := ha.1
    exact ⟨!s, c, q, by rw [FP.val64_dneg, va]; rfl⟩
  · rw [zv_dneg, Int.neg_mul]; have := ha.2.2; omega
  · rw [zv_dneg, Int.neg_mul]; have := ha.2.1; omega
theorem sub_b {a b : UInt64} {k : Nat} {l1 h1 l2 h2 lo hi : Int} (ha : DB k l1 h1 a) (hb : DB k l2 h2 b) (hlo : lo ≤ l1 - h2) (hhi : h1 - l2 ≤ hi) (hl : lo.natAbs ≤ 2 ^ 53) (hh : hi.natAbs ≤ 2 ^ 53) (hk : k ≤ 2044) : DB k lo hi (FP.dsub a b) := by
  have e : FP.dsub a b = FP.dadd a (FP.dneg b) := by
    rw [FP.dneg_core hb.1.notNaN]; exact dsub_eq a b
  rw [e]
  exact add_b ha (neg_b hb) (by omega) (by omega) hl hh hk
theorem pw_1074 : ((2 ^ (b64.qmin - 2 * b64.qmin).toNat : Nat) : Int) = ((2 ^ 1074 : Nat) : Int) := by
  rw [show (b64.qmin - 2 * b64.qmin).toNat = 1074 by decide]
/-- the exact product of the two lies between -/
theorem mul_z {a b : UInt64} {k : Nat} {lo hi : Int} (fa : DFin a) (fb : DFin b) (h1 : lo * ((2 ^ k : Nat) : Int) * ((2 ^ 1074 : Nat) : Int) ≤ zv a * zv b) (h2 : zv a * zv b ≤ hi * ((2 ^ k : Nat) : Int) * ((2 ^ 1074 : Nat) : Int)) (hl : lo.natAbs ≤ 2 ^ 53) (hh : hi.natAbs ≤ 2 ^ 53) (hk : k ≤ 2044) : DB k lo hi (FP.dmul a b) := by
  obtain ⟨s, c, q, va⟩ := fa
  obtain ⟨t, d, r, vb⟩ := fb
  have hv := val64_dmul a b
  have fa := val64_fits a
  have fb := val64_fits b
  unfold zv at h1 h2
  rw [va] at hv fa h1 h2
  rw [vb] at hv fb h1 h2
  obtain ⟨g1, g2, g3⟩ := product_units fa fb
  rw [g1] at hv
  have e : signed (s != t) (inUnits (c * d) (q + r) (2 * b64.qmin)) = zval b64 (.fin s c q) * zval b64 (.fin t d r) := by
    rw [g3, signed_xor]; rfl
  refine round_between hv hl hh hk (e0 := 2 * b64.qmin) (by decide) g2 ?_ ?_
  · rw [e, pw_1074]; exact h1
  · rw [e, pw_1074]; exact h2
theorem pw_add (a b : Nat) : ((2 ^ (a + b) : Nat) : Int) = ((2 ^ a : Nat) : Int) * ((2 ^ b : Nat) : Int) := by rw [Nat.pow_add, Int.natCast_mul]
theorem mul_e {a b : UInt64} {k k1 k2 : Nat} {i j n : Int} (ha : DE k1 i a) (hb : DE k2 j b) (hk : k1 + k2 = k + 1074) (hn : i * j = n) (hh : n.natAbs ≤ 2 ^ 53) (hk' : k ≤ 2044) : DE k n (FP.dmul a b) := by
  have e : zv a * zv b = n * ((2 ^ k : Nat) : Int) * ((2 ^ 1074 : Nat) : Int) := by
    rw [ha.eq, hb.eq, ← hn, Int.mul_assoc (i * j), ← pw_add, ← hk, pw_add]
    simp only [Int.mul_assoc, Int.mul_left_comm]
  exact mul_z ha.1 hb.1 (Int.le_of_eq e.symm) (Int.le_of_eq e) hh hh hk'
/-- a bounded one times a known one that isn't negative -/
theorem mul_b {a b : UInt64} {k k1 k2 : Nat} {l1 h1 j lo hi : Int} (ha : DB k1 l1 h1 a) (hb : DE k2 j b) (hj : 0 ≤ j) (hk : k1 + k2 = k + 1074) (hlo : lo ≤ l1 * j) (hhi : h1 * j ≤ hi) (hl : lo.natAbs ≤ 2 ^ 53) (hh : hi.natAbs ≤ 2 ^ 53) (hk' : k ≤ 2044) : DB k lo hi (FP.dmul a b) := by
  have p1 := pw_pos k1
  have p2 := pw_pos k2
  have hz : 0 ≤ zv b := by rw [hb.eq]; exact Int.mul_nonneg hj (Int.le_of_lt p2)
  have e : ∀ x : Int, x * j * ((2 ^ k : Nat) : Int) * ((2 ^ 1074 : Nat) : Int) = x * ((2 ^ k1 : Nat) : Int) * zv b := fun x => by
    rw [hb.eq, Int.mul_assoc (x * j), ← pw_add, ← hk, pw_add]
    simp only [Int.mul_assoc, Int.mul_left_comm]
  have up : ∀ {x y : Int}, x ≤ y → x * ((2 ^ k : Nat) : Int) * ((2 ^ 1074 : Nat) : Int) ≤ y * ((2 ^ k : Nat) : Int) * ((2 ^ 1074 : Nat) : Int) := fun h =>
    Int.mul_le_mul_of_nonneg_right (Int.mul_le_mul_of_nonneg_right h (Int.le_of_lt (pw_pos _))) (Int.le_of_lt (pw_pos _))
  refine mul_z ha.1 hb.1 ?_ ?_ hl hh hk'
  · refine Int.le_trans (up hlo) ?_
    rw [e]; exact Int.mul_le_mul_of_nonneg_right ha.2.1 hz
  · refine Int.le_trans ?_ (up hhi)
    rw [e]; exact Int.mul_le_mul_of_nonneg_right ha.2.2 hz
theorem pw3 {A B C D E : Nat} (c : Nat) (h : A + B = C + D + E) : c * 2 ^ A * 2 ^ B = c * 2 ^ C * 2 ^ D * 2 ^ E := by
  rw [Nat.mul_assoc, ← Nat.pow_add, h, Nat.pow_add, Nat.pow_add, ← Nat.mul_assoc, ← Nat.mul_assoc]
theorem ev_aux (V : Int) (n d y : Nat) : V * ((2 ^ n * d : Nat) : Int) * ((2 ^ y : Nat) : Int) = V * ((d * 2 ^ y : Nat) : Int) * ((2 ^ n : Nat) : Int) := by
  rw [Int.natCast_mul, Int.natCast_mul]
  generalize ((2 ^ n : Nat) : Int) = x
  generalize ((2 ^ y : Nat) : Int) = z
  simp only [Int.mul_assoc, Int.mul_comm, Int.mul_left_comm]
/-- the quotient, with signs -/
theorem ratio_le {s : Bool} {A B : Nat} {e e0 : Int} {V : Datum} (hB : 0 < B) (hV : FP.Core.fits b64 V) (hn : V ≠ .nan) (h0 : e0 ≤ b64.qmin) (h0e : e0 ≤ e)
    (h : signed s (inUnits A e e0) ≤ zval b64 V * ((2 ^ (b64.qmin - e0).toNat * B : Nat) : Int)) : zval b64 (roundRatio b64 s A B e) ≤ zval b64 V := by
  have hle := zmag_roundRatio_le good_b64 (s := s) (A := A) hB hV hn h0 h0e
  have hge := zmag_roundRatio_ge good_b64 (s := s) (A := A) hB hV h0 h0e
  rw [Nat.mul_assoc] at hle hge
  have hP : 0 < 2 ^ (b64.qmin - e0).toNat * B := Nat.mul_pos (Nat.two_pow_pos _) hB
  unfold zval at h ⊢
  rw [sgn_roundRatio]
  rw [← signed_mul] at h
  have hz : zmag b64 V * (2 ^ (b64.qmin - e0).toNat * B) = 0 → zmag b64 V = 0 := by
    intro h
    rcases Nat.mul_eq_zero.mp h with h | h <;> omega
  generalize zmag b64 V * (2 ^ (b64.qmin - e0).toNat * B) = vP at *
  generalize sgn V = t at *
  cases s <;> cases t <;> simp only [signed, if_true, Bool.false_eq_true, if_false] at h ⊢
  · have := hle (by omega); omega
  · have := hle (by omega); have := hz (by omega); omega
  · omega
  · have := hge (by omega); omega
theorem ratio_ge {s : Bool} {A B : Nat} {e e0 : Int} {V : Datum} (hB : 0 < B) (hV : FP.Core.fits b64 V) (hn : V ≠ .nan) (h0 : e0 ≤ b64.qmin) (h0e : e0 ≤ e)
    (h : zval b64 V * ((2 ^ (b64.qmin - e0).toNat * B : Nat) : Int) ≤ signed s (inUnits A e e0)) : zval b64 V ≤ zval b64 (roundRatio b64 s A B e) := by
  have h1 := ratio_le (s := !s) (A := A) (B := B) (e := e) (V := negate V) hB (negate_fits hV) (negate_ne_nan hn) h0 h0e (by
    rw [zval_negate, Int.neg_mul]
    have : signed (!s) (inUnits A e e0) = -signed s (inUnits A e e0) := by cases s <;> simp [signed]
    rw [this]; omega)
  rw [zval_negate, ← negate_roundRatio, zval_negate] at h1
  omega
/-- the quotient by a positive number: no NaN, and at the least, at the most, what is so when multiplied back -/
theorem div_zz {a b : UInt64} (fa : DFin a) (fb : DFin b) (hb : 0 < zv b) : val64 (FP.ddiv a b) ≠ .nan ∧
    (∀ {k : Nat} {lo : Int}, lo.natAbs ≤ 2 ^ 53 → k ≤ 2044 → lo * ((2 ^ k : Nat) : Int) * zv b ≤ zv a * ((2 ^ 1074 : Nat) : Int) → lo * ((2 ^ k : Nat) : Int) ≤ zv (FP.ddiv a b)) ∧
    (∀ {k : Nat} {hi : Int}, hi.natAbs ≤ 2 ^ 53 → k ≤ 2044 → zv a * ((2 ^ 1074 : Nat) : Int) ≤ hi * ((2 ^ k : Nat) : Int) * zv b → zv (FP.ddiv a b) ≤ hi * ((2 ^ k : Nat) : Int)) := by
  obtain ⟨s, c, q, va⟩ := fa
  obtain ⟨t, d, r, vb⟩ := fb
  have hv := val64_ddiv a b
  have fa := val64_fits a
  have fb := val64_fits b
  have zea : zv a = zval b64 (.fin s c q) := by unfold zv; rw [va]
  have zeb : zv b = zval b64 (.fin t d r) := by unfold zv; rw [vb]
  rw [zea, zeb]
  rw [zeb] at hb
  rw [va] at hv fa
  rw [vb] at hv fb
  have qn : b64.qmin = -1074 := by decide
  have qx : b64.qmax = 971 := by decide
  have fa2 := fa.2.1
  have fb2 := fb.2.1
  have fb3 := fb.2.2.1
  have zb : zval b64 (.fin t d r) = signed t (d * 2 ^ (r - b64.qmin).toNat) := rfl
  have za : zval b64 (.fin s c q) = signed s (c * 2 ^ (q - b64.qmin).toNat) := rfl
  have hd : 0 < d := by
    refine Nat.pos_of_ne_zero fun e => ?_
    rw [zb, e, Nat.zero_mul, signed_zero] at hb
    omega
  have ht : t = false := by
    cases t with
    | false => rfl
    | true => rw [zb] at hb; simp only [signed, if_true] at hb; omega
  subst ht
  have hq : quotient b64 (.fin s c q) (.fin false d r) = roundRatio b64 s c d (q - r) := by
    show (if d = 0 then _ else roundRatio b64 (s != false) c d (q - r)) = _
    rw [if_neg (by omega)]; cases s <;> rfl
  rw [hq] at hv
  have hn : val64 (Core.ddiv a b) ≠ .nan := by rw [hv]; exact roundRatio_ne_nan _ _ _ _ _
  -- both sides times 2^(r - qmin)
  have hP := pw_pos (r - b64.qmin).toNat
  have ex : signed s (inUnits c (q - r) (2 * b64.qmin)) * ((2 ^ (r - b64.qmin).toNat : Nat) : Int) = zval b64 (.fin s c q) * ((2 ^ 1074 : Nat) : Int) * ((2 ^ 1074 : Nat) : Int) := by
    rw [za, ← signed_mul, ← signed_mul, ← signed_mul]
    exact congrArg (signed s) (pw3 (A := (q - r - 2 * b64.qmin).toNat) (D := 1074) (E := 1074) c (by omega))
  have ev : ∀ V : Int, V * ((2 ^ (b64.qmin - 2 * b64.qmin).toNat * d : Nat) : Int) * ((2 ^ (r - b64.qmin).toNat : Nat) : Int) = V * zval b64 (.fin false d r) * ((2 ^ 1074 : Nat) : Int) := fun V => by
    rw [zb, show (b64.qmin - 2 * b64.qmin).toNat = 1074 by decide]
    exact ev_aux V 1074 d _
  have p1074 := pw_pos 1074
  refine ⟨hn, fun {k lo} hl hk h1 => ?_, fun {k hi} hh hk h2 => ?_⟩
  · obtain ⟨s1, c1, q1, f1, e1⟩ := rep hl hk
    unfold zv; rw [hv, ← e1]
    refine ratio_ge hd f1 (by simp) (e0 := 2 * b64.qmin) (by decide) (by omega) ?_
    refine Int.le_of_mul_le_mul_right ?_ hP
    rw [ev, ex, e1]
    exact Int.mul_le_mul_of_nonneg_right h1 (Int.le_of_lt p1074)
  · obtain ⟨s2, c2, q2, f2, e2⟩ := rep hh hk
    unfold zv; rw [hv, ← e2]
    refine ratio_le hd f2 (by simp) (e0 := 2 * b64.qmin) (by decide) (by omega) ?_
    refine Int.le_of_mul_le_mul_right ?_ hP
    rw [ev, ex, e2]
    exact Int.mul_le_mul_of_nonneg_right h2 (Int.le_of_lt p1074)
/-- between lo and hi -/
theorem div_z {a b : UInt64} {k : Nat} {lo hi : Int} (fa : DFin a) (fb : DFin b) (hb : 0 < zv b) (h1 : lo * ((2 ^ k : Nat) : Int) * zv b ≤ zv a * ((2 ^ 1074 : Nat) : Int)) (h2 : zv a * ((2 ^ 1074 : Nat) : Int) ≤ hi * ((2 ^ k : Nat) : Int) * zv b) (hl : lo.natAbs ≤ 2 ^ 53) (hh : hi.natAbs ≤ 2 ^ 53) (hk : k ≤ 2044) : DB k lo hi (FP.ddiv a b) := by
  obtain ⟨n, ge, le⟩ := div_zz fa fb hb
  exact fin_between hl hh hk n (ge hl hk h1) (le hh hk h2)
/-- the quotient of two known numbers, the second one positive -/
theorem div_b {a b : UInt64} {k k1 k2 : Nat} {i j lo hi : Int} (ha : DE k1 i a) (hb : DE k2 j b) (hj : 0 < j) (hk : k1 + 1074 = k + k2) (hlo : lo * j ≤ i) (hhi : i ≤ hi * j) (hl : lo.natAbs ≤ 2 ^ 53) (hh : hi.natAbs ≤ 2 ^ 53) (hk' : k ≤ 2044) : DB k lo hi (FP.ddiv a b) := by
  have p2 := pw_pos k2
  have e : ∀ x : Int, x * ((2 ^ k : Nat) : Int) * zv b = x * j * ((2 ^ (k1 + 1074) : Nat) : Int) := fun x => by
    rw [hb.eq, hk, pw_add]
    simp only [Int.mul_assoc, Int.mul_left_comm]
  have e2 : zv a * ((2 ^ 1074 : Nat) : Int) = i * ((2 ^ (k1 + 1074) : Nat) : Int) := by rw [ha.eq, pw_add, Int.mul_assoc]
  refine div_z ha.1 hb.1 (by rw [hb.eq]; exact Int.mul_pos hj p2) ?_ ?_ hl hh hk'
  · rw [e, e2]; exact Int.mul_le_mul_of_nonneg_right hlo (Int.le_of_lt (pw_pos _))
  · rw [e, e2]; exact Int.mul_le_mul_of_nonneg_right hhi (Int.le_of_lt (pw_pos _))
theorem div_e {a b : UInt64} {k k1 k2 : Nat} {i j n : Int} (ha : DE k1 i a) (hb : DE k2 j b) (hj : 0 < j) (hk : k1 + 1074 = k + k2) (hn : n * j = i) (hh : n.natAbs ≤ 2 ^ 53) (hk' : k ≤ 2044) : DE k n (FP.ddiv a b) :=
  div_b ha hb hj hk (Int.le_of_eq hn) (Int.le_of_eq hn.symm) hh hh hk'
theorem add_e {a b : UInt64} {k : Nat} {i j n : Int} (ha : DE k i a) (hb : DE k j b) (hn : i + j = n) (hh : n.natAbs ≤ 2 ^ 53) (hk : k ≤ 2044) : DE k n (FP.dadd a b) := add_b ha hb (Int.le_of_eq hn.symm) (Int.le_of_eq hn) hh hh hk
theorem sub_e {a b : UInt64} {k : Nat} {i j n : Int} (ha : DE k i a) (hb : DE k j b) (hn : i - j = n) (hh : n.natAbs ≤ 2 ^ 53) (hk : k ≤ 2044) : DE k n (FP.dsub a b) := sub_b ha hb (Int.le_of_eq hn.symm) (Int.le_of_eq hn) hh hh hk
theorem i2d_e (x : Int32) : DE 1074 x.toInt (FP.i2d x) := DE.of (Core.i2d_fin x) (DInt_zval (i2d_int x))
theorem l2d_e {x : Int64} (h : x.toInt.natAbs ≤ 2 ^ 53) : DE 1074 x.toInt (FP.l2d x) := DE.of (Core.l2d_fin x) (DInt_zval (l2d_int h))
theorem zero_e (k : Nat) : DE k 0 FP.dconst0 := DE.of ⟨_, _, _, rfl⟩ (by rw [Int.zero_mul]; exact zval64_zero)
/-- in smaller units -/
theorem DB.down {a : UInt64} {k : Nat} {lo hi : Int} (h : DB k lo hi a) {k' n : Nat} (hk : k = k' + n) : DB k' (lo * ((2 ^ n : Nat) : Int)) (hi * ((2 ^ n : Nat) : Int)) a := by
  subst hk
  refine ⟨h.1, ?_, ?_⟩
  · have := h.2.1; rw [Nat.add_comm, pw_add, ← Int.mul_assoc] at this; exact this
  · have := h.2.2; rw [Nat.add_comm, pw_add, ← Int.mul_assoc] at this; exact this
/-- the quotient from below alone -/
theorem div_ge {a b : UInt64} {k k1 k2 : Nat} {i j lo : Int} (ha : DE k1 i a) (hb : DE k2 j b) (hj : 0 < j) (hk : k1 + 1074 = k + k2) (hlo : lo * j ≤ i) (hl : lo.natAbs ≤ 2 ^ 53) (hk' : k ≤ 2044) : lo * ((2 ^ k : Nat) : Int) ≤ zv (FP.ddiv a b) := by
  have p2 := pw_pos k2
  have e : ∀ x : Int, x * ((2 ^ k : Nat) : Int) * zv b = x * j * ((2 ^ (k1 + 1074) : Nat) : Int) := fun x => by
    rw [hb.eq, hk, pw_add]
    simp only [Int.mul_assoc, Int.mul_left_comm]
  have e2 : zv a * ((2 ^ 1074 : Nat) : Int) = i * ((2 ^ (k1 + 1074) : Nat) : Int) := by rw [ha.eq, pw_add, Int.mul_assoc]
  refine (div_zz ha.1 hb.1 (by rw [hb.eq]; exact Int.mul_pos hj p2)).2.1 hl hk' ?_
  rw [e, e2]; exact Int.mul_le_mul_of_nonneg_right hlo (Int.le_of_lt (pw_pos _))
/-- in greater units -/
theorem DB.up {a : UInt64} {k : Nat} {lo hi : Int} {n : Nat} (h : DB k (lo * ((2 ^ n : Nat) : Int)) (hi * ((2 ^ n : Nat) : Int)) a) : DB (k + n) lo hi a := by
  refine ⟨h.1, ?_, ?_⟩
  · have := h.2.1; rw [Int.mul_assoc, ← pw_add, Nat.add_comm] at this; exact this
  · have := h.2.2; rw [Int.mul_assoc, ← pw_add, Nat.add_comm] at this; exact this
/-- the product of two known numbers, between two that lie on a grid 2^g times as coarse -/
theorem mul_g {a b : UInt64} {k k1 k2 g : Nat} {i j lo hi : Int} (ha : DE k1 i a) (hb : DE k2 j b) (hk : k1 + k2 + g = k + 1074) (hlo : lo * ((2 ^ g : Nat) : Int) ≤ i * j) (hhi : i * j ≤ hi * ((2 ^ g : Nat) : Int)) (hl : lo.natAbs ≤ 2 ^ 53) (hh : hi.natAbs ≤ 2 ^ 53) (hk' : k ≤ 2044) : DB k lo hi (FP.dmul a b) := by
  have e : zv a * zv b = i * j * ((2 ^ (k1 + k2) : Nat) : Int) := by
    rw [ha.eq, hb.eq, pw_add]
    simp only [Int.mul_assoc, Int.mul_left_comm]
  have e2 : ∀ x : Int, x * ((2 ^ k : Nat) : Int) * ((2 ^ 1074 : Nat) : Int) = x * ((2 ^ g : Nat) : Int) * ((2 ^ (k1 + k2) : Nat) : Int) := fun x => by
    rw [Int.mul_assoc, ← pw_add, ← hk, Nat.add_comm, pw_add, ← Int.mul_assoc]
  refine mul_z ha.1 hb.1 ?_ ?_ hl hh hk'
  · rw [e, e2]; exact Int.mul_le_mul_of_nonneg_right hlo (Int.le_of_lt (pw_pos _))
  · rw [e, e2]; exact Int.mul_le_mul_of_nonneg_right hhi (Int.le_of_lt (pw_pos _))
theorem DB.wide {a : UInt64} {k : Nat} {lo hi lo' hi' : Int} (h : DB k lo hi a) (h1 : lo' ≤ lo) (h2 : hi ≤ hi') : DB k lo' hi' a :=
  ⟨h.1, Int.le_trans (Int.mul_le_mul_of_nonneg_right h1 (Int.le_of_lt (pw_pos k))) h.2.1, Int.le_trans h.2.2 (Int.mul_le_mul_of_nonneg_right h2 (Int.le_of_lt (pw_pos k)))⟩
theorem DE.cmp {a b : UInt64} {k : Nat} {i j : Int} (ha : DE k i a) (hb : DE k j b) : FP.dcmp a b = some (compare i j) := by
  rw [show FP.dcmp a b = some (compare (zv a) (zv b)) from dcmp_zval ha.ne hb.ne, ha.eq, hb.eq, compare_mul_pos _ _ _ (pw_pos k)]
theorem DB.lt {a b : UInt64} {k : Nat} {l1 h1 l2 h2 : Int} (ha : DB k l1 h1 a) (hb : DB k l2 h2 b) (h : h1 < l2) : FP.dcmp a b = some .lt := by
  rw [show FP.dcmp a b = some (compare (zv a) (zv b)) from dcmp_zval ha.ne hb.ne]
  congr 1
  rw [compare_lt_iff]
  have := Int.mul_lt_mul_of_pos_right h (pw_pos k)
  have := ha.2.2; have := hb.2.1
  omega
theorem DB.gt {a b : UInt64} {k : Nat} {l1 h1 l2 h2 : Int} (ha : DB k l1 h1 a) (hb : DB k l2 h2 b) (h : h2 < l1) : FP.dcmp a b = some .gt := by
  rw [show FP.dcmp a b = some (compare (zv a) (zv b)) from dcmp_zval ha.ne hb.ne]
  congr 1
  rw [compare_gt_iff]
  have := Int.mul_lt_mul_of_pos_right h (pw_pos k)
  have := ha.2.1; have := hb.2.2
  omega
/-- two doubles of one value that isn't nought are one -/
theorem DE.uniq {a b : UInt64} {k : Nat} {i : Int} (ha : DE k i a) (hb : DE k i b) (hi : i ≠ 0) : a = b := by
  have h1 := dcmp_key ha.ne hb.ne
  rw [dcmp_zval ha.ne hb.ne] at h1
  have e : zval b64 (val64 a) = zval b64 (val64 b) := (ha.eq).trans hb.eq.symm
  have h2 := Option.some.inj h1
  rw [(compare_eq_iff _ _).mpr e] at h2
  have h3 := (compare_eq_iff _ _).mp h2.symm
  have nz : ∀ {c : UInt64}, DE k i c → dkey c ≠ 0 := fun {c} hc h0 => by
    have q := dcmp_key hc.ne (b := 0) (by rw [val64_zero]; simp)
    rw [dcmp_zval hc.ne (by rw [val64_zero]; simp), zval64_zero] at q
    have q2 := Option.some.inj q
    have z : dkey 0 = 0 := by decide
    rw [h0, z, (compare_eq_iff (0 : Int) 0).mpr rfl] at q2
    have q3 := (compare_eq_iff _ _).mp q2
    have q4 : zv c = 0 := q3
    rw [hc.eq] at q4
    rcases Int.mul_eq_zero.mp q4 with q5 | q5
    · exact hi q5
    · have := pw_pos k; omega
  have n1 := nz ha
  have n2 := nz hb
  unfold dkey at h3 n1 n2
  apply UInt64.toNat_inj.mp
  have l1 := a.toNat_lt; have l2 := b.toNat_lt
  split at h3 <;> split at h3 <;> simp_all <;> omega
end Jvm.Pilot.@@N@@.Own
namespace Jvm.Pilot.@@N@@.Own
open Jvm Jvm.ClassFile Sem Op Lib Jvm.Free Jvm.Stand Jvm.LawKit Jvm.RoadKit
theorem iand_v {tb : Tables} [Ours tb] {e : Env} {below : List Frame} {T target : State} {m : MethodId} {c : Code} {g : JFrame} (h : At T m c below) (hx : tb.exec = Jvm.exec) (hg : g.method = m) {x : Int32} {y : Int32} {v : Int32} {rest : List Value} (hd : decode c.code g.pc = .ok (.iand, 1)) (hs : g.stack = .int y :: .int x :: rest) (hv : x &&& y = v)
    (hr : Steps tb e below (T.setTop { g with pc := g.pc + 1, stack := .int v :: rest }) target) : Steps tb e below (T.setTop g) target := by subst hv; exact XS.iand h hx hg hd hs hr
theorem irem_v {tb : Tables} [Ours tb] {e : Env} {below : List Frame} {T target : State} {m : MethodId} {c : Code} {g : JFrame} (h : At T m c below) (hx : tb.exec = Jvm.exec) (hg : g.method = m) {x : Int32} {y : Int32} {v : Int32} {rest : List Value} (hd : decode c.code g.pc = .ok (.irem, 1)) (hs : g.stack = .int y :: .int x :: rest) (hy : ¬ y = 0) (hv : x % y = v)
    (hr : Steps tb e below (T.setTop { g with pc := g.pc + 1, stack := .int v :: rest }) target) : Steps tb e below (T.setTop g) target := by subst hv; exact XS.irem h hx hg hd hs hy (by rw [irem_eq_mod]; exact hr)
theorem iadd_v {tb : Tables} [Ours tb] {e : Env} {below : List Frame} {T target : State} {m : MethodId} {c : Code} {g : JFrame} (h : At T m c below) (hx : tb.exec = Jvm.exec) (hg : g.method = m) {x : Int32} {y : Int32} {v : Int32} {rest : List Value} (hd : decode c.code g.pc = .ok (.iadd, 1)) (hs : g.stack = .int y :: .int x :: rest) (hv : x + y = v)
    (hr : Steps tb e below (T.setTop { g with pc := g.pc + 1, stack := .int v :: rest }) target) : Steps tb e below (T.setTop g) target := by subst hv; exact XS.iadd h hx hg hd hs hr
theorem isub_v {tb : Tables} [Ours tb] {e : Env} {below : List Frame} {T target : State} {m : MethodId} {c : Code} {g : JFrame} (h : At T m c below) (hx : tb.exec = Jvm.exec) (hg : g.method = m) {x : Int32} {y : Int32} {v : Int32} {rest : List Value} (hd : decode c.code g.pc = .ok (.isub, 1)) (hs : g.stack = .int y :: .int x :: rest) (hv : x - y = v)
    (hr : Steps tb e below (T.setTop { g with pc := g.pc + 1, stack := .int v :: rest }) target) : Steps tb e below (T.setTop g) target := by subst hv; exact XS.isub h hx hg hd hs hr
theorem imul_v {tb : Tables} [Ours tb] {e : Env} {below : List Frame} {T target : State} {m : MethodId} {c : Code} {g : JFrame} (h : At T m c below) (hx : tb.exec = Jvm.exec) (hg : g.method = m) {x : Int32} {y : Int32} {v : Int32} {rest : List Value} (hd : decode c.code g.pc = .ok (.imul, 1)) (hs : g.stack = .int y :: .int x :: rest) (hv : x * y = v)
    (hr : Steps tb e below (T.setTop { g with pc := g.pc + 1, stack := .int v :: rest }) target) : Steps tb e below (T.setTop g) target := by subst hv; exact XS.imul h hx hg hd hs hr
theorem ishl_v {tb : Tables} [Ours tb] {e : Env} {below : List Frame} {T target : State} {m : MethodId} {c : Code} {g : JFrame} (h : At T m c below) (hx : tb.exec = Jvm.exec) (hg : g.method = m) {x : Int32} {y : Int32} {v : Int32} {rest : List Value} (hd : decode c.code g.pc = .ok (.ishl, 1)) (hs : g.stack = .int y :: .int x :: rest) (hv : (x <<< (y &&& 31)) = v)
    (hr : Steps tb e below (T.setTop { g with pc := g.pc + 1, stack := .int v :: rest }) target) : Steps tb e below (T.setTop g) target := by subst hv; exact XS.ishl h hx hg hd hs hr
theorem ishr_v {tb : Tables} [Ours tb] {e : Env} {below : List Frame} {T target : State} {m : MethodId} {c : Code} {g : JFrame} (h : At T m c below) (hx : tb.exec = Jvm.exec) (hg : g.method = m) {x : Int32} {y : Int32} {v : Int32} {rest : List Value} (hd : decode c.code g.pc = .ok (.ishr, 1)) (hs : g.stack = .int y :: .int x :: rest) (hv : (x >>> (y &&& 31)) = v)
    (hr : Steps tb e below (T.setTop { g with pc := g.pc + 1, stack := .int v :: rest }) target) : Steps tb e below (T.setTop g) target := by subst hv; exact XS.ishr h hx hg hd hs hr
end Jvm.Pilot.@@N@@.Own
namespace Jvm.Pilot.@@N@@.Own
open Jvm Jvm.FP Jvm.FP.Core
theorem sh5 {q : Int32} (h : 0 ≤ q.toInt ∧ q.toInt ≤ 4) : ((1 : Int32) <<< (q &&& 31)).toInt * ((16 : Int32) >>> (q &&& 31)).toInt = 16 ∧ 1 ≤ ((1 : Int32) <<< (q &&& 31)).toInt ∧ ((1 : Int32) <<< (q &&& 31)).toInt ≤ 16 ∧ 1 ≤ ((16 : Int32) >>> (q &&& 31)).toInt ∧ ((16 : Int32) >>> (q &&& 31)).toInt ≤ 16 := by
  have e0 : (0 : Int32).toInt = 0 := rfl
  have e1 : (1 : Int32).toInt = 1 := rfl
  have e2 : (2 : Int32).toInt = 2 := rfl
  have e3 : (3 : Int32).toInt = 3 := rfl
  have e4 : (4 : Int32).toInt = 4 := rfl
  have : q = 0 ∨ q = 1 ∨ q = 2 ∨ q = 3 ∨ q = 4 := by simp only [← Int32.toInt_inj, e0, e1, e2, e3, e4]; omega
  rcases this with rfl | rfl | rfl | rfl | rfl <;> decide
theorem jm_b {a t d : Int} (ha : a = 1 ∨ a = 2 ∨ a = 3) (ht : 0 ≤ t ∧ t ≤ d) (hd : 1 ≤ d ∧ d < 1073741824) : ∃ lo hi : Int, lo * d ≤ a * t * 1073741824 ∧ a * t * 1073741824 ≤ hi * d ∧ 0 ≤ lo ∧ lo ≤ hi ∧ hi ≤ 4294967296 ∧ (t = 0 → lo = 0 ∧ hi = 0) ∧ (t = d → lo = a * 1073741824 ∧ hi = a * 1073741824) ∧ (¬ t = 0 → ¬ t = d → 0 < lo ∧ hi < a * 1073741824) := by
  by_cases h0 : t = 0
  · exact ⟨0, 0, by subst h0; omega, by subst h0; omega, by omega, by omega, by omega, fun _ => ⟨rfl, rfl⟩, fun h => by omega, fun h => absurd h0 h⟩
  · by_cases h1 : t = d
    · refine ⟨a * 1073741824, a * 1073741824, ?_, ?_, ?_, by omega, ?_, fun h => absurd h h0, fun _ => ⟨rfl, rfl⟩, fun _ h => absurd h1 h⟩ <;> rcases ha with rfl | rfl | rfl <;> omega
    · refine ⟨1, a * 1073741824 - 1, ?_, ?_, by omega, ?_, ?_, fun h => absurd h h0, fun h => absurd h h1, fun _ _ => ⟨by omega, by omega⟩⟩ <;> rcases ha with rfl | rfl | rfl <;> omega
end Jvm.Pilot.@@N@@.Own
namespace Jvm.Pilot.@@N@@
open Jvm Jvm.ClassFile Sem Op Lib Jvm.Free Jvm.Stand Jvm.LawKit Jvm.RoadKit Bundle Jvm.Pilot.@@N@@.Jvm.D Jvm.Pilot.@@N@@.Own
theorem pd_0 : parseMethodDescriptor "()V" = some ⟨[], none⟩ := by decide +kernel
theorem pd_1 : parseMethodDescriptor "(D)V" = some ⟨[.double], none⟩ := by decide +kernel
theorem pd_2 : parseMethodDescriptor "(II)I" = some ⟨[.int, .int], some .int⟩ := by decide +kernel
theorem pd_3 : parseMethodDescriptor "(IIDI)D" = some ⟨[.int, .int, .double, .int], some .double⟩ := by decide +kernel
theorem d1_0 : decode jdk_30_method_1_code 0 = .ok (.aload_n 0, 1) := by decide +kernel
theorem d1_1 : decode jdk_30_method_1_code 1 = .ok (.invokespecial 1, 3) := by decide +kernel
theorem d1_4 : decode jdk_30_method_1_code 4 = .ok (.return_, 1) := by decide +kernel
theorem pn_1 : plainName "java/lang/Record" = true := by first | (simp [plainName, overriddenIn]; done) | decide +kernel
theorem ef_1 (m : MethodId) (x0 : Addr) : entryFrame m #[(.ref x0)] 1 = mkF m 0 #[.val (.ref x0)] [] := by first | (simp [entryFrame, mkF, argsToLocals, Value.category]; done) | rfl
def Q1 (Z : State) (a : Addr) (h0 : Heap) (n0 : Nat) (v : Option Value) (h : Heap) (L : List Loc) : Prop := v = none ∧ Fr n0 L ∧ h = h0
set_option maxRecDepth 65536 in
set_option maxHeartbeats 40000000 in
theorem rm1 (l : Launch) (Z : State) (a0 : Array Value) (hw : ∀ d ∈ tables_1, d.before a0 Z = true) (ws : List Jvm.Cond) (a : Addr) (h0 : Heap) (n0 : Nat) (Z0 : n0 ≤ h0.size) :
    MetFree l (⟨"java/lang/Record", "<init>", "()V"⟩ : MethodName) (head1 (Jvm.Cond.code (⟨"java/lang/Record", "<init>", "()V"⟩ : MethodName) jdk_30_method_1_code 1 none :: ws) ({ frames := 1, cells := 0, slots := 0, locals := 12 } : Room)) (fun a_ U => a_ = #[(.ref a)] ∧ Z.Warmed39 U.vm ∧ U.heap = h0) (fun _ _ _ _ _ => True) (fun _ U o U' => ∃ v L, o = .returned v ∧ Q1 Z a h0 n0 v U'.heap L ∧ FrameEnd U o U' L (({ frames := 1, cells := 0, slots := 0, locals := 12 } : Room)).cells (({ frames := 1, cells := 0, slots := 0, locals := 12 } : Room)).slots) := by
  refine MetFree.of_bodySF (plainFor_of_name pn_1) hisR ?_
  intro p e s m args below meth c s₁ Bd hml0 hP0 hK
  obtain ⟨rfl, hZ, hh⟩ := hP0
  have hx := Bd.exec
  have hby := Bd.bytes
  have hml : c.maxLocals = 1 := hml0
  have hown : s.vm.findClass "java/lang/Record" = some m.cls := findClass_of_methodNamed Bd.named
  have hnm := (name_of_methodNamed Bd.named Bd.method).1
  have X0 : Stand p l e ({ frames := 1, cells := 0, slots := 0, locals := 12 } : Room) s m #[(.ref a)] below meth c s₁ [] 0 0 := Stand.of_body Bd
  have e0 : s₁.heap = h0 := by rw [← hh, Bd.state]; rfl
  have N0 := Fr.nil n0
  have hlk : meth.locks = false := BodyLoose.notSynchronized Bd
  refine Go.start (P₀ := fun s₂ o => ∃ v L, o = .returned v ∧ Q1 Z a h0 n0 v s₂.heap L ∧ FrameEnd s o s₂ L (({ frames := 1, cells := 0, slots := 0, locals := 12 } : Room)).cells (({ frames := 1, cells := 0, slots := 0, locals := 12 } : Room)).slots) (congrArg s₁.setTop (ef_1 m a)) ?_
  intro P hP
  show Go p.tables e below P (s₁.setTop (mkF m 0 #[.val (.ref a)] []))
  refine Go.step (fun t k => XS.aloadN X0.here hx rfl (hb hby d1_0) rfl rfl k) ?_
  show Go p.tables e below P (s₁.setTop (mkF m 1 #[.val (.ref a)] [(.ref a)]))
  obtain ⟨T_1, X_1, e_1, st_1⟩ := initO X0 hx hZ hown (hw _ (List.mem_of_getElem? (i := 14) rfl)) (hw _ (List.mem_of_getElem? (i := 15) rfl)) (hw _ (List.mem_of_getElem? (i := 16) rfl)) e0 (g := (mkF m 1 #[.val (.ref a)] [(.ref a)])) rfl (by rw [hml]; rfl) rfl (hb hby d1_1) (by decide) (W := 0) (by show 2 * 0 + _ ≤ _; exact Nat.le_of_eq rfl) (by decide)
  refine Go.step (fun t k => st_1 t k) ?_
  show Go p.tables e below P (T_1.setTop (mkF m 4 #[.val (.ref a)] []))
  exact voidGo X_1 hx hP Bd.returns hlk (hb hby d1_4) (by decide) (by decide) (by rw [e_1]; exact ⟨rfl, N0, rfl⟩)
theorem d2_0 : decode jdk_29_method_65_code 0 = .ok (.iload_n 0, 1) := by decide +kernel
theorem d2_1 : decode jdk_29_method_65_code 1 = .ok (.iload_n 1, 1) := by decide +kernel
theorem d2_2 : decode jdk_29_method_65_code 2 = .ok (.if_icmp .lt 7, 3) := by decide +kernel
theorem d2_5 : decode jdk_29_method_65_code 5 = .ok (.iload_n 0, 1) := by decide +kernel
theorem d2_6 : decode jdk_29_method_65_code 6 = .ok (.goto 4, 3) := by decide +kernel
theorem d2_9 : decode jdk_29_method_65_code 9 = .ok (.iload_n 1, 1) := by decide +kernel
theorem d2_10 : decode jdk_29_method_65_code 10 = .ok (.ireturn, 1) := by decide +kernel
theorem ef_2 (m : MethodId) (x0 : Int32) (x1 : Int32) : entryFrame m #[(.int x0), (.int x1)] 2 = mkF m 0 #[.val (.int x0), .val (.int x1)] [] := by first | (simp [entryFrame, mkF, argsToLocals, Value.category]; done) | rfl
def Q2 (Z : State) (u1 : Int32) (u2 : Int32) (h0 : Heap) (n0 : Nat) (v : Option Value) (h : Heap) (L : List Loc) : Prop := ∃ r : Int32, v = some (.int r) ∧ r.toInt = max u1.toInt u2.toInt ∧ Fr n0 L ∧ h = h0
set_option maxRecDepth 65536 in
set_option maxHeartbeats 40000000 in
theorem rm2 (l : Launch) (Z : State) (a0 : Array Value) (hw : ∀ d ∈ tables_1, d.before a0 Z = true) (ws : List Jvm.Cond) (u1 : Int32) (u2 : Int32) (h0 : Heap) (n0 : Nat) (Z0 : n0 ≤ h0.size) :
    MetFree l (⟨"java/lang/Math", "max", "(II)I"⟩ : MethodName) (head1 (Jvm.Cond.code (⟨"java/lang/Math", "max", "(II)I"⟩ : MethodName) jdk_29_method_65_code 2 (some .int) :: ws) ({ frames := 0, cells := 0, slots := 0, locals := 0 } : Room)) (fun a_ U => a_ = #[(.int u1), (.int u2)] ∧ Z.Warmed39 U.vm ∧ U.heap = h0) (fun _ _ _ _ _ => True) (fun _ U o U' => ∃ v L, o = .returned v ∧ Q2 Z u1 u2 h0 n0 v U'.heap L ∧ FrameEnd U o U' L (({ frames := 0, cells := 0, slots := 0, locals := 0 } : Room)).cells (({ frames := 0, cells := 0, slots := 0, locals := 0 } : Room)).slots) := by
  refine MetFree.of_bodySF (Jvm.Free.JP.mathPlain rfl (by decide +kernel)) hisR ?_
  intro p e s m args below meth c s₁ Bd hml0 hP0 hK
  obtain ⟨rfl, hZ, hh⟩ := hP0
  have hx := Bd.exec
  have hby := Bd.bytes
  have hml : c.maxLocals = 2 := hml0
  have hown : s.vm.findClass "java/lang/Math" = some m.cls := findClass_of_methodNamed Bd.named
  have hnm := (name_of_methodNamed Bd.named Bd.method).1
  have X0 : Stand p l e ({ frames := 0, cells := 0, slots := 0, locals := 0 } : Room) s m #[(.int u1), (.int u2)] below meth c s₁ [] 0 0 := Stand.of_body Bd
  have e0 : s₁.heap = h0 := by rw [← hh, Bd.state]; rfl
  have N0 := Fr.nil n0
  have hlk : meth.locks = false := BodyLoose.notSynchronized Bd
  refine Go.start (P₀ := fun s₂ o => ∃ v L, o = .returned v ∧ Q2 Z u1 u2 h0 n0 v s₂.heap L ∧ FrameEnd s o s₂ L (({ frames := 0, cells := 0, slots := 0, locals := 0 } : Room)).cells (({ frames := 0, cells := 0, slots := 0, locals := 0 } : Room)).slots) (congrArg s₁.setTop (ef_2 m u1 u2)) ?_
  intro P hP
  show Go p.tables e below P (s₁.setTop (mkF m 0 #[.val (.int u1), .val (.int u2)] []))
  refine Go.step (fun t k => XS.iloadN X0.here hx rfl (hb hby d2_0) rfl  k) ?_
  show Go p.tables e below P (s₁.setTop (mkF m 1 #[.val (.int u1), .val (.int u2)] [(.int u1)]))
  refine Go.step (fun t k => XS.iloadN X0.here hx rfl (hb hby d2_1) rfl  k) ?_
  show Go p.tables e below P (s₁.setTop (mkF m 2 #[.val (.int u1), .val (.int u2)] [(.int u2), (.int u1)]))
  by_cases hc2 : u1.toInt < u2.toInt
  · refine Go.step (fun t k => XS.icmpYes X0.here hx rfl (pc0 := 2) (pc' := 9) rfl (hb hby d2_2) rfl (icY (cd := .lt) hc2) (by decide) (by decide) k) ?_
    show Go p.tables e below P (s₁.setTop (mkF m 9 #[.val (.int u1), .val (.int u2)] []))
    refine Go.step (fun t k => XS.iloadN X0.here hx rfl (hb hby d2_9) rfl  k) ?_
    show Go p.tables e below P (s₁.setTop (mkF m 10 #[.val (.int u1), .val (.int u2)] [(.int u2)]))
    exact retGo X0 hx hP Bd.returns hlk rfl (Or.inl ⟨rfl, Or.inl rfl, _, rfl⟩) (hb hby d2_10) (by decide) (by decide) (by rw [e0]; exact ⟨u2, rfl, by omega, N0, rfl⟩)
  · refine Go.step (fun t k => XS.icmpNo X0.here hx rfl (hb hby d2_2) rfl (icN (cd := .lt) hc2) k) ?_
    show Go p.tables e below P (s₁.setTop (mkF m 5 #[.val (.int u1), .val (.int u2)] []))
    refine Go.step (fun t k => XS.iloadN X0.here hx rfl (hb hby d2_5) rfl  k) ?_
    show Go p.tables e below P (s₁.setTop (mkF m 6 #[.val (.int u1), .val (.int u2)] [(.int u1)]))
    refine Go.step (fun t k => XS.goto X0.here hx rfl (pc0 := 6) (pc' := 10) rfl (hb hby d2_6) (by decide) (by decide) k) ?_
    show Go p.tables e below P (s₁.setTop (mkF m 10 #[.val (.int u1), .val (.int u2)] [(.int u1)]))
    exact retGo X0 hx hP Bd.returns hlk rfl (Or.inl ⟨rfl, Or.inl rfl, _, rfl⟩) (hb hby d2_10) (by decide) (by decide) (by rw [e0]; exact ⟨u1, rfl, by omega, N0, rfl⟩)
theorem d3_0 : decode prog_55_method_1_code 0 = .ok (.aload_n 0, 1) := by decide +kernel
theorem d3_1 : decode prog_55_method_1_code 1 = .ok (.invokespecial 1, 3) := by decide +kernel
theorem d3_4 : decode prog_55_method_1_code 4 = .ok (.dload_n 1, 1) := by decide +kernel
theorem d3_5 : decode prog_55_method_1_code 5 = .ok (.dconst 0, 1) := by decide +kernel
theorem d3_6 : decode prog_55_method_1_code 6 = .ok (.dcmp .l, 1) := by decide +kernel
theorem d3_7 : decode prog_55_method_1_code 7 = .ok (.ifCond .le 9, 3) := by decide +kernel
theorem d3_10 : decode prog_55_method_1_code 10 = .ok (.dload_n 1, 1) := by decide +kernel
theorem d3_11 : decode prog_55_method_1_code 11 = .ok (.dconst 1, 1) := by decide +kernel
theorem d3_12 : decode prog_55_method_1_code 12 = .ok (.dcmp .g, 1) := by decide +kernel
theorem d3_13 : decode prog_55_method_1_code 13 = .ok (.ifCond .lt 17, 3) := by decide +kernel
theorem d3_30 : decode prog_55_method_1_code 30 = .ok (.aload_n 0, 1) := by decide +kernel
theorem d3_31 : decode prog_55_method_1_code 31 = .ok (.dload_n 1, 1) := by decide +kernel
theorem d3_32 : decode prog_55_method_1_code 32 = .ok (.putfield 16, 3) := by decide +kernel
theorem d3_35 : decode prog_55_method_1_code 35 = .ok (.return_, 1) := by decide +kernel
theorem pn_3 : plainName "com/example/eliteness/eliteness/ranking/Smoothing$JelinekMercer" = true := by first | (simp [plainName, overriddenIn]; done) | decide +kernel
theorem ef_3 (m : MethodId) (x0 : Addr) (x1 : UInt64) : entryFrame m #[(.ref x0), (.double x1)] 3 = mkF m 0 #[.val (.ref x0), .val (.double x1), .second] [] := by first | (simp [entryFrame, mkF, argsToLocals, Value.category]; done) | rfl
def Q3 (Z : State) (a : Addr) (la : UInt64) (h0 : Heap) (n0 : Nat) (v : Option Value) (h : Heap) (L : List Loc) : Prop := v = none ∧ Fr n0 L ∧ Keep h0 h [a] ∧ Exa Z h a "com/example/eliteness/eliteness/ranking/Smoothing$JelinekMercer" ∧ Fld Z h a "com/example/eliteness/eliteness/ranking/Smoothing$JelinekMercer" "lambda" "D" (.double la)
set_option maxRecDepth 65536 in
set_option maxHeartbeats 40000000 in
theorem rm3 (l : Launch) (Z : State) (a0 : Array Value) (hw : ∀ d ∈ tables_1, d.before a0 Z = true) (ws : List Jvm.Cond) (a : Addr) (la : UInt64) (h0 : Heap) (n0 : Nat) (Z0 : n0 ≤ h0.size) (E_a : Exa Z h0 a "com/example/eliteness/eliteness/ranking/Smoothing$JelinekMercer") (F0 : Fld Z h0 a "com/example/eliteness/eliteness/ranking/Smoothing$JelinekMercer" "lambda" "D" (.double (0 : UInt64))) (g_a : n0 ≤ a) (i : Int) (q1 : DE 1072 i la) (hi1 : 0 < i) (hi2 : i < 4) :
    MetFree l (⟨"com/example/eliteness/eliteness/ranking/Smoothing$JelinekMercer", "<init>", "(D)V"⟩ : MethodName) (head1 (Jvm.Cond.code (⟨"com/example/eliteness/eliteness/ranking/Smoothing$JelinekMercer", "<init>", "(D)V"⟩ : MethodName) prog_55_method_1_code 3 none :: ws) ({ frames := 2, cells := 0, slots := 0, locals := 24 } : Room)) (fun a_ U => a_ = #[(.ref a), (.double la)] ∧ Z.Warmed39 U.vm ∧ U.heap = h0) (fun _ _ _ _ _ => True) (fun _ U o U' => ∃ v L, o = .returned v ∧ Q3 Z a la h0 n0 v U'.heap L ∧ FrameEnd U o U' L (({ frames := 2, cells := 0, slots := 0, locals := 24 } : Room)).cells (({ frames := 2, cells := 0, slots := 0, locals := 24 } : Room)).slots) := by
  refine MetFree.of_bodySF (plainFor_of_name pn_3) hisR ?_
  intro p e s m args below meth c s₁ Bd hml0 hP0 hK
  obtain ⟨rfl, hZ, hh⟩ := hP0
  have hx := Bd.exec
  have hby := Bd.bytes
  have hml : c.maxLocals = 3 := hml0
  have hown : s.vm.findClass "com/example/eliteness/eliteness/ranking/Smoothing$JelinekMercer" = some m.cls := findClass_of_methodNamed Bd.named
  have hnm := (name_of_methodNamed Bd.named Bd.method).1
  have X0 : Stand p l e ({ frames := 2, cells := 0, slots := 0, locals := 24 } : Room) s m #[(.ref a), (.double la)] below meth c s₁ [] 0 0 := Stand.of_body Bd
  have e0 : s₁.heap = h0 := by rw [← hh, Bd.state]; rfl
  have N0 := Fr.nil n0
  have hlk : meth.locks = false := BodyLoose.notSynchronized Bd
  refine Go.start (P₀ := fun s₂ o => ∃ v L, o = .returned v ∧ Q3 Z a la h0 n0 v s₂.heap L ∧ FrameEnd s o s₂ L (({ frames := 2, cells := 0, slots := 0, locals := 24 } : Room)).cells (({ frames := 2, cells := 0, slots := 0, locals := 24 } : Room)).slots) (congrArg s₁.setTop (ef_3 m a la)) ?_
  intro P hP
  show Go p.tables e below P (s₁.setTop (mkF m 0 #[.val (.ref a), .val (.double la), .second] []))
  refine Go.step (fun t k => XS.aloadN X0.here hx rfl (hb hby d3_0) rfl rfl k) ?_
  show Go p.tables e below P (s₁.setTop (mkF m 1 #[.val (.ref a), .val (.double la), .second] [(.ref a)]))
  obtain ⟨_, _, ⟨T_1, L_1, k_1, n_1⟩, -, X_1, ⟨Lc_1, hQ_1, l_1, y_1, z_1⟩, st_1⟩ := X0.specialBack hx (y := (⟨"java/lang/Record", "<init>", "()V"⟩ : MethodName)) rfl hown (mvT hZ (hw _ (List.mem_of_getElem? (i := 9) rfl))) (mvT hZ (hw _ (List.mem_of_getElem? (i := 10) rfl))) (mvT hZ (hw _ (List.mem_of_getElem? (i := 13) rfl))) (by decide) (backOf (W := 0) (rm1 l Z a0 hw [] a h0 n0 Z0 ) hZ (hw _ (List.mem_of_getElem? (i := 13) rfl)) (hw _ (List.mem_of_getElem? (i := 12) rfl)) (by decide) (by decide)) (g := (mkF m 1 #[.val (.ref a), .val (.double la), .second] [(.ref a)])) rfl (by rw [hml]; rfl) (Steps.refl _) (a := a) (argsL := []) (rest := []) (lenOf pd_0 rfl) rfl (by show 2 * 0 + _ ≤ _; exact Nat.le_of_eq rfl) (hb hby d3_1) (fun _ _ => ⟨rfl, e0, (by decide : 0 + 0 ≤ _), (by decide : 0 + 0 ≤ _)⟩)
  dsimp only [Pt.U, Pt.locs, Pt.cells, Pt.slots] at X_1 l_1 y_1 z_1 st_1 hQ_1
  subst l_1 y_1 z_1
  obtain ⟨rfl, N_1q, eh_1⟩ := hQ_1
  have N_1 := Fr.app N0 N_1q
  refine Go.tr st_1 ?_
  show Go p.tables e below P (T_1.setTop (mkF m 4 #[.val (.ref a), .val (.double la), .second] []))
  have qone : DE 1072 4 FP.dconst1 := DE.of ⟨_, _, _, rfl⟩ (by decide +kernel)
  have qz : DE 1072 0 FP.dconst0 := DE.of ⟨_, _, _, rfl⟩ (by decide +kernel)
  refine Go.step (fun t k => XS.dloadN X_1.here hx rfl (hb hby d3_4) rfl  k) ?_
  show Go p.tables e below P (T_1.setTop (mkF m 5 #[.val (.ref a), .val (.double la), .second] [(.double la)]))
  refine Go.step (fun t k => XS.dconst0 X_1.here hx rfl (hb hby d3_5) rfl k) ?_
  show Go p.tables e below P (T_1.setTop (mkF m 6 #[.val (.ref a), .val (.double la), .second] [(.double FP.dconst0), (.double la)]))
  refine Go.step (fun t k => XS.dcmpS X_1.here hx rfl (hb hby d3_6) rfl rfl k) ?_
  show Go p.tables e below P (T_1.setTop (mkF m 7 #[.val (.ref a), .val (.double la), .second] [(.int (cmpValue (FP.dcmp la FP.dconst0) .l))]))
  refine Go.step (fun t k => XS.ifNo X_1.here hx rfl (hb hby d3_7) rfl (dcN (cd := .le) (DE.cmp q1 qz) (by omega : ¬ (i ≤ 0))) k) ?_
  show Go p.tables e below P (T_1.setTop (mkF m 10 #[.val (.ref a), .val (.double la), .second] []))
  refine Go.step (fun t k => XS.dloadN X_1.here hx rfl (hb hby d3_10) rfl  k) ?_
  show Go p.tables e below P (T_1.setTop (mkF m 11 #[.val (.ref a), .val (.double la), .second] [(.double la)]))
  refine Go.step (fun t k => XS.dconst1 X_1.here hx rfl (hb hby d3_11) rfl k) ?_
  show Go p.tables e below P (T_1.setTop (mkF m 12 #[.val (.ref a), .val (.double la), .second] [(.double FP.dconst1), (.double la)]))
  refine Go.step (fun t k => XS.dcmpS X_1.here hx rfl (hb hby d3_12) rfl rfl k) ?_
  show Go p.tables e below P (T_1.setTop (mkF m 13 #[.val (.ref a), .val (.double la), .second] [(.int (cmpValue (FP.dcmp la FP.dconst1) .g))]))
  refine Go.step (fun t k => XS.ifYes X_1.here hx rfl (pc0 := 13) (pc' := 30) rfl (hb hby d3_13) rfl (dcY (cd := .lt) (DE.cmp q1 qone) (by omega : i < 4)) (by decide) (by decide) k) ?_
  show Go p.tables e below P (T_1.setTop (mkF m 30 #[.val (.ref a), .val (.double la), .second] []))
  refine Go.step (fun t k => XS.aloadN X_1.here hx rfl (hb hby d3_30) rfl rfl k) ?_
  show Go p.tables e below P (T_1.setTop (mkF m 31 #[.val (.ref a), .val (.double la), .second] [(.ref a)]))
  refine Go.step (fun t k => XS.dloadN X_1.here hx rfl (hb hby d3_31) rfl  k) ?_
  show Go p.tables e below P (T_1.setTop (mkF m 32 #[.val (.ref a), .val (.double la), .second] [(.double la), (.ref a)]))
  obtain ⟨T_2, h_2, X_2, e_2, W_2, st_2⟩ := putF X_1 hx hZ hown (host := "") (Or.inl (hw _ (List.mem_of_getElem? (i := 17) rfl))) Via.refl eh_1 F0 E_a (Or.inr ⟨(hw _ (List.mem_of_getElem? (i := 18) rfl)), rfl, hnm⟩) (hw _ (List.mem_of_getElem? (i := 4) rfl)) (ty := .double) (by decide) rfl rfl (g := (mkF m 32 #[.val (.ref a), .val (.double la), .second] [(.double la), (.ref a)])) rfl rfl (hb hby d3_32)
  have Fw_2 := F0.same W_2
  have N_2 := Fr.snoc X_2 N_1 g_a
  have K_2 : Keep h0 h_2 [a] := (Keep.refl h0 [a]).wr W_2 (Or.inl (List.mem_of_getElem? (i := 0) rfl))
  have Z_2 : n0 ≤ h_2.size := Nat.le_trans Z0 (Keep.of_wr W_2).1
  refine Go.step (fun t k => st_2 t k) ?_
  show Go p.tables e below P (T_2.setTop (mkF m 35 #[.val (.ref a), .val (.double la), .second] []))
  exact voidGo X_2 hx hP Bd.returns hlk (hb hby d3_35) (by decide) (by decide) (by rw [e_2]; exact ⟨rfl, N_2, K_2, (E_a.wr W_2), Fw_2⟩)
theorem d4_0 : decode prog_55_method_2_code 0 = .ok (.aload_n 0, 1) := by decide +kernel
theorem d4_1 : decode prog_55_method_2_code 1 = .ok (.getfield 16, 3) := by decide +kernel
theorem d4_4 : decode prog_55_method_2_code 4 = .ok (.iload_n 1, 1) := by decide +kernel
theorem d4_5 : decode prog_55_method_2_code 5 = .ok (.i2d, 1) := by decide +kernel
theorem d4_6 : decode prog_55_method_2_code 6 = .ok (.dmul, 1) := by decide +kernel
theorem d4_7 : decode prog_55_method_2_code 7 = .ok (.iload_n 2, 1) := by decide +kernel
theorem d4_8 : decode prog_55_method_2_code 8 = .ok (.i2d, 1) := by decide +kernel
theorem d4_9 : decode prog_55_method_2_code 9 = .ok (.ddiv, 1) := by decide +kernel
theorem d4_10 : decode prog_55_method_2_code 10 = .ok (.dconst 1, 1) := by decide +kernel
theorem d4_11 : decode prog_55_method_2_code 11 = .ok (.aload_n 0, 1) := by decide +kernel
theorem d4_12 : decode prog_55_method_2_code 12 = .ok (.getfield 16, 3) := by decide +kernel
theorem d4_15 : decode prog_55_method_2_code 15 = .ok (.dsub, 1) := by decide +kernel
theorem d4_16 : decode prog_55_method_2_code 16 = .ok (.dload_n 3, 1) := by decide +kernel
theorem d4_17 : decode prog_55_method_2_code 17 = .ok (.dmul, 1) := by decide +kernel
theorem d4_18 : decode prog_55_method_2_code 18 = .ok (.dadd, 1) := by decide +kernel
theorem d4_19 : decode prog_55_method_2_code 19 = .ok (.dreturn, 1) := by decide +kernel
theorem pn_4 : plainName "com/example/eliteness/eliteness/ranking/Smoothing$JelinekMercer" = true := by first | (simp [plainName, overriddenIn]; done) | decide +kernel
theorem ef_4 (m : MethodId) (x0 : Addr) (x1 : Int32) (x2 : Int32) (x3 : UInt64) (x4 : Int32) : entryFrame m #[(.ref x0), (.int x1), (.int x2), (.double x3), (.int x4)] 6 = mkF m 0 #[.val (.ref x0), .val (.int x1), .val (.int x2), .val (.double x3), .second, .val (.int x4)] [] := by first | (simp [entryFrame, mkF, argsToLocals, Value.category]; done) | rfl
def Q4 (Z : State) (a : Addr) (tf : Int32) (dl : Int32) (cl : UInt64) (vo : Int32) (la : UInt64) (i : Int) (cc : Int) (bs : Int) (lo : Int) (hi : Int) (h0 : Heap) (n0 : Nat) (v : Option Value) (h : Heap) (L : List Loc) : Prop := ∃ r : UInt64, v = some (.double r) ∧ DB 1042 (lo + bs * 67108864) (hi + bs * 67108864) r ∧ Fr n0 L ∧ h = h0
set_option maxRecDepth 65536 in
set_option maxHeartbeats 40000000 in
theorem rm4 (l : Launch) (Z : State) (a0 : Array Value) (hw : ∀ d ∈ tables_1, d.before a0 Z = true) (ws : List Jvm.Cond) (a : Addr) (tf : Int32) (dl : Int32) (cl : UInt64) (vo : Int32) (la : UInt64) (i : Int) (cc : Int) (bs : Int) (lo : Int) (hi : Int) (h0 : Heap) (n0 : Nat) (Z0 : n0 ≤ h0.size) (F0 : Fld Z h0 a "com/example/eliteness/eliteness/ranking/Smoothing$JelinekMercer" "lambda" "D" (.double la)) (ql : DE 1072 i la) (qc : DE 1070 cc cl) (hi1 : 0 < i ∧ i < 4) (hcc : 0 < cc ∧ cc ≤ 16) (hbs : (4 - i) * cc = bs) (bbs : 0 ≤ bs ∧ bs ≤ 64) (btf : 0 ≤ tf.toInt) (bdl : 0 < dl.toInt) (hlo : lo * dl.toInt ≤ i * tf.toInt * 1073741824) (hhi : i * tf.toInt * 1073741824 ≤ hi * dl.toInt) (blo : 0 ≤ lo) (bhi : hi ≤ 562949953421312) (blh : lo ≤ hi) :
    MetFree l (⟨"com/example/eliteness/eliteness/ranking/Smoothing$JelinekMercer", "probability", "(IIDI)D"⟩ : MethodName) (head1 (Jvm.Cond.code (⟨"com/example/eliteness/eliteness/ranking/Smoothing$JelinekMercer", "probability", "(IIDI)D"⟩ : MethodName) prog_55_method_2_code 6 (some .double) :: ws) ({ frames := 0, cells := 0, slots := 0, locals := 0 } : Room)) (fun a_ U => a_ = #[(.ref a), (.int tf), (.int dl), (.double cl), (.int vo)] ∧ Z.Warmed39 U.vm ∧ U.heap = h0) (fun _ _ _ _ _ => True) (fun _ U o U' => ∃ v L, o = .returned v ∧ Q4 Z a tf dl cl vo la i cc bs lo hi h0 n0 v U'.heap L ∧ FrameEnd U o U' L (({ frames := 0, cells := 0, slots := 0, locals := 0 } : Room)).cells (({ frames := 0, cells := 0, slots := 0, locals := 0 } : Room)).slots) := by
  refine MetFree.of_bodySF (plainFor_of_name pn_4) hisR ?_
  intro p e s m args below meth c s₁ Bd hml0 hP0 hK
  obtain ⟨rfl, hZ, hh⟩ := hP0
  have hx := Bd.exec
  have hby := Bd.bytes
  have hml : c.maxLocals = 6 := hml0
  have hown : s.vm.findClass "com/example/eliteness/eliteness/ranking/Smoothing$JelinekMercer" = some m.cls := findClass_of_methodNamed Bd.named
  have hnm := (name_of_methodNamed Bd.named Bd.method).1
  have X0 : Stand p l e ({ frames := 0, cells := 0, slots := 0, locals := 0 } : Room) s m #[(.ref a), (.int tf), (.int dl), (.double cl), (.int vo)] below meth c s₁ [] 0 0 := Stand.of_body Bd
  have e0 : s₁.heap = h0 := by rw [← hh, Bd.state]; rfl
  have N0 := Fr.nil n0
  have hlk : meth.locks = false := BodyLoose.notSynchronized Bd
  refine Go.start (P₀ := fun s₂ o => ∃ v L, o = .returned v ∧ Q4 Z a tf dl cl vo la i cc bs lo hi h0 n0 v s₂.heap L ∧ FrameEnd s o s₂ L (({ frames := 0, cells := 0, slots := 0, locals := 0 } : Room)).cells (({ frames := 0, cells := 0, slots := 0, locals := 0 } : Room)).slots) (congrArg s₁.setTop (ef_4 m a tf dl cl vo)) ?_
  intro P hP
  show Go p.tables e below P (s₁.setTop (mkF m 0 #[.val (.ref a), .val (.int tf), .val (.int dl), .val (.double cl), .second, .val (.int vo)] []))
  have r1 := rng32 tf
  have r2 := rng32 dl
  have qone : DE 1074 1 FP.dconst1 := DE.of ⟨_, _, _, rfl⟩ (by decide +kernel)
  have bit := nmul (show i.natAbs ≤ 3 by omega) (show tf.toInt.natAbs ≤ 2 ^ 31 by omega)
  refine Go.step (fun t k => XS.aloadN X0.here hx rfl (hb hby d4_0) rfl rfl k) ?_
  show Go p.tables e below P (s₁.setTop (mkF m 1 #[.val (.ref a), .val (.int tf), .val (.int dl), .val (.double cl), .second, .val (.int vo)] [(.ref a)]))
  obtain ⟨T_1, X_1, e_1, st_1⟩ := getF X0 hx hZ hown (host := "") (Or.inl (hw _ (List.mem_of_getElem? (i := 17) rfl))) Via.refl e0 F0 (g := (mkF m 1 #[.val (.ref a), .val (.int tf), .val (.int dl), .val (.double cl), .second, .val (.int vo)] [(.ref a)])) rfl rfl (hb hby d4_1)
  refine Go.step (fun t k => st_1 t k) ?_
  show Go p.tables e below P (T_1.setTop (mkF m 4 #[.val (.ref a), .val (.int tf), .val (.int dl), .val (.double cl), .second, .val (.int vo)] [(.double la)]))
  refine Go.step (fun t k => XS.iloadN X_1.here hx rfl (hb hby d4_4) rfl  k) ?_
  show Go p.tables e below P (T_1.setTop (mkF m 5 #[.val (.ref a), .val (.int tf), .val (.int dl), .val (.double cl), .second, .val (.int vo)] [(.int tf), (.double la)]))
  obtain ⟨d5, hd5⟩ : ∃ z : UInt64, FP.i2d tf = z := ⟨_, rfl⟩
  refine Go.step (fun t k => XS.i2dS X_1.here hx rfl (hb hby d4_5) rfl hd5 k) ?_
  show Go p.tables e below P (T_1.setTop (mkF m 6 #[.val (.ref a), .val (.int tf), .val (.int dl), .val (.double cl), .second, .val (.int vo)] [(.double d5), (.double la)]))
  have qt := i2d_e tf; rw [hd5] at qt
  obtain ⟨d6, hd6⟩ : ∃ z : UInt64, FP.dmul la d5 = z := ⟨_, rfl⟩
  have q6 := mul_e (k := 1072) ql qt rfl rfl (by omega) (by decide)
  rw [hd6] at q6
  refine Go.step (fun t k => XS.dmulS X_1.here hx rfl (hb hby d4_6) rfl (hd6 ▸ q6.nn) hd6 k) ?_
  show Go p.tables e below P (T_1.setTop (mkF m 7 #[.val (.ref a), .val (.int tf), .val (.int dl), .val (.double cl), .second, .val (.int vo)] [(.double d6)]))
  refine Go.step (fun t k => XS.iloadN X_1.here hx rfl (hb hby d4_7) rfl  k) ?_
  show Go p.tables e below P (T_1.setTop (mkF m 8 #[.val (.ref a), .val (.int tf), .val (.int dl), .val (.double cl), .second, .val (.int vo)] [(.int dl), (.double d6)]))
  obtain ⟨d8, hd8⟩ : ∃ z : UInt64, FP.i2d dl = z := ⟨_, rfl⟩
  refine Go.step (fun t k => XS.i2dS X_1.here hx rfl (hb hby d4_8) rfl hd8 k) ?_
  show Go p.tables e below P (T_1.setTop (mkF m 9 #[.val (.ref a), .val (.int tf), .val (.int dl), .val (.double cl), .second, .val (.int vo)] [(.double d8), (.double d6)]))
  have qd := i2d_e dl; rw [hd8] at qd
  obtain ⟨d9, hd9⟩ : ∃ z : UInt64, FP.ddiv d6 d8 = z := ⟨_, rfl⟩
  have q9 := div_b (k := 1042) (lo := lo) (hi := hi) (q6.down (k' := 1042) (n := 30) rfl) qd bdl rfl (by omega) (by omega) (by omega) (by omega) (by decide)
  rw [hd9] at q9
  refine Go.step (fun t k => XS.ddivS X_1.here hx rfl (hb hby d4_9) rfl (hd9 ▸ q9.nn) hd9 k) ?_
  show Go p.tables e below P (T_1.setTop (mkF m 10 #[.val (.ref a), .val (.int tf), .val (.int dl), .val (.double cl), .second, .val (.int vo)] [(.double d9)]))
  refine Go.step (fun t k => XS.dconst1 X_1.here hx rfl (hb hby d4_10) rfl k) ?_
  show Go p.tables e below P (T_1.setTop (mkF m 11 #[.val (.ref a), .val (.int tf), .val (.int dl), .val (.double cl), .second, .val (.int vo)] [(.double FP.dconst1), (.double d9)]))
  refine Go.step (fun t k => XS.aloadN X_1.here hx rfl (hb hby d4_11) rfl rfl k) ?_
  show Go p.tables e below P (T_1.setTop (mkF m 12 #[.val (.ref a), .val (.int tf), .val (.int dl), .val (.double cl), .second, .val (.int vo)] [(.ref a), (.double FP.dconst1), (.double d9)]))
  obtain ⟨T_2, X_2, e_2, st_2⟩ := getF X_1 hx hZ hown (host := "") (Or.inl (hw _ (List.mem_of_getElem? (i := 17) rfl))) Via.refl e_1 F0 (g := (mkF m 12 #[.val (.ref a), .val (.int tf), .val (.int dl), .val (.double cl), .second, .val (.int vo)] [(.ref a), (.double FP.dconst1), (.double d9)])) rfl rfl (hb hby d4_12)
  refine Go.step (fun t k => st_2 t k) ?_
  show Go p.tables e below P (T_2.setTop (mkF m 15 #[.val (.ref a), .val (.int tf), .val (.int dl), .val (.double cl), .second, .val (.int vo)] [(.double la), (.double FP.dconst1), (.double d9)]))
  obtain ⟨d15, hd15⟩ : ∃ z : UInt64, FP.dsub FP.dconst1 la = z := ⟨_, rfl⟩
  have q15 := sub_e (n := 4 - i) (qone.down (k' := 1072) (n := 2) rfl) ql (by omega) (by omega) (by decide)
  rw [hd15] at q15
  refine Go.step (fun t k => XS.dsubS X_2.here hx rfl (hb hby d4_15) rfl (hd15 ▸ q15.nn) hd15 k) ?_
  show Go p.tables e below P (T_2.setTop (mkF m 16 #[.val (.ref a), .val (.int tf), .val (.int dl), .val (.double cl), .second, .val (.int vo)] [(.double d15), (.double d9)]))
  refine Go.step (fun t k => XS.dloadN X_2.here hx rfl (hb hby d4_16) rfl  k) ?_
  show Go p.tables e below P (T_2.setTop (mkF m 17 #[.val (.ref a), .val (.int tf), .val (.int dl), .val (.double cl), .second, .val (.int vo)] [(.double cl), (.double d15), (.double d9)]))
  obtain ⟨d17, hd17⟩ : ∃ z : UInt64, FP.dmul d15 cl = z := ⟨_, rfl⟩
  have q17 := mul_e (k := 1068) q15 qc rfl hbs (by omega) (by decide)
  rw [hd17] at q17
  refine Go.step (fun t k => XS.dmulS X_2.here hx rfl (hb hby d4_17) rfl (hd17 ▸ q17.nn) hd17 k) ?_
  show Go p.tables e below P (T_2.setTop (mkF m 18 #[.val (.ref a), .val (.int tf), .val (.int dl), .val (.double cl), .second, .val (.int vo)] [(.double d17), (.double d9)]))
  obtain ⟨d18, hd18⟩ : ∃ z : UInt64, FP.dadd d9 d17 = z := ⟨_, rfl⟩
  have q18 := add_b (lo := lo + bs * 67108864) (hi := hi + bs * 67108864) q9 (q17.down (k' := 1042) (n := 26) rfl) (by omega) (by omega) (by omega) (by omega) (by decide)
  rw [hd18] at q18
  refine Go.step (fun t k => XS.daddS X_2.here hx rfl (hb hby d4_18) rfl (hd18 ▸ q18.nn) hd18 k) ?_
  show Go p.tables e below P (T_2.setTop (mkF m 19 #[.val (.ref a), .val (.int tf), .val (.int dl), .val (.double cl), .second, .val (.int vo)] [(.double d18)]))
  exact retGo X_2 hx hP Bd.returns hlk rfl (Or.inr (Or.inr (Or.inl ⟨rfl, rfl, _, rfl⟩))) (hb hby d4_19) (by decide) (by decide) (by rw [e_2]; exact ⟨d18, rfl, q18, N0, rfl⟩)
theorem pn_0 : plainName "com/example/eliteness/eliteness/ranking/JelinekMercerProbabilityPinLaw" = true := by first | (simp [plainName, overriddenIn]; done) | decide +kernel
theorem ef_0 (m : MethodId) (x0 : Int32) (x1 : Int32) (x2 : Int32) (x3 : Int32) (x4 : Int32) (x5 : Int32) : entryFrame m #[(.int x0), (.int x1), (.int x2), (.int x3), (.int x4), (.int x5)] maxLocals = mkF m 0 #[.val (.int x0), .val (.int x1), .val (.int x2), .val (.int x3), .val (.int x4), .val (.int x5), .unset, .unset, .unset, .unset, .unset, .unset, .unset, .unset, .unset, .unset, .unset, .unset, .unset, .unset] [] := by first | (simp [entryFrame, mkF, argsToLocals, Value.category, maxLocals]; done) | rfl
def Q0 (Z : State) (p1 : Int32) (p2 : Int32) (p3 : Int32) (p4 : Int32) (p5 : Int32) (p6 : Int32) (h0 : Heap) (n0 : Nat) (v : Option Value) (h : Heap) (L : List Loc) : Prop := v = some (.int 1) ∧ Fr n0 L
set_option maxRecDepth 65536 in
set_option maxHeartbeats 40000000 in
theorem rm0 (l : Launch) (Z : State) (a0 : Array Value) (hw : ∀ d ∈ tables_1, d.before a0 Z = true) (ws : List Jvm.Cond) (p1 : Int32) (p2 : Int32) (p3 : Int32) (p4 : Int32) (p5 : Int32) (p6 : Int32) (h0 : Heap) (n0 : Nat) (Z0 : n0 ≤ h0.size) :
    MetFree l x (head1 (Jvm.Cond.code x code maxLocals ret :: ws) room_1) (fun a_ U => a_ = #[(.int p1), (.int p2), (.int p3), (.int p4), (.int p5), (.int p6)] ∧ Z.Warmed39 U.vm ∧ U.heap = h0) (fun _ _ _ _ _ => True) (fun _ U o U' => ∃ v L, o = .returned v ∧ Q0 Z p1 p2 p3 p4 p5 p6 h0 n0 v U'.heap L ∧ FrameEnd U o U' L 16 128) := by
  refine MetFree.of_bodySF (plainFor_of_name pn_0) hisR ?_
  intro p e s m args below meth c s₁ Bd hml0 hP0 hK
  obtain ⟨rfl, hZ, hh⟩ := hP0
  have hx := Bd.exec
  have hby := Bd.bytes
  have hml : c.maxLocals = 20 := hml0
  have hown : s.vm.findClass "com/example/eliteness/eliteness/ranking/JelinekMercerProbabilityPinLaw" = some m.cls := findClass_of_methodNamed Bd.named
  have hnm := (name_of_methodNamed Bd.named Bd.method).1
  have X0 : Stand p l e room_1 s m #[(.int p1), (.int p2), (.int p3), (.int p4), (.int p5), (.int p6)] below meth c s₁ [] 0 0 := Stand.of_body Bd
  have e0 : s₁.heap = h0 := by rw [← hh, Bd.state]; rfl
  have N0 := Fr.nil n0
  have hlk : meth.locks = false := BodyLoose.notSynchronized Bd
  refine Go.start (P₀ := fun s₂ o => ∃ v L, o = .returned v ∧ Q0 Z p1 p2 p3 p4 p5 p6 h0 n0 v s₂.heap L ∧ FrameEnd s o s₂ L 16 128) (congrArg s₁.setTop (ef_0 m p1 p2 p3 p4 p5 p6)) ?_
  intro P hP
  show Go p.tables e below P (s₁.setTop (mkF m 0 #[.val (.int p1), .val (.int p2), .val (.int p3), .val (.int p4), .val (.int p5), .val (.int p6), .unset, .unset, .unset, .unset, .unset, .unset, .unset, .unset, .unset, .unset, .unset, .unset, .unset, .unset] []))
  refine Go.step (fun t k => XS.iloadN X0.here hx rfl (hb hby at_0) rfl  k) ?_
  show Go p.tables e below P (s₁.setTop (mkF m 1 #[.val (.int p1), .val (.int p2), .val (.int p3), .val (.int p4), .val (.int p5), .val (.int p6), .unset, .unset, .unset, .unset, .unset, .unset, .unset, .unset, .unset, .unset, .unset, .unset, .unset, .unset] [(.int p4)]))
  refine Go.step (fun t k => X0.ldcInt hx hown (mvT hZ (hw _ (List.mem_of_getElem? (i := 0) rfl))) (g := (mkF m 1 #[.val (.int p1), .val (.int p2), .val (.int p3), .val (.int p4), .val (.int p5), .val (.int p6), .unset, .unset, .unset, .unset, .unset, .unset, .unset, .unset, .unset, .unset, .unset, .unset, .unset, .unset] [(.int p4)])) rfl (hb hby at_1) t k) ?_
  show Go p.tables e below P (s₁.setTop (mkF m 3 #[.val (.int p1), .val (.int p2), .val (.int p3), .val (.int p4), .val (.int p5), .val (.int p6), .unset, .unset, .unset, .unset, .unset, .unset, .unset, .unset, .unset, .unset, .unset, .unset, .unset, .unset] [(.int (2147483647 : Int32)), (.int p4)]))
  obtain ⟨i3, hi3⟩ : ∃ z : Int32, p4 &&& (2147483647 : Int32) = z := ⟨_, rfl⟩
  refine Go.step (fun t k => iand_v X0.here hx rfl (hb hby at_3) rfl  hi3 k) ?_
  show Go p.tables e below P (s₁.setTop (mkF m 4 #[.val (.int p1), .val (.int p2), .val (.int p3), .val (.int p4), .val (.int p5), .val (.int p6), .unset, .unset, .unset, .unset, .unset, .unset, .unset, .unset, .unset, .unset, .unset, .unset, .unset, .unset] [(.int i3)]))
  refine Go.step (fun t k => XS.iconst X0.here hx rfl (hb hby at_4) k) ?_
  show Go p.tables e below P (s₁.setTop (mkF m 5 #[.val (.int p1), .val (.int p2), .val (.int p3), .val (.int p4), .val (.int p5), .val (.int p6), .unset, .unset, .unset, .unset, .unset, .unset, .unset, .unset, .unset, .unset, .unset, .unset, .unset, .unset] [(.int (3 : Int32)), (.int i3)]))
  obtain ⟨i5, hi5⟩ : ∃ z : Int32, i3 % (3 : Int32) = z := ⟨_, rfl⟩
  refine Go.step (fun t k => irem_v X0.here hx rfl (hb hby at_5) rfl (by decide) hi5 k) ?_
  show Go p.tables e below P (s₁.setTop (mkF m 6 #[.val (.int p1), .val (.int p2), .val (.int p3), .val (.int p4), .val (.int p5), .val (.int p6), .unset, .unset, .unset, .unset, .unset, .unset, .unset, .unset, .unset, .unset, .unset, .unset, .unset, .unset] [(.int i5)]))
  refine Go.step (fun t k => XS.iconst X0.here hx rfl (hb hby at_6) k) ?_
  show Go p.tables e below P (s₁.setTop (mkF m 7 #[.val (.int p1), .val (.int p2), .val (.int p3), .val (.int p4), .val (.int p5), .val (.int p6), .unset, .unset, .unset, .unset, .unset, .unset, .unset, .unset, .unset, .unset, .unset, .unset, .unset, .unset] [(.int (1 : Int32)), (.int i5)]))
  obtain ⟨i7, hi7⟩ : ∃ z : Int32, i5 + (1 : Int32) = z := ⟨_, rfl⟩
  refine Go.step (fun t k => iadd_v X0.here hx rfl (hb hby at_7) rfl  hi7 k) ?_
  show Go p.tables e below P (s₁.setTop (mkF m 8 #[.val (.int p1), .val (.int p2), .val (.int p3), .val (.int p4), .val (.int p5), .val (.int p6), .unset, .unset, .unset, .unset, .unset, .unset, .unset, .unset, .unset, .unset, .unset, .unset, .unset, .unset] [(.int i7)]))
  refine Go.step (fun t k => XS.istore X0.here hx rfl (hb hby at_8) rfl (l' := #[.val (.int p1), .val (.int p2), .val (.int p3), .val (.int p4), .val (.int p5), .val (.int p6), .val (.int i7), .unset, .unset, .unset, .unset, .unset, .unset, .unset, .unset, .unset, .unset, .unset, .unset, .unset]) rfl k) ?_
  show Go p.tables e below P (s₁.setTop (mkF m 10 #[.val (.int p1), .val (.int p2), .val (.int p3), .val (.int p4), .val (.int p5), .val (.int p6), .val (.int i7), .unset, .unset, .unset, .unset, .unset, .unset, .unset, .unset, .unset, .unset, .unset, .unset, .unset] []))
  refine Go.step (fun t k => XS.iloadN X0.here hx rfl (hb hby at_10) rfl  k) ?_
  show Go p.tables e below P (s₁.setTop (mkF m 11 #[.val (.int p1), .val (.int p2), .val (.int p3), .val (.int p4), .val (.int p5), .val (.int p6), .val (.int i7), .unset, .unset, .unset, .unset, .unset, .unset, .unset, .unset, .unset, .unset, .unset, .unset, .unset] [(.int p3)]))
  refine Go.step (fun t k => XS.bipush X0.here hx rfl (hb hby at_11) k) ?_
  show Go p.tables e below P (s₁.setTop (mkF m 13 #[.val (.int p1), .val (.int p2), .val (.int p3), .val (.int p4), .val (.int p5), .val (.int p6), .val (.int i7), .unset, .unset, .unset, .unset, .unset, .unset, .unset, .unset, .unset, .unset, .unset, .unset, .unset] [(.int (15 : Int32)), (.int p3)]))
  obtain ⟨i13, hi13⟩ : ∃ z : Int32, p3 &&& (15 : Int32) = z := ⟨_, rfl⟩
  refine Go.step (fun t k => iand_v X0.here hx rfl (hb hby at_13) rfl  hi13 k) ?_
  show Go p.tables e below P (s₁.setTop (mkF m 14 #[.val (.int p1), .val (.int p2), .val (.int p3), .val (.int p4), .val (.int p5), .val (.int p6), .val (.int i7), .unset, .unset, .unset, .unset, .unset, .unset, .unset, .unset, .unset, .unset, .unset, .unset, .unset] [(.int i13)]))
  refine Go.step (fun t k => XS.iconst X0.here hx rfl (hb hby at_14) k) ?_
  show Go p.tables e below P (s₁.setTop (mkF m 15 #[.val (.int p1), .val (.int p2), .val (.int p3), .val (.int p4), .val (.int p5), .val (.int p6), .val (.int i7), .unset, .unset, .unset, .unset, .unset, .unset, .unset, .unset, .unset, .unset, .unset, .unset, .unset] [(.int (1 : Int32)), (.int i13)]))
  obtain ⟨i15, hi15⟩ : ∃ z : Int32, i13 + (1 : Int32) = z := ⟨_, rfl⟩
  refine Go.step (fun t k => iadd_v X0.here hx rfl (hb hby at_15) rfl  hi15 k) ?_
  show Go p.tables e below P (s₁.setTop (mkF m 16 #[.val (.int p1), .val (.int p2), .val (.int p3), .val (.int p4), .val (.int p5), .val (.int p6), .val (.int i7), .unset, .unset, .unset, .unset, .unset, .unset, .unset, .unset, .unset, .unset, .unset, .unset, .unset] [(.int i15)]))
  refine Go.step (fun t k => XS.istore X0.here hx rfl (hb hby at_16) rfl (l' := #[.val (.int p1), .val (.int p2), .val (.int p3), .val (.int p4), .val (.int p5), .val (.int p6), .val (.int i7), .val (.int i15), .unset, .unset, .unset, .unset, .unset, .unset, .unset, .unset, .unset, .unset, .unset, .unset]) rfl k) ?_
  show Go p.tables e below P (s₁.setTop (mkF m 18 #[.val (.int p1), .val (.int p2), .val (.int p3), .val (.int p4), .val (.int p5), .val (.int p6), .val (.int i7), .val (.int i15), .unset, .unset, .unset, .unset, .unset, .unset, .unset, .unset, .unset, .unset, .unset, .unset] []))
  have e1 : (1 : Int32).toInt = 1 := rfl
  have f3 := c_mask p4 (2147483647 : Int32) 31 (by decide) rfl; rw [hi3] at f3
  have f5 := c_irem i3 (3 : Int32) 3 rfl; rw [hi5] at f5
  have f5' := f5.1 (by omega)
  have f7 := c_iadd i5 (1 : Int32); rw [hi7, e1] at f7
  have g7 := rng32 i7
  have b7 : i7.toInt = 1 ∨ i7.toInt = 2 ∨ i7.toInt = 3 := by omega
  have f13 := c_mask p3 (15 : Int32) 4 (by decide) rfl; rw [hi13] at f13
  have f15 := c_iadd i13 (1 : Int32); rw [hi15, e1] at f15
  have g15 := rng32 i15
  have b15 : 0 < i15.toInt ∧ i15.toInt ≤ 16 := by omega
  clear f3 f5 f5' f7 f13 f15
  refine Go.step (fun t k => XS.iload X0.here hx rfl (hb hby at_18) rfl  k) ?_
  show Go p.tables e below P (s₁.setTop (mkF m 20 #[.val (.int p1), .val (.int p2), .val (.int p3), .val (.int p4), .val (.int p5), .val (.int p6), .val (.int i7), .val (.int i15), .unset, .unset, .unset, .unset, .unset, .unset, .unset, .unset, .unset, .unset, .unset, .unset] [(.int i7)]))
  obtain ⟨dl7, hdl7⟩ : ∃ z : UInt64, FP.i2d i7 = z := ⟨_, rfl⟩
  refine Go.step (fun t k => XS.i2dS X0.here hx rfl (hb hby at_20) rfl hdl7 k) ?_
  show Go p.tables e below P (s₁.setTop (mkF m 21 #[.val (.int p1), .val (.int p2), .val (.int p3), .val (.int p4), .val (.int p5), .val (.int p6), .val (.int i7), .val (.int i15), .unset, .unset, .unset, .unset, .unset, .unset, .unset, .unset, .unset, .unset, .unset, .unset] [(.double dl7)]))
  have q7 := i2d_e i7; rw [hdl7] at q7
  have q4 : DE 1076 1 (4616189618054758400 : UInt64) := DE.of ⟨_, _, _, rfl⟩ (by decide +kernel)
  refine Go.step (fun t k => X0.ldc2DoubleC hx hown (mvT hZ (hw _ (List.mem_of_getElem? (i := 1) rfl))) (g := (mkF m 21 #[.val (.int p1), .val (.int p2), .val (.int p3), .val (.int p4), .val (.int p5), .val (.int p6), .val (.int i7), .val (.int i15), .unset, .unset, .unset, .unset, .unset, .unset, .unset, .unset, .unset, .unset, .unset, .unset] [(.double dl7)])) rfl (hb hby at_21) t k) ?_
  show Go p.tables e below P (s₁.setTop (mkF m 24 #[.val (.int p1), .val (.int p2), .val (.int p3), .val (.int p4), .val (.int p5), .val (.int p6), .val (.int i7), .val (.int i15), .unset, .unset, .unset, .unset, .unset, .unset, .unset, .unset, .unset, .unset, .unset, .unset] [(.double (4616189618054758400 : UInt64)), (.double dl7)]))
  obtain ⟨la, hla⟩ : ∃ z : UInt64, FP.ddiv dl7 (4616189618054758400 : UInt64) = z := ⟨_, rfl⟩
  have qla := div_e (k := 1072) (n := i7.toInt) q7 q4 (by decide) rfl (Int.mul_one _) (by omega) (by decide)
  rw [hla] at qla
  refine Go.step (fun t k => XS.ddivS X0.here hx rfl (hb hby at_24) rfl (hla ▸ qla.nn) hla k) ?_
  show Go p.tables e below P (s₁.setTop (mkF m 25 #[.val (.int p1), .val (.int p2), .val (.int p3), .val (.int p4), .val (.int p5), .val (.int p6), .val (.int i7), .val (.int i15), .unset, .unset, .unset, .unset, .unset, .unset, .unset, .unset, .unset, .unset, .unset, .unset] [(.double la)]))
  refine Go.step (fun t k => XS.dstore X0.here hx rfl (hb hby at_25) rfl (l' := #[.val (.int p1), .val (.int p2), .val (.int p3), .val (.int p4), .val (.int p5), .val (.int p6), .val (.int i7), .val (.int i15), .val (.double la), .second, .unset, .unset, .unset, .unset, .unset, .unset, .unset, .unset, .unset, .unset]) rfl k) ?_
  show Go p.tables e below P (s₁.setTop (mkF m 27 #[.val (.int p1), .val (.int p2), .val (.int p3), .val (.int p4), .val (.int p5), .val (.int p6), .val (.int i7), .val (.int i15), .val (.double la), .second, .unset, .unset, .unset, .unset, .unset, .unset, .unset, .unset, .unset, .unset] []))
  refine Go.step (fun t k => XS.iload X0.here hx rfl (hb hby at_27) rfl  k) ?_
  show Go p.tables e below P (s₁.setTop (mkF m 29 #[.val (.int p1), .val (.int p2), .val (.int p3), .val (.int p4), .val (.int p5), .val (.int p6), .val (.int i7), .val (.int i15), .val (.double la), .second, .unset, .unset, .unset, .unset, .unset, .unset, .unset, .unset, .unset, .unset] [(.int i15)]))
  obtain ⟨dc15, hdc15⟩ : ∃ z : UInt64, FP.i2d i15 = z := ⟨_, rfl⟩
  refine Go.step (fun t k => XS.i2dS X0.here hx rfl (hb hby at_29) rfl hdc15 k) ?_
  show Go p.tables e below P (s₁.setTop (mkF m 30 #[.val (.int p1), .val (.int p2), .val (.int p3), .val (.int p4), .val (.int p5), .val (.int p6), .val (.int i7), .val (.int i15), .val (.double la), .second, .unset, .unset, .unset, .unset, .unset, .unset, .unset, .unset, .unset, .unset] [(.double dc15)]))
  have q15 := i2d_e i15; rw [hdc15] at q15
  have q16 : DE 1078 1 (4625196817309499392 : UInt64) := DE.of ⟨_, _, _, rfl⟩ (by decide +kernel)
  refine Go.step (fun t k => X0.ldc2DoubleC hx hown (mvT hZ (hw _ (List.mem_of_getElem? (i := 2) rfl))) (g := (mkF m 30 #[.val (.int p1), .val (.int p2), .val (.int p3), .val (.int p4), .val (.int p5), .val (.int p6), .val (.int i7), .val (.int i15), .val (.double la), .second, .unset, .unset, .unset, .unset, .unset, .unset, .unset, .unset, .unset, .unset] [(.double dc15)])) rfl (hb hby at_30) t k) ?_
  show Go p.tables e below P (s₁.setTop (mkF m 33 #[.val (.int p1), .val (.int p2), .val (.int p3), .val (.int p4), .val (.int p5), .val (.int p6), .val (.int i7), .val (.int i15), .val (.double la), .second, .unset, .unset, .unset, .unset, .unset, .unset, .unset, .unset, .unset, .unset] [(.double (4625196817309499392 : UInt64)), (.double dc15)]))
  obtain ⟨co, hco⟩ : ∃ z : UInt64, FP.ddiv dc15 (4625196817309499392 : UInt64) = z := ⟨_, rfl⟩
  have qco := div_e (k := 1070) (n := i15.toInt) q15 q16 (by decide) rfl (Int.mul_one _) (by omega) (by decide)
  rw [hco] at qco
  refine Go.step (fun t k => XS.ddivS X0.here hx rfl (hb hby at_33) rfl (hco ▸ qco.nn) hco k) ?_
  show Go p.tables e below P (s₁.setTop (mkF m 34 #[.val (.int p1), .val (.int p2), .val (.int p3), .val (.int p4), .val (.int p5), .val (.int p6), .val (.int i7), .val (.int i15), .val (.double la), .second, .unset, .unset, .unset, .unset, .unset, .unset, .unset, .unset, .unset, .unset] [(.double co)]))
  refine Go.step (fun t k => XS.dstore X0.here hx rfl (hb hby at_34) rfl (l' := #[.val (.int p1), .val (.int p2), .val (.int p3), .val (.int p4), .val (.int p5), .val (.int p6), .val (.int i7), .val (.int i15), .val (.double la), .second, .val (.double co), .second, .unset, .unset, .unset, .unset, .unset, .unset, .unset, .unset]) rfl k) ?_
  show Go p.tables e below P (s₁.setTop (mkF m 36 #[.val (.int p1), .val (.int p2), .val (.int p3), .val (.int p4), .val (.int p5), .val (.int p6), .val (.int i7), .val (.int i15), .val (.double la), .second, .val (.double co), .second, .unset, .unset, .unset, .unset, .unset, .unset, .unset, .unset] []))
  obtain ⟨T_1, h_1, X_1, e_1, E_1, A_1, D_1, -, st_1⟩ := newO X0 hx hZ hown (hw _ (List.mem_of_getElem? (i := 3) rfl)) (hw _ (List.mem_of_getElem? (i := 4) rfl)) (hw _ (List.mem_of_getElem? (i := 5) rfl)) e0 (g := (mkF m 36 #[.val (.int p1), .val (.int p2), .val (.int p3), .val (.int p4), .val (.int p5), .val (.int p6), .val (.int i7), .val (.int i15), .val (.double la), .second, .val (.double co), .second, .unset, .unset, .unset, .unset, .unset, .unset, .unset, .unset] [])) rfl (hb hby at_36) (by decide) (by decide)
  obtain ⟨b_1, g_1⟩ : ∃ z, z = h0.size := ⟨_, rfl⟩
  rw [← g_1] at A_1 D_1 st_1
  have g_b_1 : n0 ≤ b_1 := Nat.le_trans Z0 (Nat.le_of_eq g_1.symm)
  have sz_b_1 : h0.size ≤ b_1 := Nat.le_trans (Keep.refl h0 []).1 (Nat.le_of_eq g_1.symm)
  have F_lambda_b_1 : Fld Z h_1 b_1 "com/example/eliteness/eliteness/ranking/Smoothing$JelinekMercer" "lambda" "D" (.double (0 : UInt64)) := D_1 (Or.inr (hw _ (List.mem_of_getElem? (i := 18) rfl))) (ty := .double) (by decide)
  have K_1 : Keep h0 h_1 [] := (Keep.refl h0 []).ext E_1
  have Z_1 : n0 ≤ h_1.size := Nat.le_trans Z0 E_1.1
  refine Go.step (fun t k => st_1 t k) ?_
  show Go p.tables e below P (T_1.setTop (mkF m 39 #[.val (.int p1), .val (.int p2), .val (.int p3), .val (.int p4), .val (.int p5), .val (.int p6), .val (.int i7), .val (.int i15), .val (.double la), .second, .val (.double co), .second, .unset, .unset, .unset, .unset, .unset, .unset, .unset, .unset] [(.ref b_1)]))
  refine Go.step (fun t k => XS.dup X_1.here hx rfl (hb hby at_39) rfl rfl k) ?_
  show Go p.tables e below P (T_1.setTop (mkF m 40 #[.val (.int p1), .val (.int p2), .val (.int p3), .val (.int p4), .val (.int p5), .val (.int p6), .val (.int i7), .val (.int i15), .val (.double la), .second, .val (.double co), .second, .unset, .unset, .unset, .unset, .unset, .unset, .unset, .unset] [(.ref b_1), (.ref b_1)]))
  refine Go.step (fun t k => XS.dload X_1.here hx rfl (hb hby at_40) rfl  k) ?_
  show Go p.tables e below P (T_1.setTop (mkF m 42 #[.val (.int p1), .val (.int p2), .val (.int p3), .val (.int p4), .val (.int p5), .val (.int p6), .val (.int i7), .val (.int i15), .val (.double la), .second, .val (.double co), .second, .unset, .unset, .unset, .unset, .unset, .unset, .unset, .unset] [(.double la), (.ref b_1), (.ref b_1)]))
  obtain ⟨_, _, ⟨T_2, L_2, k_2, n_2⟩, -, X_2, ⟨Lc_2, hQ_2, l_2, y_2, z_2⟩, st_2⟩ := X_1.specialBack hx (y := (⟨"com/example/eliteness/eliteness/ranking/Smoothing$JelinekMercer", "<init>", "(D)V"⟩ : MethodName)) rfl hown (mvT hZ (hw _ (List.mem_of_getElem? (i := 6) rfl))) (mvT hZ (hw _ (List.mem_of_getElem? (i := 7) rfl))) (mvT hZ (hw _ (List.mem_of_getElem? (i := 8) rfl))) (by decide) (backOf (W := 1) (rm3 l Z a0 hw [] b_1 la h_1 n0 Z_1 A_1 F_lambda_b_1 g_b_1 i7.toInt qla (by omega) (by omega)) hZ (hw _ (List.mem_of_getElem? (i := 8) rfl)) (hw _ (List.mem_of_getElem? (i := 5) rfl)) (by decide) (by decide)) (g := (mkF m 42 #[.val (.int p1), .val (.int p2), .val (.int p3), .val (.int p4), .val (.int p5), .val (.int p6), .val (.int i7), .val (.int i15), .val (.double la), .second, .val (.double co), .second, .unset, .unset, .unset, .unset, .unset, .unset, .unset, .unset] [(.double la), (.ref b_1), (.ref b_1)])) rfl (by rw [hml]; rfl) (Steps.refl _) (a := b_1) (argsL := [(.double la)]) (rest := [(.ref b_1)]) (lenOf pd_1 rfl) rfl (by show 2 * 0 + _ ≤ _; exact Nat.le_of_eq rfl) (hb hby at_42) (fun _ _ => ⟨rfl, e_1, (by decide : 1 + 0 ≤ _), (by decide : 1 + 0 ≤ _)⟩)
  dsimp only [Pt.U, Pt.locs, Pt.cells, Pt.slots] at X_2 l_2 y_2 z_2 st_2 hQ_2
  subst l_2 y_2 z_2
  obtain ⟨rfl, N_2q, Kc_2, Ee_2, Ff_lambda__2⟩ := hQ_2
  have N_2 := Fr.app N0 N_2q
  have K_2 : Keep h0 T_2.heap [] := K_1.trans Kc_2 (allS (Or.inr sz_b_1) all0)
  have Z_2 : n0 ≤ T_2.heap.size := Nat.le_trans Z_1 Kc_2.1
  refine Go.tr st_2 ?_
  show Go p.tables e below P (T_2.setTop (mkF m 45 #[.val (.int p1), .val (.int p2), .val (.int p3), .val (.int p4), .val (.int p5), .val (.int p6), .val (.int i7), .val (.int i15), .val (.double la), .second, .val (.double co), .second, .unset, .unset, .unset, .unset, .unset, .unset, .unset, .unset] [(.ref b_1)]))
  refine Go.step (fun t k => XS.astore X_2.here hx rfl (hb hby at_45) rfl rfl (l' := #[.val (.int p1), .val (.int p2), .val (.int p3), .val (.int p4), .val (.int p5), .val (.int p6), .val (.int i7), .val (.int i15), .val (.double la), .second, .val (.double co), .second, .val (.ref b_1), .unset, .unset, .unset, .unset, .unset, .unset, .unset]) rfl k) ?_
  show Go p.tables e below P (T_2.setTop (mkF m 47 #[.val (.int p1), .val (.int p2), .val (.int p3), .val (.int p4), .val (.int p5), .val (.int p6), .val (.int i7), .val (.int i15), .val (.double la), .second, .val (.double co), .second, .val (.ref b_1), .unset, .unset, .unset, .unset, .unset, .unset, .unset] []))
  refine Go.step (fun t k => XS.iconst X_2.here hx rfl (hb hby at_47) k) ?_
  show Go p.tables e below P (T_2.setTop (mkF m 48 #[.val (.int p1), .val (.int p2), .val (.int p3), .val (.int p4), .val (.int p5), .val (.int p6), .val (.int i7), .val (.int i15), .val (.double la), .second, .val (.double co), .second, .val (.ref b_1), .unset, .unset, .unset, .unset, .unset, .unset, .unset] [(.int (4 : Int32))]))
  refine Go.step (fun t k => XS.iload X_2.here hx rfl (hb hby at_48) rfl  k) ?_
  show Go p.tables e below P (T_2.setTop (mkF m 50 #[.val (.int p1), .val (.int p2), .val (.int p3), .val (.int p4), .val (.int p5), .val (.int p6), .val (.int i7), .val (.int i15), .val (.double la), .second, .val (.double co), .second, .val (.ref b_1), .unset, .unset, .unset, .unset, .unset, .unset, .unset] [(.int i7), (.int (4 : Int32))]))
  obtain ⟨i50, hi50⟩ : ∃ z : Int32, (4 : Int32) - i7 = z := ⟨_, rfl⟩
  refine Go.step (fun t k => isub_v X_2.here hx rfl (hb hby at_50) rfl  hi50 k) ?_
  show Go p.tables e below P (T_2.setTop (mkF m 51 #[.val (.int p1), .val (.int p2), .val (.int p3), .val (.int p4), .val (.int p5), .val (.int p6), .val (.int i7), .val (.int i15), .val (.double la), .second, .val (.double co), .second, .val (.ref b_1), .unset, .unset, .unset, .unset, .unset, .unset, .unset] [(.int i50)]))
  refine Go.step (fun t k => XS.iload X_2.here hx rfl (hb hby at_51) rfl  k) ?_
  show Go p.tables e below P (T_2.setTop (mkF m 53 #[.val (.int p1), .val (.int p2), .val (.int p3), .val (.int p4), .val (.int p5), .val (.int p6), .val (.int i7), .val (.int i15), .val (.double la), .second, .val (.double co), .second, .val (.ref b_1), .unset, .unset, .unset, .unset, .unset, .unset, .unset] [(.int i15), (.int i50)]))
  obtain ⟨i53, hi53⟩ : ∃ z : Int32, i50 * i15 = z := ⟨_, rfl⟩
  refine Go.step (fun t k => imul_v X_2.here hx rfl (hb hby at_53) rfl  hi53 k) ?_
  show Go p.tables e below P (T_2.setTop (mkF m 54 #[.val (.int p1), .val (.int p2), .val (.int p3), .val (.int p4), .val (.int p5), .val (.int p6), .val (.int i7), .val (.int i15), .val (.double la), .second, .val (.double co), .second, .val (.ref b_1), .unset, .unset, .unset, .unset, .unset, .unset, .unset] [(.int i53)]))
  have e4 : (4 : Int32).toInt = 4 := rfl
  have f50 := c_isub (4 : Int32) i7; rw [hi50, e4] at f50
  have g50 := rng32 i50
  have v50 : i50.toInt = 4 - i7.toInt := by omega
  have f53 := c_imul i50 i15; rw [hi53, v50] at f53
  have g53 := rng32 i53
  have bm := nmul (show (4 - i7.toInt).natAbs ≤ 3 by omega) (show i15.toInt.natAbs ≤ 16 by omega)
  have v53 : (4 - i7.toInt) * i15.toInt = i53.toInt := by omega
  have b53 : 0 ≤ i53.toInt ∧ i53.toInt ≤ 64 := by have := Int.mul_nonneg (show 0 ≤ 4 - i7.toInt by omega) (show 0 ≤ i15.toInt by omega); omega
  clear f50 f53
  have q64 : DE 1080 1 (4634204016564240384 : UInt64) := DE.of ⟨_, _, _, rfl⟩ (by decide +kernel)
  refine Go.step (fun t k => XS.istore X_2.here hx rfl (hb hby at_54) rfl (l' := #[.val (.int p1), .val (.int p2), .val (.int p3), .val (.int p4), .val (.int p5), .val (.int p6), .val (.int i7), .val (.int i15), .val (.double la), .second, .val (.double co), .second, .val (.ref b_1), .val (.int i53), .unset, .unset, .unset, .unset, .unset, .unset]) rfl k) ?_
  show Go p.tables e below P (T_2.setTop (mkF m 56 #[.val (.int p1), .val (.int p2), .val (.int p3), .val (.int p4), .val (.int p5), .val (.int p6), .val (.int i7), .val (.int i15), .val (.double la), .second, .val (.double co), .second, .val (.ref b_1), .val (.int i53), .unset, .unset, .unset, .unset, .unset, .unset] []))
  refine Go.step (fun t k => XS.iload X_2.here hx rfl (hb hby at_56) rfl  k) ?_
  show Go p.tables e below P (T_2.setTop (mkF m 58 #[.val (.int p1), .val (.int p2), .val (.int p3), .val (.int p4), .val (.int p5), .val (.int p6), .val (.int i7), .val (.int i15), .val (.double la), .second, .val (.double co), .second, .val (.ref b_1), .val (.int i53), .unset, .unset, .unset, .unset, .unset, .unset] [(.int p6)]))
  refine Go.step (fun t k => XS.iconst X_2.here hx rfl (hb hby at_58) k) ?_
  show Go p.tables e below P (T_2.setTop (mkF m 59 #[.val (.int p1), .val (.int p2), .val (.int p3), .val (.int p4), .val (.int p5), .val (.int p6), .val (.int i7), .val (.int i15), .val (.double la), .second, .val (.double co), .second, .val (.ref b_1), .val (.int i53), .unset, .unset, .unset, .unset, .unset, .unset] [(.int (3 : Int32)), (.int p6)]))
  obtain ⟨i59, hi59⟩ : ∃ z : Int32, p6 &&& (3 : Int32) = z := ⟨_, rfl⟩
  refine Go.step (fun t k => iand_v X_2.here hx rfl (hb hby at_59) rfl  hi59 k) ?_
  show Go p.tables e below P (T_2.setTop (mkF m 60 #[.val (.int p1), .val (.int p2), .val (.int p3), .val (.int p4), .val (.int p5), .val (.int p6), .val (.int i7), .val (.int i15), .val (.double la), .second, .val (.double co), .second, .val (.ref b_1), .val (.int i53), .unset, .unset, .unset, .unset, .unset, .unset] [(.int i59)]))
  refine Go.step (fun t k => XS.istore X_2.here hx rfl (hb hby at_60) rfl (l' := #[.val (.int p1), .val (.int p2), .val (.int p3), .val (.int p4), .val (.int p5), .val (.int p6), .val (.int i7), .val (.int i15), .val (.double la), .second, .val (.double co), .second, .val (.ref b_1), .val (.int i53), .val (.int i59), .unset, .unset, .unset, .unset, .unset]) rfl k) ?_
  show Go p.tables e below P (T_2.setTop (mkF m 62 #[.val (.int p1), .val (.int p2), .val (.int p3), .val (.int p4), .val (.int p5), .val (.int p6), .val (.int i7), .val (.int i15), .val (.double la), .second, .val (.double co), .second, .val (.ref b_1), .val (.int i53), .val (.int i59), .unset, .unset, .unset, .unset, .unset] []))
  refine Go.step (fun t k => XS.iload X_2.here hx rfl (hb hby at_62) rfl  k) ?_
  show Go p.tables e below P (T_2.setTop (mkF m 64 #[.val (.int p1), .val (.int p2), .val (.int p3), .val (.int p4), .val (.int p5), .val (.int p6), .val (.int i7), .val (.int i15), .val (.double la), .second, .val (.double co), .second, .val (.ref b_1), .val (.int i53), .val (.int i59), .unset, .unset, .unset, .unset, .unset] [(.int i59)]))
  by_cases hc64 : ¬ i59.toInt = 0
  · refine Go.step (fun t k => XS.ifYes X_2.here hx rfl (pc0 := 64) (pc' := 133) rfl (hb hby at_64) rfl (ifY (cd := .ne) hc64) (by decide) (by decide) k) ?_
    show Go p.tables e below P (T_2.setTop (mkF m 133 #[.val (.int p1), .val (.int p2), .val (.int p3), .val (.int p4), .val (.int p5), .val (.int p6), .val (.int i7), .val (.int i15), .val (.double la), .second, .val (.double co), .second, .val (.ref b_1), .val (.int i53), .val (.int i59), .unset, .unset, .unset, .unset, .unset] []))
    refine Go.step (fun t k => XS.iconst X_2.here hx rfl (hb hby at_133) k) ?_
    show Go p.tables e below P (T_2.setTop (mkF m 134 #[.val (.int p1), .val (.int p2), .val (.int p3), .val (.int p4), .val (.int p5), .val (.int p6), .val (.int i7), .val (.int i15), .val (.double la), .second, .val (.double co), .second, .val (.ref b_1), .val (.int i53), .val (.int i59), .unset, .unset, .unset, .unset, .unset] [(.int (1 : Int32))]))
    refine Go.step (fun t k => XS.iloadN X_2.here hx rfl (hb hby at_134) rfl  k) ?_
    show Go p.tables e below P (T_2.setTop (mkF m 135 #[.val (.int p1), .val (.int p2), .val (.int p3), .val (.int p4), .val (.int p5), .val (.int p6), .val (.int i7), .val (.int i15), .val (.double la), .second, .val (.double co), .second, .val (.ref b_1), .val (.int i53), .val (.int i59), .unset, .unset, .unset, .unset, .unset] [(.int p2), (.int (1 : Int32))]))
    refine Go.step (fun t k => X_2.ldcInt hx hown (mvT hZ (hw _ (List.mem_of_getElem? (i := 19) rfl))) (g := (mkF m 135 #[.val (.int p1), .val (.int p2), .val (.int p3), .val (.int p4), .val (.int p5), .val (.int p6), .val (.int i7), .val (.int i15), .val (.double la), .second, .val (.double co), .second, .val (.ref b_1), .val (.int i53), .val (.int i59), .unset, .unset, .unset, .unset, .unset] [(.int p2), (.int (1 : Int32))])) rfl (hb hby at_135) t k) ?_
    show Go p.tables e below P (T_2.setTop (mkF m 137 #[.val (.int p1), .val (.int p2), .val (.int p3), .val (.int p4), .val (.int p5), .val (.int p6), .val (.int i7), .val (.int i15), .val (.double la), .second, .val (.double co), .second, .val (.ref b_1), .val (.int i53), .val (.int i59), .unset, .unset, .unset, .unset, .unset] [(.int (1073741823 : Int32)), (.int p2), (.int (1 : Int32))]))
    obtain ⟨d0, hd0⟩ : ∃ z : Int32, p2 &&& (1073741823 : Int32) = z := ⟨_, rfl⟩
    refine Go.step (fun t k => iand_v X_2.here hx rfl (hb hby at_137) rfl  hd0 k) ?_
    show Go p.tables e below P (T_2.setTop (mkF m 138 #[.val (.int p1), .val (.int p2), .val (.int p3), .val (.int p4), .val (.int p5), .val (.int p6), .val (.int i7), .val (.int i15), .val (.double la), .second, .val (.double co), .second, .val (.ref b_1), .val (.int i53), .val (.int i59), .unset, .unset, .unset, .unset, .unset] [(.int d0), (.int (1 : Int32))]))
    have f137 := c_mask p2 (1073741823 : Int32) 30 (by decide) rfl; rw [hd0] at f137
    obtain ⟨_, _, ⟨T_3, L_3, k_3, n_3⟩, -, X_3, ⟨Lc_3, hQ_3, l_3, y_3, z_3⟩, st_3⟩ := Jvm.LawKit.callS X_2 hx (y := (⟨"java/lang/Math", "max", "(II)I"⟩ : MethodName)) hown (mvT hZ (hw _ (List.mem_of_getElem? (i := 20) rfl))) (mvT hZ (hw _ (List.mem_of_getElem? (i := 21) rfl))) (mvT hZ (hw _ (List.mem_of_getElem? (i := 22) rfl))) (mvT hZ (hw _ (List.mem_of_getElem? (i := 23) rfl))) (by decide) (backOf (W := 0) (rm2 l Z a0 hw [] (1 : Int32) d0 T_2.heap n0 Z_2 ) hZ (hw _ (List.mem_of_getElem? (i := 23) rfl)) (hw _ (List.mem_of_getElem? (i := 22) rfl)) (by decide) (by decide)) (g := (mkF m 138 #[.val (.int p1), .val (.int p2), .val (.int p3), .val (.int p4), .val (.int p5), .val (.int p6), .val (.int i7), .val (.int i15), .val (.double la), .second, .val (.double co), .second, .val (.ref b_1), .val (.int i53), .val (.int i59), .unset, .unset, .unset, .unset, .unset] [(.int d0), (.int (1 : Int32))])) rfl (by rw [hml]; rfl) (argsL := [(.int (1 : Int32)), (.int d0)]) (rest := []) (lenOf pd_2 rfl) rfl (by show 2 * 0 + _ ≤ _; exact Nat.le_of_eq rfl) (hb hby at_138) (fun _ _ => ⟨rfl, rfl, (by decide : 1 + 0 ≤ _), (by decide : 1 + 0 ≤ _)⟩)
    dsimp only [Pt.U, Pt.locs, Pt.cells, Pt.slots] at X_3 l_3 y_3 z_3 st_3 hQ_3
    subst l_3 y_3 z_3
    obtain ⟨dl, rfl, hdl, N_3q, eh_3⟩ := hQ_3
    have N_3 := Fr.app N_2 N_3q
    refine Go.step (fun t k => st_3 t k) ?_
    show Go p.tables e below P (T_3.setTop (mkF m 141 #[.val (.int p1), .val (.int p2), .val (.int p3), .val (.int p4), .val (.int p5), .val (.int p6), .val (.int i7), .val (.int i15), .val (.double la), .second, .val (.double co), .second, .val (.ref b_1), .val (.int i53), .val (.int i59), .unset, .unset, .unset, .unset, .unset] [(.int dl)]))
    rw [e1] at hdl
    have bdl : 1 ≤ dl.toInt ∧ dl.toInt < 1073741824 := by omega
    refine Go.step (fun t k => XS.istore X_3.here hx rfl (hb hby at_141) rfl (l' := #[.val (.int p1), .val (.int p2), .val (.int p3), .val (.int p4), .val (.int p5), .val (.int p6), .val (.int i7), .val (.int i15), .val (.double la), .second, .val (.double co), .second, .val (.ref b_1), .val (.int i53), .val (.int i59), .val (.int dl), .unset, .unset, .unset, .unset]) rfl k) ?_
    show Go p.tables e below P (T_3.setTop (mkF m 143 #[.val (.int p1), .val (.int p2), .val (.int p3), .val (.int p4), .val (.int p5), .val (.int p6), .val (.int i7), .val (.int i15), .val (.double la), .second, .val (.double co), .second, .val (.ref b_1), .val (.int i53), .val (.int i59), .val (.int dl), .unset, .unset, .unset, .unset] []))
    have J173 : ∀ (tf : Int32), (0 ≤ tf.toInt ∧ tf.toInt ≤ dl.toInt) → Go p.tables e below P (T_3.setTop (mkF m 173 #[.val (.int p1), .val (.int p2), .val (.int p3), .val (.int p4), .val (.int p5), .val (.int p6), .val (.int i7), .val (.int i15), .val (.double la), .second, .val (.double co), .second, .val (.ref b_1), .val (.int i53), .val (.int i59), .val (.int dl), .unset, .unset, .unset, .unset] [(.int tf)])) := by
      intro tf hj_
      show Go p.tables e below P (T_3.setTop (mkF m 173 #[.val (.int p1), .val (.int p2), .val (.int p3), .val (.int p4), .val (.int p5), .val (.int p6), .val (.int i7), .val (.int i15), .val (.double la), .second, .val (.double co), .second, .val (.ref b_1), .val (.int i53), .val (.int i59), .val (.int dl), .unset, .unset, .unset, .unset] [(.int tf)]))
      obtain ⟨lo, hi, k1, k2, k3, k4, k5, k6, k7, k8⟩ := jm_b b7 hj_ bdl
      refine Go.step (fun t k => XS.istore X_3.here hx rfl (hb hby at_173) rfl (l' := #[.val (.int p1), .val (.int p2), .val (.int p3), .val (.int p4), .val (.int p5), .val (.int p6), .val (.int i7), .val (.int i15), .val (.double la), .second, .val (.double co), .second, .val (.ref b_1), .val (.int i53), .val (.int i59), .val (.int dl), .val (.int tf), .unset, .unset, .unset]) rfl k) ?_
      show Go p.tables e below P (T_3.setTop (mkF m 175 #[.val (.int p1), .val (.int p2), .val (.int p3), .val (.int p4), .val (.int p5), .val (.int p6), .val (.int i7), .val (.int i15), .val (.double la), .second, .val (.double co), .second, .val (.ref b_1), .val (.int i53), .val (.int i59), .val (.int dl), .val (.int tf), .unset, .unset, .unset] []))
      refine Go.step (fun t k => XS.aload X_3.here hx rfl (hb hby at_175) rfl rfl k) ?_
      show Go p.tables e below P (T_3.setTop (mkF m 177 #[.val (.int p1), .val (.int p2), .val (.int p3), .val (.int p4), .val (.int p5), .val (.int p6), .val (.int i7), .val (.int i15), .val (.double la), .second, .val (.double co), .second, .val (.ref b_1), .val (.int i53), .val (.int i59), .val (.int dl), .val (.int tf), .unset, .unset, .unset] [(.ref b_1)]))
      refine Go.step (fun t k => XS.iload X_3.here hx rfl (hb hby at_177) rfl  k) ?_
      show Go p.tables e below P (T_3.setTop (mkF m 179 #[.val (.int p1), .val (.int p2), .val (.int p3), .val (.int p4), .val (.int p5), .val (.int p6), .val (.int i7), .val (.int i15), .val (.double la), .second, .val (.double co), .second, .val (.ref b_1), .val (.int i53), .val (.int i59), .val (.int dl), .val (.int tf), .unset, .unset, .unset] [(.int tf), (.ref b_1)]))
      refine Go.step (fun t k => XS.iload X_3.here hx rfl (hb hby at_179) rfl  k) ?_
      show Go p.tables e below P (T_3.setTop (mkF m 181 #[.val (.int p1), .val (.int p2), .val (.int p3), .val (.int p4), .val (.int p5), .val (.int p6), .val (.int i7), .val (.int i15), .val (.double la), .second, .val (.double co), .second, .val (.ref b_1), .val (.int i53), .val (.int i59), .val (.int dl), .val (.int tf), .unset, .unset, .unset] [(.int dl), (.int tf), (.ref b_1)]))
      refine Go.step (fun t k => XS.dload X_3.here hx rfl (hb hby at_181) rfl  k) ?_
      show Go p.tables e below P (T_3.setTop (mkF m 183 #[.val (.int p1), .val (.int p2), .val (.int p3), .val (.int p4), .val (.int p5), .val (.int p6), .val (.int i7), .val (.int i15), .val (.double la), .second, .val (.double co), .second, .val (.ref b_1), .val (.int i53), .val (.int i59), .val (.int dl), .val (.int tf), .unset, .unset, .unset] [(.double co), (.int dl), (.int tf), (.ref b_1)]))
      refine Go.step (fun t k => XS.iload X_3.here hx rfl (hb hby at_183) rfl  k) ?_
      show Go p.tables e below P (T_3.setTop (mkF m 185 #[.val (.int p1), .val (.int p2), .val (.int p3), .val (.int p4), .val (.int p5), .val (.int p6), .val (.int i7), .val (.int i15), .val (.double la), .second, .val (.double co), .second, .val (.ref b_1), .val (.int i53), .val (.int i59), .val (.int dl), .val (.int tf), .unset, .unset, .unset] [(.int p5), (.double co), (.int dl), (.int tf), (.ref b_1)]))
      obtain ⟨cq_4, kq_4, q_4a, q_4b, q_4c⟩ := isOf hZ eh_3 (A_1.keep Kc_2)
      obtain ⟨_, _, ⟨T_4, L_4, k_4, n_4⟩, -, X_4, ⟨Lc_4, hQ_4, l_4, y_4, z_4⟩, st_4⟩ := X_3.virtualBack hx (y := (⟨"com/example/eliteness/eliteness/ranking/Smoothing$JelinekMercer", "probability", "(IIDI)D"⟩ : MethodName)) (z := (⟨"com/example/eliteness/eliteness/ranking/Smoothing$JelinekMercer", "probability", "(IIDI)D"⟩ : MethodName)) hown (mvT hZ (hw _ (List.mem_of_getElem? (i := 24) rfl))) (mvT hZ (hw _ (List.mem_of_getElem? (i := 25) rfl))) (notFace_of_selects (args := #[]) (mvT hZ (hw _ (List.mem_of_getElem? (i := 27) rfl)))) (mvT hZ (hw _ (List.mem_of_getElem? (i := 27) rfl))) (mvT hZ (hw _ (List.mem_of_getElem? (i := 26) rfl))) (by decide) (backOf (W := 0) (rm4 l Z a0 hw [] b_1 tf dl co p5 la i7.toInt i15.toInt i53.toInt lo hi T_2.heap n0 Z_2 Ff_lambda__2 qla qco (by omega) b15 v53 b53 hj_.1 (by omega) k1 k2 k3 (by omega) k4) hZ (hw _ (List.mem_of_getElem? (i := 28) rfl)) (hw _ (List.mem_of_getElem? (i := 5) rfl)) (by decide) (by decide)) q_4a q_4c (g := (mkF m 185 #[.val (.int p1), .val (.int p2), .val (.int p3), .val (.int p4), .val (.int p5), .val (.int p6), .val (.int i7), .val (.int i15), .val (.double la), .second, .val (.double co), .second, .val (.ref b_1), .val (.int i53), .val (.int i59), .val (.int dl), .val (.int tf), .unset, .unset, .unset] [(.int p5), (.double co), (.int dl), (.int tf), (.ref b_1)])) rfl (by rw [hml]; rfl) (Steps.refl _) (argsL := [(.int tf), (.int dl), (.double co), (.int p5)]) (rest := []) (lenOf pd_3 rfl) rfl (by show 2 * 0 + _ ≤ _; exact Nat.le_of_eq rfl) (hb hby at_185) (fun _ _ => ⟨rfl, eh_3, (by decide : 1 + 0 ≤ _), (by decide : 1 + 0 ≤ _)⟩)
      dsimp only [Pt.U, Pt.locs, Pt.cells, Pt.slots] at X_4 l_4 y_4 z_4 st_4 hQ_4
      subst l_4 y_4 z_4
      obtain ⟨rr, rfl, qr, N_4q, eh_4⟩ := hQ_4
      have N_4 := Fr.app N_3 N_4q
      refine Go.tr st_4 ?_
      show Go p.tables e below P (T_4.setTop (mkF m 188 #[.val (.int p1), .val (.int p2), .val (.int p3), .val (.int p4), .val (.int p5), .val (.int p6), .val (.int i7), .val (.int i15), .val (.double la), .second, .val (.double co), .second, .val (.ref b_1), .val (.int i53), .val (.int i59), .val (.int dl), .val (.int tf), .unset, .unset, .unset] [(.double rr)]))
      refine Go.step (fun t k => X_4.ldc2DoubleC hx hown (mvT hZ (hw _ (List.mem_of_getElem? (i := 29) rfl))) (g := (mkF m 188 #[.val (.int p1), .val (.int p2), .val (.int p3), .val (.int p4), .val (.int p5), .val (.int p6), .val (.int i7), .val (.int i15), .val (.double la), .second, .val (.double co), .second, .val (.ref b_1), .val (.int i53), .val (.int i59), .val (.int dl), .val (.int tf), .unset, .unset, .unset] [(.double rr)])) rfl (hb hby at_188) t k) ?_
      show Go p.tables e below P (T_4.setTop (mkF m 191 #[.val (.int p1), .val (.int p2), .val (.int p3), .val (.int p4), .val (.int p5), .val (.int p6), .val (.int i7), .val (.int i15), .val (.double la), .second, .val (.double co), .second, .val (.ref b_1), .val (.int i53), .val (.int i59), .val (.int dl), .val (.int tf), .unset, .unset, .unset] [(.double (4634204016564240384 : UInt64)), (.double rr)]))
      obtain ⟨r64, hr64⟩ : ∃ z : UInt64, FP.dmul rr (4634204016564240384 : UInt64) = z := ⟨_, rfl⟩
      have q64r := mul_b (k := 1048) (lo := lo + i53.toInt * 67108864) (hi := hi + i53.toInt * 67108864) qr q64 (by decide) rfl (by omega) (by omega) (by omega) (by omega) (by decide)
      rw [hr64] at q64r
      refine Go.step (fun t k => XS.dmulS X_4.here hx rfl (hb hby at_191) rfl (hr64 ▸ q64r.nn) hr64 k) ?_
      show Go p.tables e below P (T_4.setTop (mkF m 192 #[.val (.int p1), .val (.int p2), .val (.int p3), .val (.int p4), .val (.int p5), .val (.int p6), .val (.int i7), .val (.int i15), .val (.double la), .second, .val (.double co), .second, .val (.ref b_1), .val (.int i53), .val (.int i59), .val (.int dl), .val (.int tf), .unset, .unset, .unset] [(.double r64)]))
      refine Go.step (fun t k => XS.dstore X_4.here hx rfl (hb hby at_192) rfl (l' := #[.val (.int p1), .val (.int p2), .val (.int p3), .val (.int p4), .val (.int p5), .val (.int p6), .val (.int i7), .val (.int i15), .val (.double la), .second, .val (.double co), .second, .val (.ref b_1), .val (.int i53), .val (.int i59), .val (.int dl), .val (.int tf), .val (.double r64), .second, .unset]) rfl k) ?_
      show Go p.tables e below P (T_4.setTop (mkF m 194 #[.val (.int p1), .val (.int p2), .val (.int p3), .val (.int p4), .val (.int p5), .val (.int p6), .val (.int i7), .val (.int i15), .val (.double la), .second, .val (.double co), .second, .val (.ref b_1), .val (.int i53), .val (.int i59), .val (.int dl), .val (.int tf), .val (.double r64), .second, .unset] []))
      refine Go.step (fun t k => XS.bipush X_4.here hx rfl (hb hby at_194) k) ?_
      show Go p.tables e below P (T_4.setTop (mkF m 196 #[.val (.int p1), .val (.int p2), .val (.int p3), .val (.int p4), .val (.int p5), .val (.int p6), .val (.int i7), .val (.int i15), .val (.double la), .second, .val (.double co), .second, .val (.ref b_1), .val (.int i53), .val (.int i59), .val (.int dl), .val (.int tf), .val (.double r64), .second, .unset] [(.int (16 : Int32))]))
      refine Go.step (fun t k => XS.iload X_4.here hx rfl (hb hby at_196) rfl  k) ?_
      show Go p.tables e below P (T_4.setTop (mkF m 198 #[.val (.int p1), .val (.int p2), .val (.int p3), .val (.int p4), .val (.int p5), .val (.int p6), .val (.int i7), .val (.int i15), .val (.double la), .second, .val (.double co), .second, .val (.ref b_1), .val (.int i53), .val (.int i59), .val (.int dl), .val (.int tf), .val (.double r64), .second, .unset] [(.int i7), (.int (16 : Int32))]))
      obtain ⟨i198, hi198⟩ : ∃ z : Int32, (16 : Int32) * i7 = z := ⟨_, rfl⟩
      refine Go.step (fun t k => imul_v X_4.here hx rfl (hb hby at_198) rfl  hi198 k) ?_
      show Go p.tables e below P (T_4.setTop (mkF m 199 #[.val (.int p1), .val (.int p2), .val (.int p3), .val (.int p4), .val (.int p5), .val (.int p6), .val (.int i7), .val (.int i15), .val (.double la), .second, .val (.double co), .second, .val (.ref b_1), .val (.int i53), .val (.int i59), .val (.int dl), .val (.int tf), .val (.double r64), .second, .unset] [(.int i198)]))
      refine Go.step (fun t k => XS.iload X_4.here hx rfl (hb hby at_199) rfl  k) ?_
      show Go p.tables e below P (T_4.setTop (mkF m 201 #[.val (.int p1), .val (.int p2), .val (.int p3), .val (.int p4), .val (.int p5), .val (.int p6), .val (.int i7), .val (.int i15), .val (.double la), .second, .val (.double co), .second, .val (.ref b_1), .val (.int i53), .val (.int i59), .val (.int dl), .val (.int tf), .val (.double r64), .second, .unset] [(.int i53), (.int i198)]))
      obtain ⟨i201, hi201⟩ : ∃ z : Int32, i198 + i53 = z := ⟨_, rfl⟩
      refine Go.step (fun t k => iadd_v X_4.here hx rfl (hb hby at_201) rfl  hi201 k) ?_
      show Go p.tables e below P (T_4.setTop (mkF m 202 #[.val (.int p1), .val (.int p2), .val (.int p3), .val (.int p4), .val (.int p5), .val (.int p6), .val (.int i7), .val (.int i15), .val (.double la), .second, .val (.double co), .second, .val (.ref b_1), .val (.int i53), .val (.int i59), .val (.int dl), .val (.int tf), .val (.double r64), .second, .unset] [(.int i201)]))
      refine Go.step (fun t k => XS.istore X_4.here hx rfl (hb hby at_202) rfl (l' := #[.val (.int p1), .val (.int p2), .val (.int p3), .val (.int p4), .val (.int p5), .val (.int p6), .val (.int i7), .val (.int i15), .val (.double la), .second, .val (.double co), .second, .val (.ref b_1), .val (.int i53), .val (.int i59), .val (.int dl), .val (.int tf), .val (.double r64), .second, .val (.int i201)]) rfl k) ?_
      show Go p.tables e below P (T_4.setTop (mkF m 204 #[.val (.int p1), .val (.int p2), .val (.int p3), .val (.int p4), .val (.int p5), .val (.int p6), .val (.int i7), .val (.int i15), .val (.double la), .second, .val (.double co), .second, .val (.ref b_1), .val (.int i53), .val (.int i59), .val (.int dl), .val (.int tf), .val (.double r64), .second, .val (.int i201)] []))
      have e16 : (16 : Int32).toInt = 16 := rfl
      have f198 := c_imul (16 : Int32) i7; rw [hi198, e16] at f198
      have g198 := rng32 i198
      have f201 := c_iadd i198 i53; rw [hi201] at f201
      have g201 := rng32 i201
      have v201 : i201.toInt = 16 * i7.toInt + i53.toInt := by omega
      have qbase := (i2d_e i53).down (k' := 1048) (n := 26) rfl
      have qtop := (i2d_e i201).down (k' := 1048) (n := 26) rfl
      rw [v201] at qtop
      refine Go.step (fun t k => XS.iload X_4.here hx rfl (hb hby at_204) rfl  k) ?_
      show Go p.tables e below P (T_4.setTop (mkF m 206 #[.val (.int p1), .val (.int p2), .val (.int p3), .val (.int p4), .val (.int p5), .val (.int p6), .val (.int i7), .val (.int i15), .val (.double la), .second, .val (.double co), .second, .val (.ref b_1), .val (.int i53), .val (.int i59), .val (.int dl), .val (.int tf), .val (.double r64), .second, .val (.int i201)] [(.int tf)]))
      by_cases hc206 : ¬ tf.toInt = 0
      · refine Go.step (fun t k => XS.ifYes X_4.here hx rfl (pc0 := 206) (pc' := 224) rfl (hb hby at_206) rfl (ifY (cd := .ne) hc206) (by decide) (by decide) k) ?_
        show Go p.tables e below P (T_4.setTop (mkF m 224 #[.val (.int p1), .val (.int p2), .val (.int p3), .val (.int p4), .val (.int p5), .val (.int p6), .val (.int i7), .val (.int i15), .val (.double la), .second, .val (.double co), .second, .val (.ref b_1), .val (.int i53), .val (.int i59), .val (.int dl), .val (.int tf), .val (.double r64), .second, .val (.int i201)] []))
        refine Go.step (fun t k => XS.iload X_4.here hx rfl (hb hby at_224) rfl  k) ?_
        show Go p.tables e below P (T_4.setTop (mkF m 226 #[.val (.int p1), .val (.int p2), .val (.int p3), .val (.int p4), .val (.int p5), .val (.int p6), .val (.int i7), .val (.int i15), .val (.double la), .second, .val (.double co), .second, .val (.ref b_1), .val (.int i53), .val (.int i59), .val (.int dl), .val (.int tf), .val (.double r64), .second, .val (.int i201)] [(.int tf)]))
        refine Go.step (fun t k => XS.iload X_4.here hx rfl (hb hby at_226) rfl  k) ?_
        show Go p.tables e below P (T_4.setTop (mkF m 228 #[.val (.int p1), .val (.int p2), .val (.int p3), .val (.int p4), .val (.int p5), .val (.int p6), .val (.int i7), .val (.int i15), .val (.double la), .second, .val (.double co), .second, .val (.ref b_1), .val (.int i53), .val (.int i59), .val (.int dl), .val (.int tf), .val (.double r64), .second, .val (.int i201)] [(.int dl), (.int tf)]))
        by_cases hc228 : ¬ tf.toInt = dl.toInt
        · refine Go.step (fun t k => XS.icmpYes X_4.here hx rfl (pc0 := 228) (pc' := 246) rfl (hb hby at_228) rfl (icY (cd := .ne) hc228) (by decide) (by decide) k) ?_
          show Go p.tables e below P (T_4.setTop (mkF m 246 #[.val (.int p1), .val (.int p2), .val (.int p3), .val (.int p4), .val (.int p5), .val (.int p6), .val (.int i7), .val (.int i15), .val (.double la), .second, .val (.double co), .second, .val (.ref b_1), .val (.int i53), .val (.int i59), .val (.int dl), .val (.int tf), .val (.double r64), .second, .val (.int i201)] []))
          have k9 := k8 (by omega) (by omega)
          refine Go.step (fun t k => XS.iload X_4.here hx rfl (hb hby at_246) rfl  k) ?_
          show Go p.tables e below P (T_4.setTop (mkF m 248 #[.val (.int p1), .val (.int p2), .val (.int p3), .val (.int p4), .val (.int p5), .val (.int p6), .val (.int i7), .val (.int i15), .val (.double la), .second, .val (.double co), .second, .val (.ref b_1), .val (.int i53), .val (.int i59), .val (.int dl), .val (.int tf), .val (.double r64), .second, .val (.int i201)] [(.int i53)]))
          obtain ⟨db, hdb⟩ : ∃ z : UInt64, FP.i2d i53 = z := ⟨_, rfl⟩
          refine Go.step (fun t k => XS.i2dS X_4.here hx rfl (hb hby at_248) rfl hdb k) ?_
          show Go p.tables e below P (T_4.setTop (mkF m 249 #[.val (.int p1), .val (.int p2), .val (.int p3), .val (.int p4), .val (.int p5), .val (.int p6), .val (.int i7), .val (.int i15), .val (.double la), .second, .val (.double co), .second, .val (.ref b_1), .val (.int i53), .val (.int i59), .val (.int dl), .val (.int tf), .val (.double r64), .second, .val (.int i201)] [(.double db)]))
          rw [hdb] at qbase
          have cc1 : FP.dcmp db r64 = some (compare (0 : Int) 1) := DB.lt qbase q64r (by omega)
          refine Go.step (fun t k => XS.dload X_4.here hx rfl (hb hby at_249) rfl  k) ?_
          show Go p.tables e below P (T_4.setTop (mkF m 251 #[.val (.int p1), .val (.int p2), .val (.int p3), .val (.int p4), .val (.int p5), .val (.int p6), .val (.int i7), .val (.int i15), .val (.double la), .second, .val (.double co), .second, .val (.ref b_1), .val (.int i53), .val (.int i59), .val (.int dl), .val (.int tf), .val (.double r64), .second, .val (.int i201)] [(.double r64), (.double db)]))
          refine Go.step (fun t k => XS.dcmpS X_4.here hx rfl (hb hby at_251) rfl rfl k) ?_
          show Go p.tables e below P (T_4.setTop (mkF m 252 #[.val (.int p1), .val (.int p2), .val (.int p3), .val (.int p4), .val (.int p5), .val (.int p6), .val (.int i7), .val (.int i15), .val (.double la), .second, .val (.double co), .second, .val (.ref b_1), .val (.int i53), .val (.int i59), .val (.int dl), .val (.int tf), .val (.double r64), .second, .val (.int i201)] [(.int (cmpValue (FP.dcmp db r64) .g))]))
          refine Go.step (fun t k => XS.ifNo X_4.here hx rfl (hb hby at_252) rfl (dcN (cd := .ge) cc1 (by decide : ¬ ((1 : Int) ≤ (0 : Int)))) k) ?_
          show Go p.tables e below P (T_4.setTop (mkF m 255 #[.val (.int p1), .val (.int p2), .val (.int p3), .val (.int p4), .val (.int p5), .val (.int p6), .val (.int i7), .val (.int i15), .val (.double la), .second, .val (.double co), .second, .val (.ref b_1), .val (.int i53), .val (.int i59), .val (.int dl), .val (.int tf), .val (.double r64), .second, .val (.int i201)] []))
          refine Go.step (fun t k => XS.dload X_4.here hx rfl (hb hby at_255) rfl  k) ?_
          show Go p.tables e below P (T_4.setTop (mkF m 257 #[.val (.int p1), .val (.int p2), .val (.int p3), .val (.int p4), .val (.int p5), .val (.int p6), .val (.int i7), .val (.int i15), .val (.double la), .second, .val (.double co), .second, .val (.ref b_1), .val (.int i53), .val (.int i59), .val (.int dl), .val (.int tf), .val (.double r64), .second, .val (.int i201)] [(.double r64)]))
          refine Go.step (fun t k => XS.iload X_4.here hx rfl (hb hby at_257) rfl  k) ?_
          show Go p.tables e below P (T_4.setTop (mkF m 259 #[.val (.int p1), .val (.int p2), .val (.int p3), .val (.int p4), .val (.int p5), .val (.int p6), .val (.int i7), .val (.int i15), .val (.double la), .second, .val (.double co), .second, .val (.ref b_1), .val (.int i53), .val (.int i59), .val (.int dl), .val (.int tf), .val (.double r64), .second, .val (.int i201)] [(.int i201), (.double r64)]))
          obtain ⟨dt, hdt⟩ : ∃ z : UInt64, FP.i2d i201 = z := ⟨_, rfl⟩
          refine Go.step (fun t k => XS.i2dS X_4.here hx rfl (hb hby at_259) rfl hdt k) ?_
          show Go p.tables e below P (T_4.setTop (mkF m 260 #[.val (.int p1), .val (.int p2), .val (.int p3), .val (.int p4), .val (.int p5), .val (.int p6), .val (.int i7), .val (.int i15), .val (.double la), .second, .val (.double co), .second, .val (.ref b_1), .val (.int i53), .val (.int i59), .val (.int dl), .val (.int tf), .val (.double r64), .second, .val (.int i201)] [(.double dt), (.double r64)]))
          rw [hdt] at qtop
          have cc2 : FP.dcmp r64 dt = some (compare (0 : Int) 1) := DB.lt q64r qtop (by omega)
          refine Go.step (fun t k => XS.dcmpS X_4.here hx rfl (hb hby at_260) rfl rfl k) ?_
          show Go p.tables e below P (T_4.setTop (mkF m 261 #[.val (.int p1), .val (.int p2), .val (.int p3), .val (.int p4), .val (.int p5), .val (.int p6), .val (.int i7), .val (.int i15), .val (.double la), .second, .val (.double co), .second, .val (.ref b_1), .val (.int i53), .val (.int i59), .val (.int dl), .val (.int tf), .val (.double r64), .second, .val (.int i201)] [(.int (cmpValue (FP.dcmp r64 dt) .g))]))
          refine Go.step (fun t k => XS.ifNo X_4.here hx rfl (hb hby at_261) rfl (dcN (cd := .ge) cc2 (by decide : ¬ ((1 : Int) ≤ (0 : Int)))) k) ?_
          show Go p.tables e below P (T_4.setTop (mkF m 264 #[.val (.int p1), .val (.int p2), .val (.int p3), .val (.int p4), .val (.int p5), .val (.int p6), .val (.int i7), .val (.int i15), .val (.double la), .second, .val (.double co), .second, .val (.ref b_1), .val (.int i53), .val (.int i59), .val (.int dl), .val (.int tf), .val (.double r64), .second, .val (.int i201)] []))
          refine Go.step (fun t k => XS.iconst X_4.here hx rfl (hb hby at_264) k) ?_
          show Go p.tables e below P (T_4.setTop (mkF m 265 #[.val (.int p1), .val (.int p2), .val (.int p3), .val (.int p4), .val (.int p5), .val (.int p6), .val (.int i7), .val (.int i15), .val (.double la), .second, .val (.double co), .second, .val (.ref b_1), .val (.int i53), .val (.int i59), .val (.int dl), .val (.int tf), .val (.double r64), .second, .val (.int i201)] [(.int (1 : Int32))]))
          refine Go.step (fun t k => XS.goto X_4.here hx rfl (pc0 := 265) (pc' := 269) rfl (hb hby at_265) (by decide) (by decide) k) ?_
          show Go p.tables e below P (T_4.setTop (mkF m 269 #[.val (.int p1), .val (.int p2), .val (.int p3), .val (.int p4), .val (.int p5), .val (.int p6), .val (.int i7), .val (.int i15), .val (.double la), .second, .val (.double co), .second, .val (.ref b_1), .val (.int i53), .val (.int i59), .val (.int dl), .val (.int tf), .val (.double r64), .second, .val (.int i201)] [(.int (1 : Int32))]))
          exact retGo X_4 hx hP Bd.returns hlk rfl (Or.inl ⟨rfl, Or.inr (Or.inl rfl), _, rfl⟩) (hb hby at_269) (by decide) (by decide) (by rw [eh_4]; exact ⟨rfl, N_4⟩)
        · refine Go.step (fun t k => XS.icmpNo X_4.here hx rfl (hb hby at_228) rfl (icN (cd := .ne) hc228) k) ?_
          show Go p.tables e below P (T_4.setTop (mkF m 231 #[.val (.int p1), .val (.int p2), .val (.int p3), .val (.int p4), .val (.int p5), .val (.int p6), .val (.int i7), .val (.int i15), .val (.double la), .second, .val (.double co), .second, .val (.ref b_1), .val (.int i53), .val (.int i59), .val (.int dl), .val (.int tf), .val (.double r64), .second, .val (.int i201)] []))
          obtain ⟨rfl, rfl⟩ := k7 (by omega)
          refine Go.step (fun t k => XS.dload X_4.here hx rfl (hb hby at_231) rfl  k) ?_
          show Go p.tables e below P (T_4.setTop (mkF m 233 #[.val (.int p1), .val (.int p2), .val (.int p3), .val (.int p4), .val (.int p5), .val (.int p6), .val (.int i7), .val (.int i15), .val (.double la), .second, .val (.double co), .second, .val (.ref b_1), .val (.int i53), .val (.int i59), .val (.int dl), .val (.int tf), .val (.double r64), .second, .val (.int i201)] [(.double r64)]))
          refine Go.step (fun t k => XS.iload X_4.here hx rfl (hb hby at_233) rfl  k) ?_
          show Go p.tables e below P (T_4.setTop (mkF m 235 #[.val (.int p1), .val (.int p2), .val (.int p3), .val (.int p4), .val (.int p5), .val (.int p6), .val (.int i7), .val (.int i15), .val (.double la), .second, .val (.double co), .second, .val (.ref b_1), .val (.int i53), .val (.int i59), .val (.int dl), .val (.int tf), .val (.double r64), .second, .val (.int i201)] [(.int i201), (.double r64)]))
          obtain ⟨dt, hdt⟩ : ∃ z : UInt64, FP.i2d i201 = z := ⟨_, rfl⟩
          refine Go.step (fun t k => XS.i2dS X_4.here hx rfl (hb hby at_235) rfl hdt k) ?_
          show Go p.tables e below P (T_4.setTop (mkF m 236 #[.val (.int p1), .val (.int p2), .val (.int p3), .val (.int p4), .val (.int p5), .val (.int p6), .val (.int i7), .val (.int i15), .val (.double la), .second, .val (.double co), .second, .val (.ref b_1), .val (.int i53), .val (.int i59), .val (.int dl), .val (.int tf), .val (.double r64), .second, .val (.int i201)] [(.double dt), (.double r64)]))
          rw [hdt] at qtop
          have q0 : DE 1048 (i7.toInt * 1073741824 + i53.toInt * 67108864) r64 := q64r
          refine Go.step (fun t k => XS.dcmpS X_4.here hx rfl (hb hby at_236) rfl rfl k) ?_
          show Go p.tables e below P (T_4.setTop (mkF m 237 #[.val (.int p1), .val (.int p2), .val (.int p3), .val (.int p4), .val (.int p5), .val (.int p6), .val (.int i7), .val (.int i15), .val (.double la), .second, .val (.double co), .second, .val (.ref b_1), .val (.int i53), .val (.int i59), .val (.int dl), .val (.int tf), .val (.double r64), .second, .val (.int i201)] [(.int (cmpValue (FP.dcmp r64 dt) .l))]))
          refine Go.step (fun t k => XS.ifNo X_4.here hx rfl (hb hby at_237) rfl (dcN (cd := .ne) (DE.cmp q0 qtop) (fun q => q (by omega))) k) ?_
          show Go p.tables e below P (T_4.setTop (mkF m 240 #[.val (.int p1), .val (.int p2), .val (.int p3), .val (.int p4), .val (.int p5), .val (.int p6), .val (.int i7), .val (.int i15), .val (.double la), .second, .val (.double co), .second, .val (.ref b_1), .val (.int i53), .val (.int i59), .val (.int dl), .val (.int tf), .val (.double r64), .second, .val (.int i201)] []))
          refine Go.step (fun t k => XS.iconst X_4.here hx rfl (hb hby at_240) k) ?_
          show Go p.tables e below P (T_4.setTop (mkF m 241 #[.val (.int p1), .val (.int p2), .val (.int p3), .val (.int p4), .val (.int p5), .val (.int p6), .val (.int i7), .val (.int i15), .val (.double la), .second, .val (.double co), .second, .val (.ref b_1), .val (.int i53), .val (.int i59), .val (.int dl), .val (.int tf), .val (.double r64), .second, .val (.int i201)] [(.int (1 : Int32))]))
          refine Go.step (fun t k => XS.goto X_4.here hx rfl (pc0 := 241) (pc' := 245) rfl (hb hby at_241) (by decide) (by decide) k) ?_
          show Go p.tables e below P (T_4.setTop (mkF m 245 #[.val (.int p1), .val (.int p2), .val (.int p3), .val (.int p4), .val (.int p5), .val (.int p6), .val (.int i7), .val (.int i15), .val (.double la), .second, .val (.double co), .second, .val (.ref b_1), .val (.int i53), .val (.int i59), .val (.int dl), .val (.int tf), .val (.double r64), .second, .val (.int i201)] [(.int (1 : Int32))]))
          exact retGo X_4 hx hP Bd.returns hlk rfl (Or.inl ⟨rfl, Or.inr (Or.inl rfl), _, rfl⟩) (hb hby at_245) (by decide) (by decide) (by rw [eh_4]; exact ⟨rfl, N_4⟩)
      · refine Go.step (fun t k => XS.ifNo X_4.here hx rfl (hb hby at_206) rfl (ifN (cd := .ne) hc206) k) ?_
        show Go p.tables e below P (T_4.setTop (mkF m 209 #[.val (.int p1), .val (.int p2), .val (.int p3), .val (.int p4), .val (.int p5), .val (.int p6), .val (.int i7), .val (.int i15), .val (.double la), .second, .val (.double co), .second, .val (.ref b_1), .val (.int i53), .val (.int i59), .val (.int dl), .val (.int tf), .val (.double r64), .second, .val (.int i201)] []))
        obtain ⟨rfl, rfl⟩ := k6 (by omega)
        refine Go.step (fun t k => XS.dload X_4.here hx rfl (hb hby at_209) rfl  k) ?_
        show Go p.tables e below P (T_4.setTop (mkF m 211 #[.val (.int p1), .val (.int p2), .val (.int p3), .val (.int p4), .val (.int p5), .val (.int p6), .val (.int i7), .val (.int i15), .val (.double la), .second, .val (.double co), .second, .val (.ref b_1), .val (.int i53), .val (.int i59), .val (.int dl), .val (.int tf), .val (.double r64), .second, .val (.int i201)] [(.double r64)]))
        refine Go.step (fun t k => XS.iload X_4.here hx rfl (hb hby at_211) rfl  k) ?_
        show Go p.tables e below P (T_4.setTop (mkF m 213 #[.val (.int p1), .val (.int p2), .val (.int p3), .val (.int p4), .val (.int p5), .val (.int p6), .val (.int i7), .val (.int i15), .val (.double la), .second, .val (.double co), .second, .val (.ref b_1), .val (.int i53), .val (.int i59), .val (.int dl), .val (.int tf), .val (.double r64), .second, .val (.int i201)] [(.int i53), (.double r64)]))
        obtain ⟨db, hdb⟩ : ∃ z : UInt64, FP.i2d i53 = z := ⟨_, rfl⟩
        refine Go.step (fun t k => XS.i2dS X_4.here hx rfl (hb hby at_213) rfl hdb k) ?_
        show Go p.tables e below P (T_4.setTop (mkF m 214 #[.val (.int p1), .val (.int p2), .val (.int p3), .val (.int p4), .val (.int p5), .val (.int p6), .val (.int i7), .val (.int i15), .val (.double la), .second, .val (.double co), .second, .val (.ref b_1), .val (.int i53), .val (.int i59), .val (.int dl), .val (.int tf), .val (.double r64), .second, .val (.int i201)] [(.double db), (.double r64)]))
        rw [hdb] at qbase
        have q0 : DE 1048 (0 + i53.toInt * 67108864) r64 := q64r
        refine Go.step (fun t k => XS.dcmpS X_4.here hx rfl (hb hby at_214) rfl rfl k) ?_
        show Go p.tables e below P (T_4.setTop (mkF m 215 #[.val (.int p1), .val (.int p2), .val (.int p3), .val (.int p4), .val (.int p5), .val (.int p6), .val (.int i7), .val (.int i15), .val (.double la), .second, .val (.double co), .second, .val (.ref b_1), .val (.int i53), .val (.int i59), .val (.int dl), .val (.int tf), .val (.double r64), .second, .val (.int i201)] [(.int (cmpValue (FP.dcmp r64 db) .l))]))
        refine Go.step (fun t k => XS.ifNo X_4.here hx rfl (hb hby at_215) rfl (dcN (cd := .ne) (DE.cmp q0 qbase) (fun q => q (by omega))) k) ?_
        show Go p.tables e below P (T_4.setTop (mkF m 218 #[.val (.int p1), .val (.int p2), .val (.int p3), .val (.int p4), .val (.int p5), .val (.int p6), .val (.int i7), .val (.int i15), .val (.double la), .second, .val (.double co), .second, .val (.ref b_1), .val (.int i53), .val (.int i59), .val (.int dl), .val (.int tf), .val (.double r64), .second, .val (.int i201)] []))
        refine Go.step (fun t k => XS.iconst X_4.here hx rfl (hb hby at_218) k) ?_
        show Go p.tables e below P (T_4.setTop (mkF m 219 #[.val (.int p1), .val (.int p2), .val (.int p3), .val (.int p4), .val (.int p5), .val (.int p6), .val (.int i7), .val (.int i15), .val (.double la), .second, .val (.double co), .second, .val (.ref b_1), .val (.int i53), .val (.int i59), .val (.int dl), .val (.int tf), .val (.double r64), .second, .val (.int i201)] [(.int (1 : Int32))]))
        refine Go.step (fun t k => XS.goto X_4.here hx rfl (pc0 := 219) (pc' := 223) rfl (hb hby at_219) (by decide) (by decide) k) ?_
        show Go p.tables e below P (T_4.setTop (mkF m 223 #[.val (.int p1), .val (.int p2), .val (.int p3), .val (.int p4), .val (.int p5), .val (.int p6), .val (.int i7), .val (.int i15), .val (.double la), .second, .val (.double co), .second, .val (.ref b_1), .val (.int i53), .val (.int i59), .val (.int dl), .val (.int tf), .val (.double r64), .second, .val (.int i201)] [(.int (1 : Int32))]))
        exact retGo X_4 hx hP Bd.returns hlk rfl (Or.inl ⟨rfl, Or.inr (Or.inl rfl), _, rfl⟩) (hb hby at_223) (by decide) (by decide) (by rw [eh_4]; exact ⟨rfl, N_4⟩)
    refine Go.step (fun t k => XS.iload X_3.here hx rfl (hb hby at_143) rfl  k) ?_
    show Go p.tables e below P (T_3.setTop (mkF m 145 #[.val (.int p1), .val (.int p2), .val (.int p3), .val (.int p4), .val (.int p5), .val (.int p6), .val (.int i7), .val (.int i15), .val (.double la), .second, .val (.double co), .second, .val (.ref b_1), .val (.int i53), .val (.int i59), .val (.int dl), .unset, .unset, .unset, .unset] [(.int i59)]))
    refine Go.step (fun t k => XS.iconst X_3.here hx rfl (hb hby at_145) k) ?_
    show Go p.tables e below P (T_3.setTop (mkF m 146 #[.val (.int p1), .val (.int p2), .val (.int p3), .val (.int p4), .val (.int p5), .val (.int p6), .val (.int i7), .val (.int i15), .val (.double la), .second, .val (.double co), .second, .val (.ref b_1), .val (.int i53), .val (.int i59), .val (.int dl), .unset, .unset, .unset, .unset] [(.int (1 : Int32)), (.int i59)]))
    by_cases hc146 : ¬ i59.toInt = (1 : Int)
    · refine Go.step (fun t k => XS.icmpYes X_3.here hx rfl (pc0 := 146) (pc' := 153) rfl (hb hby at_146) rfl (icY (cd := .ne) hc146) (by decide) (by decide) k) ?_
      show Go p.tables e below P (T_3.setTop (mkF m 153 #[.val (.int p1), .val (.int p2), .val (.int p3), .val (.int p4), .val (.int p5), .val (.int p6), .val (.int i7), .val (.int i15), .val (.double la), .second, .val (.double co), .second, .val (.ref b_1), .val (.int i53), .val (.int i59), .val (.int dl), .unset, .unset, .unset, .unset] []))
      refine Go.step (fun t k => XS.iload X_3.here hx rfl (hb hby at_153) rfl  k) ?_
      show Go p.tables e below P (T_3.setTop (mkF m 155 #[.val (.int p1), .val (.int p2), .val (.int p3), .val (.int p4), .val (.int p5), .val (.int p6), .val (.int i7), .val (.int i15), .val (.double la), .second, .val (.double co), .second, .val (.ref b_1), .val (.int i53), .val (.int i59), .val (.int dl), .unset, .unset, .unset, .unset] [(.int i59)]))
      refine Go.step (fun t k => XS.iconst X_3.here hx rfl (hb hby at_155) k) ?_
      show Go p.tables e below P (T_3.setTop (mkF m 156 #[.val (.int p1), .val (.int p2), .val (.int p3), .val (.int p4), .val (.int p5), .val (.int p6), .val (.int i7), .val (.int i15), .val (.double la), .second, .val (.double co), .second, .val (.ref b_1), .val (.int i53), .val (.int i59), .val (.int dl), .unset, .unset, .unset, .unset] [(.int (2 : Int32)), (.int i59)]))
      by_cases hc156 : ¬ i59.toInt = (2 : Int)
      · refine Go.step (fun t k => XS.icmpYes X_3.here hx rfl (pc0 := 156) (pc' := 164) rfl (hb hby at_156) rfl (icY (cd := .ne) hc156) (by decide) (by decide) k) ?_
        show Go p.tables e below P (T_3.setTop (mkF m 164 #[.val (.int p1), .val (.int p2), .val (.int p3), .val (.int p4), .val (.int p5), .val (.int p6), .val (.int i7), .val (.int i15), .val (.double la), .second, .val (.double co), .second, .val (.ref b_1), .val (.int i53), .val (.int i59), .val (.int dl), .unset, .unset, .unset, .unset] []))
        refine Go.step (fun t k => XS.iloadN X_3.here hx rfl (hb hby at_164) rfl  k) ?_
        show Go p.tables e below P (T_3.setTop (mkF m 165 #[.val (.int p1), .val (.int p2), .val (.int p3), .val (.int p4), .val (.int p5), .val (.int p6), .val (.int i7), .val (.int i15), .val (.double la), .second, .val (.double co), .second, .val (.ref b_1), .val (.int i53), .val (.int i59), .val (.int dl), .unset, .unset, .unset, .unset] [(.int p1)]))
        refine Go.step (fun t k => X_3.ldcInt hx hown (mvT hZ (hw _ (List.mem_of_getElem? (i := 0) rfl))) (g := (mkF m 165 #[.val (.int p1), .val (.int p2), .val (.int p3), .val (.int p4), .val (.int p5), .val (.int p6), .val (.int i7), .val (.int i15), .val (.double la), .second, .val (.double co), .second, .val (.ref b_1), .val (.int i53), .val (.int i59), .val (.int dl), .unset, .unset, .unset, .unset] [(.int p1)])) rfl (hb hby at_165) t k) ?_
        show Go p.tables e below P (T_3.setTop (mkF m 167 #[.val (.int p1), .val (.int p2), .val (.int p3), .val (.int p4), .val (.int p5), .val (.int p6), .val (.int i7), .val (.int i15), .val (.double la), .second, .val (.double co), .second, .val (.ref b_1), .val (.int i53), .val (.int i59), .val (.int dl), .unset, .unset, .unset, .unset] [(.int (2147483647 : Int32)), (.int p1)]))
        obtain ⟨i167, hi167⟩ : ∃ z : Int32, p1 &&& (2147483647 : Int32) = z := ⟨_, rfl⟩
        refine Go.step (fun t k => iand_v X_3.here hx rfl (hb hby at_167) rfl  hi167 k) ?_
        show Go p.tables e below P (T_3.setTop (mkF m 168 #[.val (.int p1), .val (.int p2), .val (.int p3), .val (.int p4), .val (.int p5), .val (.int p6), .val (.int i7), .val (.int i15), .val (.double la), .second, .val (.double co), .second, .val (.ref b_1), .val (.int i53), .val (.int i59), .val (.int dl), .unset, .unset, .unset, .unset] [(.int i167)]))
        refine Go.step (fun t k => XS.iload X_3.here hx rfl (hb hby at_168) rfl  k) ?_
        show Go p.tables e below P (T_3.setTop (mkF m 170 #[.val (.int p1), .val (.int p2), .val (.int p3), .val (.int p4), .val (.int p5), .val (.int p6), .val (.int i7), .val (.int i15), .val (.double la), .second, .val (.double co), .second, .val (.ref b_1), .val (.int i53), .val (.int i59), .val (.int dl), .unset, .unset, .unset, .unset] [(.int dl), (.int i167)]))
        refine Go.step (fun t k => XS.iconst X_3.here hx rfl (hb hby at_170) k) ?_
        show Go p.tables e below P (T_3.setTop (mkF m 171 #[.val (.int p1), .val (.int p2), .val (.int p3), .val (.int p4), .val (.int p5), .val (.int p6), .val (.int i7), .val (.int i15), .val (.double la), .second, .val (.double co), .second, .val (.ref b_1), .val (.int i53), .val (.int i59), .val (.int dl), .unset, .unset, .unset, .unset] [(.int (1 : Int32)), (.int dl), (.int i167)]))
        obtain ⟨i171, hi171⟩ : ∃ z : Int32, dl + (1 : Int32) = z := ⟨_, rfl⟩
        refine Go.step (fun t k => iadd_v X_3.here hx rfl (hb hby at_171) rfl  hi171 k) ?_
        show Go p.tables e below P (T_3.setTop (mkF m 172 #[.val (.int p1), .val (.int p2), .val (.int p3), .val (.int p4), .val (.int p5), .val (.int p6), .val (.int i7), .val (.int i15), .val (.double la), .second, .val (.double co), .second, .val (.ref b_1), .val (.int i53), .val (.int i59), .val (.int dl), .unset, .unset, .unset, .unset] [(.int i171), (.int i167)]))
        have f167 := c_mask p1 (2147483647 : Int32) 31 (by decide) rfl; rw [hi167] at f167
        have f171 := c_iadd dl (1 : Int32); rw [hi171, e1] at f171
        have g171 := rng32 i171
        have v171 : i171.toInt = dl.toInt + 1 := by omega
        have nz : ¬ i171 = 0 := fun q => by rw [q] at v171; have : (0 : Int32).toInt = 0 := rfl; omega
        have f172 := c_irem i167 i171 _ v171
        obtain ⟨tf, htf⟩ : ∃ z : Int32, i167 % i171 = z := ⟨_, rfl⟩
        refine Go.step (fun t k => irem_v X_3.here hx rfl (hb hby at_172) rfl nz htf k) ?_
        show Go p.tables e below P (T_3.setTop (mkF m 173 #[.val (.int p1), .val (.int p2), .val (.int p3), .val (.int p4), .val (.int p5), .val (.int p6), .val (.int i7), .val (.int i15), .val (.double la), .second, .val (.double co), .second, .val (.ref b_1), .val (.int i53), .val (.int i59), .val (.int dl), .unset, .unset, .unset, .unset] [(.int tf)]))
        rw [htf] at f172
        have f172' := f172.1 (by omega)
        have bb := Int.emod_nonneg i167.toInt (show dl.toInt + 1 ≠ 0 by omega)
        have bb2 := Int.emod_lt_of_pos i167.toInt (show 0 < dl.toInt + 1 by omega)
        exact J173 tf ⟨by omega, by omega⟩
      · refine Go.step (fun t k => XS.icmpNo X_3.here hx rfl (hb hby at_156) rfl (icN (cd := .ne) hc156) k) ?_
        show Go p.tables e below P (T_3.setTop (mkF m 159 #[.val (.int p1), .val (.int p2), .val (.int p3), .val (.int p4), .val (.int p5), .val (.int p6), .val (.int i7), .val (.int i15), .val (.double la), .second, .val (.double co), .second, .val (.ref b_1), .val (.int i53), .val (.int i59), .val (.int dl), .unset, .unset, .unset, .unset] []))
        refine Go.step (fun t k => XS.iload X_3.here hx rfl (hb hby at_159) rfl  k) ?_
        show Go p.tables e below P (T_3.setTop (mkF m 161 #[.val (.int p1), .val (.int p2), .val (.int p3), .val (.int p4), .val (.int p5), .val (.int p6), .val (.int i7), .val (.int i15), .val (.double la), .second, .val (.double co), .second, .val (.ref b_1), .val (.int i53), .val (.int i59), .val (.int dl), .unset, .unset, .unset, .unset] [(.int dl)]))
        refine Go.step (fun t k => XS.goto X_3.here hx rfl (pc0 := 161) (pc' := 173) rfl (hb hby at_161) (by decide) (by decide) k) ?_
        show Go p.tables e below P (T_3.setTop (mkF m 173 #[.val (.int p1), .val (.int p2), .val (.int p3), .val (.int p4), .val (.int p5), .val (.int p6), .val (.int i7), .val (.int i15), .val (.double la), .second, .val (.double co), .second, .val (.ref b_1), .val (.int i53), .val (.int i59), .val (.int dl), .unset, .unset, .unset, .unset] [(.int dl)]))
        exact J173 dl ⟨by omega, by omega⟩
    · refine Go.step (fun t k => XS.icmpNo X_3.here hx rfl (hb hby at_146) rfl (icN (cd := .ne) hc146) k) ?_
      show Go p.tables e below P (T_3.setTop (mkF m 149 #[.val (.int p1), .val (.int p2), .val (.int p3), .val (.int p4), .val (.int p5), .val (.int p6), .val (.int i7), .val (.int i15), .val (.double la), .second, .val (.double co), .second, .val (.ref b_1), .val (.int i53), .val (.int i59), .val (.int dl), .unset, .unset, .unset, .unset] []))
      refine Go.step (fun t k => XS.iconst X_3.here hx rfl (hb hby at_149) k) ?_
      show Go p.tables e below P (T_3.setTop (mkF m 150 #[.val (.int p1), .val (.int p2), .val (.int p3), .val (.int p4), .val (.int p5), .val (.int p6), .val (.int i7), .val (.int i15), .val (.double la), .second, .val (.double co), .second, .val (.ref b_1), .val (.int i53), .val (.int i59), .val (.int dl), .unset, .unset, .unset, .unset] [(.int (0 : Int32))]))
      refine Go.step (fun t k => XS.goto X_3.here hx rfl (pc0 := 150) (pc' := 173) rfl (hb hby at_150) (by decide) (by decide) k) ?_
      show Go p.tables e below P (T_3.setTop (mkF m 173 #[.val (.int p1), .val (.int p2), .val (.int p3), .val (.int p4), .val (.int p5), .val (.int p6), .val (.int i7), .val (.int i15), .val (.double la), .second, .val (.double co), .second, .val (.ref b_1), .val (.int i53), .val (.int i59), .val (.int dl), .unset, .unset, .unset, .unset] [(.int (0 : Int32))]))
      exact J173 (0 : Int32) ⟨by decide, by show (0 : Int) ≤ _; omega⟩
  · refine Go.step (fun t k => XS.ifNo X_2.here hx rfl (hb hby at_64) rfl (ifN (cd := .ne) hc64) k) ?_
    show Go p.tables e below P (T_2.setTop (mkF m 67 #[.val (.int p1), .val (.int p2), .val (.int p3), .val (.int p4), .val (.int p5), .val (.int p6), .val (.int i7), .val (.int i15), .val (.double la), .second, .val (.double co), .second, .val (.ref b_1), .val (.int i53), .val (.int i59), .unset, .unset, .unset, .unset, .unset] []))
    refine Go.step (fun t k => XS.iloadN X_2.here hx rfl (hb hby at_67) rfl  k) ?_
    show Go p.tables e below P (T_2.setTop (mkF m 68 #[.val (.int p1), .val (.int p2), .val (.int p3), .val (.int p4), .val (.int p5), .val (.int p6), .val (.int i7), .val (.int i15), .val (.double la), .second, .val (.double co), .second, .val (.ref b_1), .val (.int i53), .val (.int i59), .unset, .unset, .unset, .unset, .unset] [(.int p2)]))
    refine Go.step (fun t k => X_2.ldcInt hx hown (mvT hZ (hw _ (List.mem_of_getElem? (i := 0) rfl))) (g := (mkF m 68 #[.val (.int p1), .val (.int p2), .val (.int p3), .val (.int p4), .val (.int p5), .val (.int p6), .val (.int i7), .val (.int i15), .val (.double la), .second, .val (.double co), .second, .val (.ref b_1), .val (.int i53), .val (.int i59), .unset, .unset, .unset, .unset, .unset] [(.int p2)])) rfl (hb hby at_68) t k) ?_
    show Go p.tables e below P (T_2.setTop (mkF m 70 #[.val (.int p1), .val (.int p2), .val (.int p3), .val (.int p4), .val (.int p5), .val (.int p6), .val (.int i7), .val (.int i15), .val (.double la), .second, .val (.double co), .second, .val (.ref b_1), .val (.int i53), .val (.int i59), .unset, .unset, .unset, .unset, .unset] [(.int (2147483647 : Int32)), (.int p2)]))
    obtain ⟨i70, hi70⟩ : ∃ z : Int32, p2 &&& (2147483647 : Int32) = z := ⟨_, rfl⟩
    refine Go.step (fun t k => iand_v X_2.here hx rfl (hb hby at_70) rfl  hi70 k) ?_
    show Go p.tables e below P (T_2.setTop (mkF m 71 #[.val (.int p1), .val (.int p2), .val (.int p3), .val (.int p4), .val (.int p5), .val (.int p6), .val (.int i7), .val (.int i15), .val (.double la), .second, .val (.double co), .second, .val (.ref b_1), .val (.int i53), .val (.int i59), .unset, .unset, .unset, .unset, .unset] [(.int i70)]))
    refine Go.step (fun t k => XS.iconst X_2.here hx rfl (hb hby at_71) k) ?_
    show Go p.tables e below P (T_2.setTop (mkF m 72 #[.val (.int p1), .val (.int p2), .val (.int p3), .val (.int p4), .val (.int p5), .val (.int p6), .val (.int i7), .val (.int i15), .val (.double la), .second, .val (.double co), .second, .val (.ref b_1), .val (.int i53), .val (.int i59), .unset, .unset, .unset, .unset, .unset] [(.int (5 : Int32)), (.int i70)]))
    obtain ⟨i72, hi72⟩ : ∃ z : Int32, i70 % (5 : Int32) = z := ⟨_, rfl⟩
    refine Go.step (fun t k => irem_v X_2.here hx rfl (hb hby at_72) rfl (by decide) hi72 k) ?_
    show Go p.tables e below P (T_2.setTop (mkF m 73 #[.val (.int p1), .val (.int p2), .val (.int p3), .val (.int p4), .val (.int p5), .val (.int p6), .val (.int i7), .val (.int i15), .val (.double la), .second, .val (.double co), .second, .val (.ref b_1), .val (.int i53), .val (.int i59), .unset, .unset, .unset, .unset, .unset] [(.int i72)]))
    refine Go.step (fun t k => XS.istore X_2.here hx rfl (hb hby at_73) rfl (l' := #[.val (.int p1), .val (.int p2), .val (.int p3), .val (.int p4), .val (.int p5), .val (.int p6), .val (.int i7), .val (.int i15), .val (.double la), .second, .val (.double co), .second, .val (.ref b_1), .val (.int i53), .val (.int i59), .val (.int i72), .unset, .unset, .unset, .unset]) rfl k) ?_
    show Go p.tables e below P (T_2.setTop (mkF m 75 #[.val (.int p1), .val (.int p2), .val (.int p3), .val (.int p4), .val (.int p5), .val (.int p6), .val (.int i7), .val (.int i15), .val (.double la), .second, .val (.double co), .second, .val (.ref b_1), .val (.int i53), .val (.int i59), .val (.int i72), .unset, .unset, .unset, .unset] []))
    refine Go.step (fun t k => XS.iconst X_2.here hx rfl (hb hby at_75) k) ?_
    show Go p.tables e below P (T_2.setTop (mkF m 76 #[.val (.int p1), .val (.int p2), .val (.int p3), .val (.int p4), .val (.int p5), .val (.int p6), .val (.int i7), .val (.int i15), .val (.double la), .second, .val (.double co), .second, .val (.ref b_1), .val (.int i53), .val (.int i59), .val (.int i72), .unset, .unset, .unset, .unset] [(.int (1 : Int32))]))
    refine Go.step (fun t k => XS.iload X_2.here hx rfl (hb hby at_76) rfl  k) ?_
    show Go p.tables e below P (T_2.setTop (mkF m 78 #[.val (.int p1), .val (.int p2), .val (.int p3), .val (.int p4), .val (.int p5), .val (.int p6), .val (.int i7), .val (.int i15), .val (.double la), .second, .val (.double co), .second, .val (.ref b_1), .val (.int i53), .val (.int i59), .val (.int i72), .unset, .unset, .unset, .unset] [(.int i72), (.int (1 : Int32))]))
    obtain ⟨i78, hi78⟩ : ∃ z : Int32, ((1 : Int32) <<< (i72 &&& 31)) = z := ⟨_, rfl⟩
    refine Go.step (fun t k => ishl_v X_2.here hx rfl (hb hby at_78) rfl  hi78 k) ?_
    show Go p.tables e below P (T_2.setTop (mkF m 79 #[.val (.int p1), .val (.int p2), .val (.int p3), .val (.int p4), .val (.int p5), .val (.int p6), .val (.int i7), .val (.int i15), .val (.double la), .second, .val (.double co), .second, .val (.ref b_1), .val (.int i53), .val (.int i59), .val (.int i72), .unset, .unset, .unset, .unset] [(.int i78)]))
    refine Go.step (fun t k => XS.istore X_2.here hx rfl (hb hby at_79) rfl (l' := #[.val (.int p1), .val (.int p2), .val (.int p3), .val (.int p4), .val (.int p5), .val (.int p6), .val (.int i7), .val (.int i15), .val (.double la), .second, .val (.double co), .second, .val (.ref b_1), .val (.int i53), .val (.int i59), .val (.int i72), .val (.int i78), .unset, .unset, .unset]) rfl k) ?_
    show Go p.tables e below P (T_2.setTop (mkF m 81 #[.val (.int p1), .val (.int p2), .val (.int p3), .val (.int p4), .val (.int p5), .val (.int p6), .val (.int i7), .val (.int i15), .val (.double la), .second, .val (.double co), .second, .val (.ref b_1), .val (.int i53), .val (.int i59), .val (.int i72), .val (.int i78), .unset, .unset, .unset] []))
    refine Go.step (fun t k => XS.iloadN X_2.here hx rfl (hb hby at_81) rfl  k) ?_
    show Go p.tables e below P (T_2.setTop (mkF m 82 #[.val (.int p1), .val (.int p2), .val (.int p3), .val (.int p4), .val (.int p5), .val (.int p6), .val (.int i7), .val (.int i15), .val (.double la), .second, .val (.double co), .second, .val (.ref b_1), .val (.int i53), .val (.int i59), .val (.int i72), .val (.int i78), .unset, .unset, .unset] [(.int p1)]))
    refine Go.step (fun t k => X_2.ldcInt hx hown (mvT hZ (hw _ (List.mem_of_getElem? (i := 30) rfl))) (g := (mkF m 82 #[.val (.int p1), .val (.int p2), .val (.int p3), .val (.int p4), .val (.int p5), .val (.int p6), .val (.int i7), .val (.int i15), .val (.double la), .second, .val (.double co), .second, .val (.ref b_1), .val (.int i53), .val (.int i59), .val (.int i72), .val (.int i78), .unset, .unset, .unset] [(.int p1)])) rfl (hb hby at_82) t k) ?_
    show Go p.tables e below P (T_2.setTop (mkF m 84 #[.val (.int p1), .val (.int p2), .val (.int p3), .val (.int p4), .val (.int p5), .val (.int p6), .val (.int i7), .val (.int i15), .val (.double la), .second, .val (.double co), .second, .val (.ref b_1), .val (.int i53), .val (.int i59), .val (.int i72), .val (.int i78), .unset, .unset, .unset] [(.int (65535 : Int32)), (.int p1)]))
    obtain ⟨i84, hi84⟩ : ∃ z : Int32, p1 &&& (65535 : Int32) = z := ⟨_, rfl⟩
    refine Go.step (fun t k => iand_v X_2.here hx rfl (hb hby at_84) rfl  hi84 k) ?_
    show Go p.tables e below P (T_2.setTop (mkF m 85 #[.val (.int p1), .val (.int p2), .val (.int p3), .val (.int p4), .val (.int p5), .val (.int p6), .val (.int i7), .val (.int i15), .val (.double la), .second, .val (.double co), .second, .val (.ref b_1), .val (.int i53), .val (.int i59), .val (.int i72), .val (.int i78), .unset, .unset, .unset] [(.int i84)]))
    refine Go.step (fun t k => XS.istore X_2.here hx rfl (hb hby at_85) rfl (l' := #[.val (.int p1), .val (.int p2), .val (.int p3), .val (.int p4), .val (.int p5), .val (.int p6), .val (.int i7), .val (.int i15), .val (.double la), .second, .val (.double co), .second, .val (.ref b_1), .val (.int i53), .val (.int i59), .val (.int i72), .val (.int i78), .val (.int i84), .unset, .unset]) rfl k) ?_
    show Go p.tables e below P (T_2.setTop (mkF m 87 #[.val (.int p1), .val (.int p2), .val (.int p3), .val (.int p4), .val (.int p5), .val (.int p6), .val (.int i7), .val (.int i15), .val (.double la), .second, .val (.double co), .second, .val (.ref b_1), .val (.int i53), .val (.int i59), .val (.int i72), .val (.int i78), .val (.int i84), .unset, .unset] []))
    have f70 := c_mask p2 (2147483647 : Int32) 31 (by decide) rfl; rw [hi70] at f70
    have f72 := c_irem i70 (5 : Int32) 5 rfl; rw [hi72] at f72
    have f72' := f72.1 (by omega)
    have b72 : 0 ≤ i72.toInt ∧ i72.toInt ≤ 4 := by omega
    have s5 := sh5 b72
    rw [hi78] at s5
    have f84 := c_mask p1 (65535 : Int32) 16 (by decide) rfl; rw [hi84] at f84
    have b84 : 0 ≤ i84.toInt ∧ i84.toInt < 65536 := by omega
    clear f70 f72 f72' f84
    obtain ⟨ee, hee⟩ : ∃ z, z = ((16 : Int32) >>> (i72 &&& 31)).toInt := ⟨_, rfl⟩
    rw [← hee] at s5
    have m1 := nmul (show i7.toInt.natAbs ≤ 3 by omega) (show i84.toInt.natAbs ≤ 65535 by omega)
    have m2 := nmul m1 (show ee.natAbs ≤ 16 by omega)
    have m3 := Int.mul_nonneg (Int.mul_nonneg (show 0 ≤ i7.toInt by omega) b84.1) (show 0 ≤ ee by omega)
    have ex : i7.toInt * i84.toInt * ee * 67108864 * i78.toInt = i7.toInt * i84.toInt * 1073741824 := by
      have z : i7.toInt * i84.toInt * ee * 67108864 * i78.toInt = i7.toInt * i84.toInt * (i78.toInt * ee) * 67108864 := by simp only [Int.mul_comm, Int.mul_left_comm, Int.mul_assoc]
      rw [z, s5.1]; omega
    refine Go.step (fun t k => XS.aload X_2.here hx rfl (hb hby at_87) rfl rfl k) ?_
    show Go p.tables e below P (T_2.setTop (mkF m 89 #[.val (.int p1), .val (.int p2), .val (.int p3), .val (.int p4), .val (.int p5), .val (.int p6), .val (.int i7), .val (.int i15), .val (.double la), .second, .val (.double co), .second, .val (.ref b_1), .val (.int i53), .val (.int i59), .val (.int i72), .val (.int i78), .val (.int i84), .unset, .unset] [(.ref b_1)]))
    refine Go.step (fun t k => XS.iload X_2.here hx rfl (hb hby at_89) rfl  k) ?_
    show Go p.tables e below P (T_2.setTop (mkF m 91 #[.val (.int p1), .val (.int p2), .val (.int p3), .val (.int p4), .val (.int p5), .val (.int p6), .val (.int i7), .val (.int i15), .val (.double la), .second, .val (.double co), .second, .val (.ref b_1), .val (.int i53), .val (.int i59), .val (.int i72), .val (.int i78), .val (.int i84), .unset, .unset] [(.int i84), (.ref b_1)]))
    refine Go.step (fun t k => XS.iload X_2.here hx rfl (hb hby at_91) rfl  k) ?_
    show Go p.tables e below P (T_2.setTop (mkF m 93 #[.val (.int p1), .val (.int p2), .val (.int p3), .val (.int p4), .val (.int p5), .val (.int p6), .val (.int i7), .val (.int i15), .val (.double la), .second, .val (.double co), .second, .val (.ref b_1), .val (.int i53), .val (.int i59), .val (.int i72), .val (.int i78), .val (.int i84), .unset, .unset] [(.int i78), (.int i84), (.ref b_1)]))
    refine Go.step (fun t k => XS.dload X_2.here hx rfl (hb hby at_93) rfl  k) ?_
    show Go p.tables e below P (T_2.setTop (mkF m 95 #[.val (.int p1), .val (.int p2), .val (.int p3), .val (.int p4), .val (.int p5), .val (.int p6), .val (.int i7), .val (.int i15), .val (.double la), .second, .val (.double co), .second, .val (.ref b_1), .val (.int i53), .val (.int i59), .val (.int i72), .val (.int i78), .val (.int i84), .unset, .unset] [(.double co), (.int i78), (.int i84), (.ref b_1)]))
    refine Go.step (fun t k => XS.iload X_2.here hx rfl (hb hby at_95) rfl  k) ?_
    show Go p.tables e below P (T_2.setTop (mkF m 97 #[.val (.int p1), .val (.int p2), .val (.int p3), .val (.int p4), .val (.int p5), .val (.int p6), .val (.int i7), .val (.int i15), .val (.double la), .second, .val (.double co), .second, .val (.ref b_1), .val (.int i53), .val (.int i59), .val (.int i72), .val (.int i78), .val (.int i84), .unset, .unset] [(.int p5), (.double co), (.int i78), (.int i84), (.ref b_1)]))
    obtain ⟨cq_5, kq_5, q_5a, q_5b, q_5c⟩ := isOf hZ rfl (A_1.keep Kc_2)
    obtain ⟨_, _, ⟨T_5, L_5, k_5, n_5⟩, -, X_5, ⟨Lc_5, hQ_5, l_5, y_5, z_5⟩, st_5⟩ := X_2.virtualBack hx (y := (⟨"com/example/eliteness/eliteness/ranking/Smoothing$JelinekMercer", "probability", "(IIDI)D"⟩ : MethodName)) (z := (⟨"com/example/eliteness/eliteness/ranking/Smoothing$JelinekMercer", "probability", "(IIDI)D"⟩ : MethodName)) hown (mvT hZ (hw _ (List.mem_of_getElem? (i := 24) rfl))) (mvT hZ (hw _ (List.mem_of_getElem? (i := 25) rfl))) (notFace_of_selects (args := #[]) (mvT hZ (hw _ (List.mem_of_getElem? (i := 27) rfl)))) (mvT hZ (hw _ (List.mem_of_getElem? (i := 27) rfl))) (mvT hZ (hw _ (List.mem_of_getElem? (i := 26) rfl))) (by decide) (backOf (W := 0) (rm4 l Z a0 hw [] b_1 i84 i78 co p5 la i7.toInt i15.toInt i53.toInt (i7.toInt * i84.toInt * ee * 67108864) (i7.toInt * i84.toInt * ee * 67108864) T_2.heap n0 Z_2 Ff_lambda__2 qla qco (by omega) b15 v53 b53 b84.1 (by omega) (by omega) (by omega) (by omega) (by omega) (by omega)) hZ (hw _ (List.mem_of_getElem? (i := 28) rfl)) (hw _ (List.mem_of_getElem? (i := 5) rfl)) (by decide) (by decide)) q_5a q_5c (g := (mkF m 97 #[.val (.int p1), .val (.int p2), .val (.int p3), .val (.int p4), .val (.int p5), .val (.int p6), .val (.int i7), .val (.int i15), .val (.double la), .second, .val (.double co), .second, .val (.ref b_1), .val (.int i53), .val (.int i59), .val (.int i72), .val (.int i78), .val (.int i84), .unset, .unset] [(.int p5), (.double co), (.int i78), (.int i84), (.ref b_1)])) rfl (by rw [hml]; rfl) (Steps.refl _) (argsL := [(.int i84), (.int i78), (.double co), (.int p5)]) (rest := []) (lenOf pd_3 rfl) rfl (by show 2 * 0 + _ ≤ _; exact Nat.le_of_eq rfl) (hb hby at_97) (fun _ _ => ⟨rfl, rfl, (by decide : 1 + 0 ≤ _), (by decide : 1 + 0 ≤ _)⟩)
    dsimp only [Pt.U, Pt.locs, Pt.cells, Pt.slots] at X_5 l_5 y_5 z_5 st_5 hQ_5
    subst l_5 y_5 z_5
    obtain ⟨rr, rfl, qr, N_5q, eh_5⟩ := hQ_5
    have N_5 := Fr.app N_2 N_5q
    refine Go.tr st_5 ?_
    show Go p.tables e below P (T_5.setTop (mkF m 100 #[.val (.int p1), .val (.int p2), .val (.int p3), .val (.int p4), .val (.int p5), .val (.int p6), .val (.int i7), .val (.int i15), .val (.double la), .second, .val (.double co), .second, .val (.ref b_1), .val (.int i53), .val (.int i59), .val (.int i72), .val (.int i78), .val (.int i84), .unset, .unset] [(.double rr)]))
    refine Go.step (fun t k => XS.dstore X_5.here hx rfl (hb hby at_100) rfl (l' := #[.val (.int p1), .val (.int p2), .val (.int p3), .val (.int p4), .val (.int p5), .val (.int p6), .val (.int i7), .val (.int i15), .val (.double la), .second, .val (.double co), .second, .val (.ref b_1), .val (.int i53), .val (.int i59), .val (.int i72), .val (.int i78), .val (.int i84), .val (.double rr), .second]) rfl k) ?_
    show Go p.tables e below P (T_5.setTop (mkF m 102 #[.val (.int p1), .val (.int p2), .val (.int p3), .val (.int p4), .val (.int p5), .val (.int p6), .val (.int i7), .val (.int i15), .val (.double la), .second, .val (.double co), .second, .val (.ref b_1), .val (.int i53), .val (.int i59), .val (.int i72), .val (.int i78), .val (.int i84), .val (.double rr), .second] []))
    refine Go.step (fun t k => XS.dload X_5.here hx rfl (hb hby at_102) rfl  k) ?_
    show Go p.tables e below P (T_5.setTop (mkF m 104 #[.val (.int p1), .val (.int p2), .val (.int p3), .val (.int p4), .val (.int p5), .val (.int p6), .val (.int i7), .val (.int i15), .val (.double la), .second, .val (.double co), .second, .val (.ref b_1), .val (.int i53), .val (.int i59), .val (.int i72), .val (.int i78), .val (.int i84), .val (.double rr), .second] [(.double rr)]))
    refine Go.step (fun t k => X_5.ldc2DoubleC hx hown (mvT hZ (hw _ (List.mem_of_getElem? (i := 29) rfl))) (g := (mkF m 104 #[.val (.int p1), .val (.int p2), .val (.int p3), .val (.int p4), .val (.int p5), .val (.int p6), .val (.int i7), .val (.int i15), .val (.double la), .second, .val (.double co), .second, .val (.ref b_1), .val (.int i53), .val (.int i59), .val (.int i72), .val (.int i78), .val (.int i84), .val (.double rr), .second] [(.double rr)])) rfl (hb hby at_104) t k) ?_
    show Go p.tables e below P (T_5.setTop (mkF m 107 #[.val (.int p1), .val (.int p2), .val (.int p3), .val (.int p4), .val (.int p5), .val (.int p6), .val (.int i7), .val (.int i15), .val (.double la), .second, .val (.double co), .second, .val (.ref b_1), .val (.int i53), .val (.int i59), .val (.int i72), .val (.int i78), .val (.int i84), .val (.double rr), .second] [(.double (4634204016564240384 : UInt64)), (.double rr)]))
    obtain ⟨r64, hr64⟩ : ∃ z : UInt64, FP.dmul rr (4634204016564240384 : UInt64) = z := ⟨_, rfl⟩
    have q107 := mul_e (k := 1048) qr q64 rfl (Int.mul_one _) (by omega) (by decide)
    rw [hr64] at q107
    refine Go.step (fun t k => XS.dmulS X_5.here hx rfl (hb hby at_107) rfl (hr64 ▸ q107.nn) hr64 k) ?_
    show Go p.tables e below P (T_5.setTop (mkF m 108 #[.val (.int p1), .val (.int p2), .val (.int p3), .val (.int p4), .val (.int p5), .val (.int p6), .val (.int i7), .val (.int i15), .val (.double la), .second, .val (.double co), .second, .val (.ref b_1), .val (.int i53), .val (.int i59), .val (.int i72), .val (.int i78), .val (.int i84), .val (.double rr), .second] [(.double r64)]))
    refine Go.step (fun t k => XS.iload X_5.here hx rfl (hb hby at_108) rfl  k) ?_
    show Go p.tables e below P (T_5.setTop (mkF m 110 #[.val (.int p1), .val (.int p2), .val (.int p3), .val (.int p4), .val (.int p5), .val (.int p6), .val (.int i7), .val (.int i15), .val (.double la), .second, .val (.double co), .second, .val (.ref b_1), .val (.int i53), .val (.int i59), .val (.int i72), .val (.int i78), .val (.int i84), .val (.double rr), .second] [(.int i7), (.double r64)]))
    refine Go.step (fun t k => XS.iload X_5.here hx rfl (hb hby at_110) rfl  k) ?_
    show Go p.tables e below P (T_5.setTop (mkF m 112 #[.val (.int p1), .val (.int p2), .val (.int p3), .val (.int p4), .val (.int p5), .val (.int p6), .val (.int i7), .val (.int i15), .val (.double la), .second, .val (.double co), .second, .val (.ref b_1), .val (.int i53), .val (.int i59), .val (.int i72), .val (.int i78), .val (.int i84), .val (.double rr), .second] [(.int i84), (.int i7), (.double r64)]))
    obtain ⟨i112, hi112⟩ : ∃ z : Int32, i7 * i84 = z := ⟨_, rfl⟩
    refine Go.step (fun t k => imul_v X_5.here hx rfl (hb hby at_112) rfl  hi112 k) ?_
    show Go p.tables e below P (T_5.setTop (mkF m 113 #[.val (.int p1), .val (.int p2), .val (.int p3), .val (.int p4), .val (.int p5), .val (.int p6), .val (.int i7), .val (.int i15), .val (.double la), .second, .val (.double co), .second, .val (.ref b_1), .val (.int i53), .val (.int i59), .val (.int i72), .val (.int i78), .val (.int i84), .val (.double rr), .second] [(.int i112), (.double r64)]))
    refine Go.step (fun t k => XS.bipush X_5.here hx rfl (hb hby at_113) k) ?_
    show Go p.tables e below P (T_5.setTop (mkF m 115 #[.val (.int p1), .val (.int p2), .val (.int p3), .val (.int p4), .val (.int p5), .val (.int p6), .val (.int i7), .val (.int i15), .val (.double la), .second, .val (.double co), .second, .val (.ref b_1), .val (.int i53), .val (.int i59), .val (.int i72), .val (.int i78), .val (.int i84), .val (.double rr), .second] [(.int (16 : Int32)), (.int i112), (.double r64)]))
    refine Go.step (fun t k => XS.iload X_5.here hx rfl (hb hby at_115) rfl  k) ?_
    show Go p.tables e below P (T_5.setTop (mkF m 117 #[.val (.int p1), .val (.int p2), .val (.int p3), .val (.int p4), .val (.int p5), .val (.int p6), .val (.int i7), .val (.int i15), .val (.double la), .second, .val (.double co), .second, .val (.ref b_1), .val (.int i53), .val (.int i59), .val (.int i72), .val (.int i78), .val (.int i84), .val (.double rr), .second] [(.int i72), (.int (16 : Int32)), (.int i112), (.double r64)]))
    obtain ⟨i117, hi117⟩ : ∃ z : Int32, ((16 : Int32) >>> (i72 &&& 31)) = z := ⟨_, rfl⟩
    refine Go.step (fun t k => ishr_v X_5.here hx rfl (hb hby at_117) rfl  hi117 k) ?_
    show Go p.tables e below P (T_5.setTop (mkF m 118 #[.val (.int p1), .val (.int p2), .val (.int p3), .val (.int p4), .val (.int p5), .val (.int p6), .val (.int i7), .val (.int i15), .val (.double la), .second, .val (.double co), .second, .val (.ref b_1), .val (.int i53), .val (.int i59), .val (.int i72), .val (.int i78), .val (.int i84), .val (.double rr), .second] [(.int i117), (.int i112), (.double r64)]))
    obtain ⟨i118, hi118⟩ : ∃ z : Int32, i112 * i117 = z := ⟨_, rfl⟩
    refine Go.step (fun t k => imul_v X_5.here hx rfl (hb hby at_118) rfl  hi118 k) ?_
    show Go p.tables e below P (T_5.setTop (mkF m 119 #[.val (.int p1), .val (.int p2), .val (.int p3), .val (.int p4), .val (.int p5), .val (.int p6), .val (.int i7), .val (.int i15), .val (.double la), .second, .val (.double co), .second, .val (.ref b_1), .val (.int i53), .val (.int i59), .val (.int i72), .val (.int i78), .val (.int i84), .val (.double rr), .second] [(.int i118), (.double r64)]))
    refine Go.step (fun t k => XS.iload X_5.here hx rfl (hb hby at_119) rfl  k) ?_
    show Go p.tables e below P (T_5.setTop (mkF m 121 #[.val (.int p1), .val (.int p2), .val (.int p3), .val (.int p4), .val (.int p5), .val (.int p6), .val (.int i7), .val (.int i15), .val (.double la), .second, .val (.double co), .second, .val (.ref b_1), .val (.int i53), .val (.int i59), .val (.int i72), .val (.int i78), .val (.int i84), .val (.double rr), .second] [(.int i53), (.int i118), (.double r64)]))
    obtain ⟨i121, hi121⟩ : ∃ z : Int32, i118 + i53 = z := ⟨_, rfl⟩
    refine Go.step (fun t k => iadd_v X_5.here hx rfl (hb hby at_121) rfl  hi121 k) ?_
    show Go p.tables e below P (T_5.setTop (mkF m 122 #[.val (.int p1), .val (.int p2), .val (.int p3), .val (.int p4), .val (.int p5), .val (.int p6), .val (.int i7), .val (.int i15), .val (.double la), .second, .val (.double co), .second, .val (.ref b_1), .val (.int i53), .val (.int i59), .val (.int i72), .val (.int i78), .val (.int i84), .val (.double rr), .second] [(.int i121), (.double r64)]))
    have f112 := c_imul i7 i84; rw [hi112] at f112
    have g112 := rng32 i112
    have v112 : i112.toInt = i7.toInt * i84.toInt := by omega
    rw [hi117] at hee
    have f118 := c_imul i112 i117; rw [hi118, v112, ← hee] at f118
    have g118 := rng32 i118
    have v118 : i118.toInt = i7.toInt * i84.toInt * ee := by omega
    have f121 := c_iadd i118 i53; rw [hi121, v118] at f121
    have g121 := rng32 i121
    have v121 : i121.toInt = i7.toInt * i84.toInt * ee + i53.toInt := by omega
    obtain ⟨de, hde⟩ : ∃ z : UInt64, FP.i2d i121 = z := ⟨_, rfl⟩
    refine Go.step (fun t k => XS.i2dS X_5.here hx rfl (hb hby at_122) rfl hde k) ?_
    show Go p.tables e below P (T_5.setTop (mkF m 123 #[.val (.int p1), .val (.int p2), .val (.int p3), .val (.int p4), .val (.int p5), .val (.int p6), .val (.int i7), .val (.int i15), .val (.double la), .second, .val (.double co), .second, .val (.ref b_1), .val (.int i53), .val (.int i59), .val (.int i72), .val (.int i78), .val (.int i84), .val (.double rr), .second] [(.double de), (.double r64)]))
    have qe := (i2d_e i121).down (k' := 1048) (n := 26) rfl; rw [hde, v121] at qe
    refine Go.step (fun t k => XS.dcmpS X_5.here hx rfl (hb hby at_123) rfl rfl k) ?_
    show Go p.tables e below P (T_5.setTop (mkF m 124 #[.val (.int p1), .val (.int p2), .val (.int p3), .val (.int p4), .val (.int p5), .val (.int p6), .val (.int i7), .val (.int i15), .val (.double la), .second, .val (.double co), .second, .val (.ref b_1), .val (.int i53), .val (.int i59), .val (.int i72), .val (.int i78), .val (.int i84), .val (.double rr), .second] [(.int (cmpValue (FP.dcmp r64 de) .l))]))
    refine Go.step (fun t k => XS.ifNo X_5.here hx rfl (hb hby at_124) rfl (dcN (cd := .ne) (DE.cmp q107 qe) (fun q => q (by omega))) k) ?_
    show Go p.tables e below P (T_5.setTop (mkF m 127 #[.val (.int p1), .val (.int p2), .val (.int p3), .val (.int p4), .val (.int p5), .val (.int p6), .val (.int i7), .val (.int i15), .val (.double la), .second, .val (.double co), .second, .val (.ref b_1), .val (.int i53), .val (.int i59), .val (.int i72), .val (.int i78), .val (.int i84), .val (.double rr), .second] []))
    refine Go.step (fun t k => XS.iconst X_5.here hx rfl (hb hby at_127) k) ?_
    show Go p.tables e below P (T_5.setTop (mkF m 128 #[.val (.int p1), .val (.int p2), .val (.int p3), .val (.int p4), .val (.int p5), .val (.int p6), .val (.int i7), .val (.int i15), .val (.double la), .second, .val (.double co), .second, .val (.ref b_1), .val (.int i53), .val (.int i59), .val (.int i72), .val (.int i78), .val (.int i84), .val (.double rr), .second] [(.int (1 : Int32))]))
    refine Go.step (fun t k => XS.goto X_5.here hx rfl (pc0 := 128) (pc' := 132) rfl (hb hby at_128) (by decide) (by decide) k) ?_
    show Go p.tables e below P (T_5.setTop (mkF m 132 #[.val (.int p1), .val (.int p2), .val (.int p3), .val (.int p4), .val (.int p5), .val (.int p6), .val (.int i7), .val (.int i15), .val (.double la), .second, .val (.double co), .second, .val (.ref b_1), .val (.int i53), .val (.int i59), .val (.int i72), .val (.int i78), .val (.int i84), .val (.double rr), .second] [(.int (1 : Int32))]))
    exact retGo X_5 hx hP Bd.returns hlk rfl (Or.inl ⟨rfl, Or.inr (Or.inl rfl), _, rfl⟩) (hb hby at_132) (by decide) (by decide) (by rw [eh_5]; exact ⟨rfl, N_5⟩)
set_option maxRecDepth 65536 in
set_option maxHeartbeats 40000000 in
theorem comes_1 {Post : Tables → Env → Array Value → State → Outcome → State → Prop} (hpost : ∀ tb e args s v u, (limb_1_1.after args s (.returned v) u = true ∧ limb_1_2.after args s (.returned v) u = true ∧ True) → FrameEnd s (.returned v) u (Jvm.fieldLocs frame_1_writes args s ++ Jvm.arrayLocs frame_1_arrays args s ++ Jvm.staticLocs frame_1_statics s) 16 128 → Post tb e args s (.returned v) u) :
    ArmFor flags0 classFile x code maxLocals ret World_1 tables_1 room_1 Calls_1 rest_1 Pre_1 Post := by
  intro l hfl _ _ p e ha hc hk s m args below hf hA hF happ hP
  obtain ⟨hcalls, hrest, hpre⟩ := hP
  obtain ⟨-, -, -, hnamed, -, -, -, hat⟩ := (Spec.applies_iff hf).mp happ
  obtain ⟨hg, hn⟩ := and_e (Cond.before_iff.mp (show (Jvm.Cond.and given_1 narrow_1).before args s = true from hpre))
  obtain ⟨gc, hg0⟩ := and_e hg
  obtain ⟨ga0, hg1⟩ := and_e hg0
  obtain ⟨ga1, hg2⟩ := and_e hg1
  obtain ⟨ga2, hg3⟩ := and_e hg2
  obtain ⟨ga3, hg4⟩ := and_e hg3
  obtain ⟨ga4, hg5⟩ := and_e hg4
  have ga5 := hg5
  obtain ⟨w0, w1, w2, w3, w4, w5, rfl⟩ : ∃ w0 w1 w2 w3 w4 w5 : Value, args = #[w0, w1, w2, w3, w4, w5] := by
    have hs : args.size = 6 := by simpa [Cond.value, given_1] using gc
    obtain ⟨L⟩ := args
    match L, hs with
    | [w0, w1, w2, w3, w4, w5], _ => exact ⟨w0, w1, w2, w3, w4, w5, rfl⟩
  have hw := fun d (hd : d ∈ tables_1) => atoms_spec (ws := Jvm.Cond.code x code maxLocals ret :: tables_1) hat d (List.mem_cons_of_mem _ hd)
  obtain ⟨i0, ei0⟩ := is_v ga0
  obtain rfl : w0 = (.int i0) := Option.some.inj ei0
  obtain ⟨i1, ei1⟩ := is_v ga1
  obtain rfl : w1 = (.int i1) := Option.some.inj ei1
  obtain ⟨i2, ei2⟩ := is_v ga2
  obtain rfl : w2 = (.int i2) := Option.some.inj ei2
  obtain ⟨i3, ei3⟩ := is_v ga3
  obtain rfl : w3 = (.int i3) := Option.some.inj ei3
  obtain ⟨i4, ei4⟩ := is_v ga4
  obtain rfl : w4 = (.int i4) := Option.some.inj ei4
  obtain ⟨i5, ei5⟩ := is_v ga5
  obtain rfl : w5 = (.int i5) := Option.some.inj ei5
  obtain ⟨n, o, h1, h2, h3, _, L, rfl, ⟨rfl, N⟩, hq⟩ := rm0 l s _ hw tables_1 i0 i1 i2 i3 i4 i5 s.heap s.heap.size (Nat.le_refl _) p e ha hc hk s m _ below hf ((Spec.applies_iff_loose hf).mp happ).1 ⟨rfl, State.Warmed39.refl s, rfl⟩ trivial
  refine ⟨n, _, h1, h2, h3, hpost _ _ _ _ _ _ ⟨Cond.after_iff.mpr rfl, Cond.after_iff.mpr (eq_i res_at (Term.int_eval (1)) rfl), trivial⟩ ⟨hq.1, hq.2.1, (hq.2.2.sift fun y hy => Or.inr (N y hy)).mono (by decide) (by decide)⟩⟩
theorem main_1_1 : Claimed_1_1 := comes_1 fun _ _ _ _ _ _ h hF => ⟨h.1, hF⟩
theorem main_1_2 : Claimed_1_2 := comes_1 fun _ _ _ _ _ _ h hF => ⟨h.2.1, hF⟩
end Jvm.Pilot.@@N@@
namespace Jvm.Pilot.@@N@@
open Jvm Jvm.ClassFile Sem Op Lib Jvm.Free Jvm.Stand Jvm.Pilot.@@N@@.Jvm.D
/-! MADE BY PROGRAM (witnessworld.py) out of the Statement's table words and the real class files: 12 classes; the members and pool entries that the words name. The judged class is class 1, her method 1. -/
namespace start1
open Jvm.ClassFile
def u (s : String) : CpInfo := .utf8 (stringToUtf16 s)
/-- a pool by its gaps: so many unusable entries, then the entry; so many at the end -/
def gap : Nat → List CpInfo → List CpInfo
  | 0, r => r
  | n + 1, r => .unusable :: gap n r
def poolList (es : List (Nat × CpInfo)) (last : Nat) : List CpInfo := es.foldr (fun e r => gap e.1 (e.2 :: r)) (gap last [])
def pool (es : List (Nat × CpInfo)) (last : Nat) : Array CpInfo := ⟨poolList es last⟩
def fileOf (pool : Array CpInfo) (this : Nat) (attrs : Array Attribute := #[]) (ms : Array MethodInfo := #[]) (fl : Nat := 33) (sup : Nat := 0) (ifs : Array Nat := #[]) (fds : Array FieldInfo := #[]) : ClassFile where
  minorVersion := 0
  majorVersion := 65
  constantPool := pool
  accessFlags := fl
  thisClass := this
  superClass := sup
  interfaces := ifs
  fields := fds
  methods := ms
  attributes := attrs
def plain (name : String) (sup : Option ClassId) : Class where
  name := name
  kind := .ordinary
  loader := none
  accessFlags := 33
  super := sup
  interfaces := #[]
  cf := none
  fields := #[]
  methods := #[]
  instanceTypes := #[]
  staticTypes := #[]
  resolved := #[]
  callSites := []
  init := .initialized
  statics := none
  mirror := none

def pool0 : Array CpInfo := pool [(5, u "<init>"), (0, u "()V"), (1, .class_ 10), (1, u "java/lang/Object")] 113

def k0c0 : Code := { maxStack := 0, maxLocals := 1, code := object_method_1_code, exceptionTable := #[], attributes := #[] }
def k0m0 : Method := { name := "<init>", desc := "()V", sig := { parameters := [], returnType := none }, accessFlags := 1, code := some k0c0 }
/-- java/lang/Object -/
def k0 : Class := { plain "java/lang/Object" none with
  accessFlags := 33
  interfaces := #[]
  cf := some (fileOf pool0 8 #[] #[{ accessFlags := 1, nameIndex := 5, descriptorIndex := 6, attributes := #[] }] 33 0 #[] #[])
  fields := #[]
  methods := #[k0m0]
  instanceTypes := #[]
  staticTypes := #[]
  resolved := Array.replicate 124 none
  statics := none }

def pool1 : Array CpInfo := pool [(2, .class_ 4), (1, u "java/lang/Object"), (0, u "<init>"), (0, u "()V"), (0, .integer 2147483647), (0, .double 4616189618054758400), (1, .double 4625196817309499392), (1, .class_ 13), (0, u "com/example/eliteness/eliteness/ranking/Smoothing$JelinekMercer"), (0, .methodref 12 15), (0, .nameAndType 5 16), (0, u "(D)V"), (0, .integer 65535), (0, .methodref 12 19), (0, .nameAndType 20 21), (0, u "probability"), (0, u "(IIDI)D"), (0, .double 4634204016564240384), (1, .integer 1073741823), (0, .methodref 26 27), (0, .class_ 28), (0, .nameAndType 29 30), (0, u "java/lang/Math"), (0, u "max"), (0, u "(II)I"), (0, .class_ 32), (0, u "com/example/eliteness/eliteness/ranking/JelinekMercerProbabilityPinLaw"), (2, u "law"), (0, u "(IIIIII)Z")] 7

def k1m0 : Method := { name := "<init>", desc := "()V", sig := { parameters := [], returnType := none }, accessFlags := 1, code := none }
def k1c1 : Code := { maxStack := 6, maxLocals := 20, code := code, exceptionTable := #[], attributes := #[] }
def k1m1 : Method := { name := "law", desc := "(IIIIII)Z", sig := { parameters := [.int, .int, .int, .int, .int, .int], returnType := some .boolean }, accessFlags := 9, code := some k1c1 }
/-- com/example/eliteness/eliteness/ranking/JelinekMercerProbabilityPinLaw -/
def k1 : Class := { plain "com/example/eliteness/eliteness/ranking/JelinekMercerProbabilityPinLaw" (some 0) with
  accessFlags := 49
  interfaces := #[]
  cf := some (fileOf pool1 31 #[] #[{ accessFlags := 1, nameIndex := 5, descriptorIndex := 6, attributes := #[] }, { accessFlags := 9, nameIndex := 35, descriptorIndex := 36, attributes := #[] }] 49 2 #[] #[])
  fields := #[]
  methods := #[k1m0, k1m1]
  instanceTypes := #[]
  staticTypes := #[]
  resolved := Array.replicate 44 none
  statics := none }

def pool2 : Array CpInfo := pool [(1, .methodref 2 3), (0, .class_ 4), (0, .nameAndType 5 6), (0, u "java/lang/Object"), (0, u "<init>"), (0, u "()V"), (0, .class_ 8), (0, u "java/lang/Record")] 13

def k2c0 : Code := { maxStack := 1, maxLocals := 1, code := jdk_30_method_1_code, exceptionTable := #[], attributes := #[] }
def k2m0 : Method := { name := "<init>", desc := "()V", sig := { parameters := [], returnType := none }, accessFlags := 4, code := some k2c0 }
/-- java/lang/Record -/
def k2 : Class := { plain "java/lang/Record" (some 0) with
  accessFlags := 1057
  interfaces := #[]
  cf := some (fileOf pool2 7 #[] #[{ accessFlags := 4, nameIndex := 5, descriptorIndex := 6, attributes := #[] }] 1057 2 #[] #[])
  fields := #[]
  methods := #[k2m0]
  instanceTypes := #[]
  staticTypes := #[]
  resolved := Array.replicate 22 none
  statics := none }

def pool3 : Array CpInfo := pool [(1, .class_ 2), (0, u "com/example/eliteness/eliteness/ranking/Smoothing"), (0, .class_ 4), (0, u "java/lang/Object"), (5, .class_ 11), (0, u "com/example/eliteness/eliteness/ranking/Smoothing$Dirichlet"), (0, .class_ 13), (0, u "com/example/eliteness/eliteness/ranking/Smoothing$JelinekMercer"), (0, .class_ 15), (0, u "com/example/eliteness/eliteness/ranking/Smoothing$Laplace"), (0, .class_ 17), (0, u "com/example/eliteness/eliteness/ranking/Smoothing$MaximumLikelihood")] 6

/-- com/example/eliteness/eliteness/ranking/Smoothing -/
def k3 : Class := { plain "com/example/eliteness/eliteness/ranking/Smoothing" (some 0) with
  accessFlags := 1537
  interfaces := #[]
  cf := some (fileOf pool3 1 #[.nestMembers #[10, 12, 14, 16]] #[] 1537 3 #[] #[])
  fields := #[]
  methods := #[]
  instanceTypes := #[]
  staticTypes := #[]
  resolved := Array.replicate 24 none
  statics := none }

def pool4 : Array CpInfo := pool [(1, .methodref 2 3), (0, .class_ 4), (0, .nameAndType 5 6), (0, u "java/lang/Record"), (0, u "<init>"), (0, u "()V"), (9, .fieldref 17 18), (0, .class_ 19), (0, .nameAndType 20 21), (0, u "com/example/eliteness/eliteness/ranking/Smoothing$JelinekMercer"), (0, u "lambda"), (0, u "D"), (12, .class_ 35), (0, u "com/example/eliteness/eliteness/ranking/Smoothing"), (0, u "(D)V"), (4, u "probability"), (0, u "(IIDI)D")] 33

def k4c0 : Code := { maxStack := 4, maxLocals := 3, code := prog_55_method_1_code, exceptionTable := #[], attributes := #[] }
def k4m0 : Method := { name := "<init>", desc := "(D)V", sig := { parameters := [.double], returnType := none }, accessFlags := 1, code := some k4c0 }
def k4c1 : Code := { maxStack := 6, maxLocals := 6, code := prog_55_method_2_code, exceptionTable := #[], attributes := #[] }
def k4m1 : Method := { name := "probability", desc := "(IIDI)D", sig := { parameters := [.int, .int, .double, .int], returnType := some .double }, accessFlags := 1, code := some k4c1 }
/-- com/example/eliteness/eliteness/ranking/Smoothing$JelinekMercer -/
def k4 : Class := { plain "com/example/eliteness/eliteness/ranking/Smoothing$JelinekMercer" (some 2) with
  accessFlags := 49
  interfaces := #[3]
  cf := some (fileOf pool4 17 #[.nestHost 34] #[{ accessFlags := 1, nameIndex := 5, descriptorIndex := 36, attributes := #[] }, { accessFlags := 1, nameIndex := 41, descriptorIndex := 42, attributes := #[] }] 49 2 #[34] #[{ accessFlags := 18, nameIndex := 20, descriptorIndex := 21, attributes := #[] }])
  fields := #[{ name := "lambda", type := .double, accessFlags := 18, slot := 0, constantValue := 0 }]
  methods := #[k4m0, k4m1]
  instanceTypes := #[.double]
  staticTypes := #[]
  resolved := Array.replicate 76 none
  statics := none }

def pool5 : Array CpInfo := pool [(1, .class_ 2), (0, u "java/lang/Math"), (1, .class_ 6), (1, u "java/lang/Object"), (0, u "<init>"), (0, u "()V"), (89, .class_ 100), (1, u "java/lang/Math$RandomNumberGeneratorHolder"), (71, u "negativeZeroFloatBits"), (0, u "J"), (2, u "negativeZeroDoubleBits"), (21, u "max"), (46, u "$assertionsDisabled"), (0, u "Z"), (88, u "(II)I"), (2, u "twoToTheDoubleScaleDown"), (0, u "D"), (4, u "twoToTheDoubleScaleUp"), (9, u "E"), (3, u "PI"), (2, u "TAU"), (2, u "DEGREES_TO_RADIANS"), (0, u "RADIANS_TO_DEGREES")] 94

def k5m0 : Method := { name := "<init>", desc := "()V", sig := { parameters := [], returnType := none }, accessFlags := 2, code := none }
def k5c1 : Code := { maxStack := 2, maxLocals := 2, code := jdk_29_method_65_code, exceptionTable := #[], attributes := #[] }
def k5m1 : Method := { name := "max", desc := "(II)I", sig := { parameters := [.int, .int], returnType := some .int }, accessFlags := 9, code := some k5c1 }
/-- java/lang/Math -/
def k5 : Class := { plain "java/lang/Math" (some 0) with
  accessFlags := 49
  interfaces := #[]
  cf := some (fileOf pool5 1 #[.nestMembers #[98]] #[{ accessFlags := 2, nameIndex := 7, descriptorIndex := 8, attributes := #[] }, { accessFlags := 9, nameIndex := 198, descriptorIndex := 335, attributes := #[] }] 49 4 #[] #[{ accessFlags := 25, nameIndex := 354, descriptorIndex := 339, attributes := #[] }, { accessFlags := 25, nameIndex := 358, descriptorIndex := 339, attributes := #[] }, { accessFlags := 25, nameIndex := 361, descriptorIndex := 339, attributes := #[] }, { accessFlags := 26, nameIndex := 364, descriptorIndex := 339, attributes := #[] }, { accessFlags := 26, nameIndex := 365, descriptorIndex := 339, attributes := #[] }, { accessFlags := 26, nameIndex := 172, descriptorIndex := 173, attributes := #[] }, { accessFlags := 26, nameIndex := 176, descriptorIndex := 173, attributes := #[] }, { accessFlags := 8, nameIndex := 344, descriptorIndex := 339, attributes := #[] }, { accessFlags := 8, nameIndex := 338, descriptorIndex := 339, attributes := #[] }, { accessFlags := 4120, nameIndex := 245, descriptorIndex := 246, attributes := #[] }])
  fields := #[{ name := "E", type := .double, accessFlags := 25, slot := 0, constantValue := 0 }, { name := "PI", type := .double, accessFlags := 25, slot := 1, constantValue := 0 }, { name := "TAU", type := .double, accessFlags := 25, slot := 2, constantValue := 0 }, { name := "DEGREES_TO_RADIANS", type := .double, accessFlags := 26, slot := 3, constantValue := 0 }, { name := "RADIANS_TO_DEGREES", type := .double, accessFlags := 26, slot := 4, constantValue := 0 }, { name := "negativeZeroFloatBits", type := .long, accessFlags := 26, slot := 5, constantValue := 0 }, { name := "negativeZeroDoubleBits", type := .long, accessFlags := 26, slot := 6, constantValue := 0 }, { name := "twoToTheDoubleScaleUp", type := .double, accessFlags := 8, slot := 7, constantValue := 0 }, { name := "twoToTheDoubleScaleDown", type := .double, accessFlags := 8, slot := 8, constantValue := 0 }, { name := "$assertionsDisabled", type := .boolean, accessFlags := 4120, slot := 9, constantValue := 0 }]
  methods := #[k5m0, k5m1]
  instanceTypes := #[]
  staticTypes := #[.double, .double, .double, .double, .double, .long, .long, .double, .double, .boolean]
  resolved := Array.replicate 460 none
  statics := none }

def pool6 : Array CpInfo := pool [(1, u "java/lang/Cloneable"), (0, .class_ 1), (0, u "java/lang/Object"), (0, .class_ 3)] 3

/-- java/lang/Cloneable -/
def k6 : Class := { plain "java/lang/Cloneable" (some 0) with
  accessFlags := 1537
  interfaces := #[]
  cf := some (fileOf pool6 2 #[] #[] 1537 4 #[] #[])
  fields := #[]
  methods := #[]
  instanceTypes := #[]
  staticTypes := #[]
  resolved := Array.replicate 8 none
  statics := none }

def pool7 : Array CpInfo := pool [(1, u "java/io/Serializable"), (0, .class_ 1), (0, u "java/lang/Object"), (0, .class_ 3)] 3

/-- java/io/Serializable -/
def k7 : Class := { plain "java/io/Serializable" (some 0) with
  accessFlags := 1537
  interfaces := #[]
  cf := some (fileOf pool7 2 #[] #[] 1537 4 #[] #[])
  fields := #[]
  methods := #[]
  instanceTypes := #[]
  staticTypes := #[]
  resolved := Array.replicate 8 none
  statics := none }

/-- the primitive byte -/
def k8 : Class := { plain "byte" none with kind := .primitive 'B', accessFlags := 0x411 }
/-- [B -/
def k9 : Class := { plain "[B" (some 0) with kind := .array 8 .byte, interfaces := #[6, 7], accessFlags := 1041 }

/-- the primitive int -/
def k10 : Class := { plain "int" none with kind := .primitive 'I', accessFlags := 0x411 }
/-- [I -/
def k11 : Class := { plain "[I" (some 0) with kind := .array 10 .int, interfaces := #[6, 7], accessFlags := 1041 }

def heap : Heap := #[]
def classes : Array Class := #[k0, k1, k2, k3, k4, k5, k6, k7, k8, k9, k10, k11]
def interned : List (Array UInt16 × Addr) := []
def slotsUsed : Nat := 0
def theMethod : MethodId := ⟨1, 1⟩
def args0 : Array Value := #[.int 3, .int 8, .int 5, .int 7, .int 9, .int 11]
def aboutOver (below : List Frame) : State where
  vm := { classes := classes, interned := interned.toArray }
  heap := heap
  slotsUsed := slotsUsed
  threads := #[{ frames := .invoking theMethod args0 :: below }]
def below0 : List Frame := [.native { method := ⟨0, 0⟩, args := #[] }]
def about1 : State := aboutOver below0
def p0 : Program := .bare "" "" ""
def e0 : Env := launch0.env 0 0 0
theorem w_frames : about1.frames = Frame.invoking theMethod args0 :: below0 := rfl
set_option maxRecDepth 65536 in
theorem w_args : argsFit about1.vm theMethod args0 = true := by decide +kernel
set_option maxRecDepth 65536 in
theorem w_heap : heapFits about1 = true := by decide +kernel
set_option maxRecDepth 65536 in
theorem w_runnable : about1.curStatus? = some .runnable := by decide +kernel
set_option maxRecDepth 65536 in
theorem w_alone : about1.alone = true := by decide +kernel
set_option maxRecDepth 65536 in
theorem w_named : about1.methodNamed? x = some theMethod := by decide +kernel
set_option maxRecDepth 65536 in
theorem w_hears : about1.hears theMethod below0 = true := by decide +kernel
set_option maxRecDepth 65536 in
theorem w_ripe : about1.ripe theMethod args0 below0 = true := by decide +kernel
theorem w_running : about1.status = .running := rfl
set_option maxRecDepth 65536 in
theorem w_room : about1.hasRoom e0.platform room_1 = true :=
  launch0.hasRoom_least _ room_1 (by decide +kernel) (by decide +kernel) (by decide +kernel) (by decide +kernel) (by decide +kernel) (by decide +kernel)
theorem allAtoms_all (ts : List Jvm.Cond) (a : Array Jvm.Value) (st : Jvm.State) : (allAtoms ts).before a st = ts.all (fun c => c.before a st) := by
  induction ts with
  | nil => rfl
  | cons c t ih =>
    show (Jvm.Cond.and c (allAtoms t)).before a st = _
    rw [Jvm.Cond.before_and, ih, List.all_cons]
def words1 : List Jvm.Cond := Jvm.Cond.code x code maxLocals ret :: tables_1
/-- a 'code' word, met by the world's own term for the bytes: nothing is compared byte by byte -/
theorem code_word {y : MethodName} {bytes : ByteArray} {mx : Nat} {rt : Option FieldType} {a : Array Value} {s : State} {m : MethodId} {meth : Method} {c : Code} (h1 : s.methodNamed? y = some m) (h2 : s.vm.method? m = some meth) (h3 : meth.code = some c) (h4 : c.code = bytes)
    (h5 : (c.maxLocals == mx && c.exceptionTable.isEmpty && decide (c.maxStack ≤ mostOperands) && decide (meth.sig.returnType = rt) && !meth.locks && decide (parseMethodDescriptor y.desc = some meth.sig)) = true) : (Jvm.Cond.code y bytes mx rt).before a s = true := by
  simp only [Bool.and_eq_true, beq_iff_eq, Bool.not_eq_true', decide_eq_true_eq] at h5
  obtain ⟨⟨⟨⟨⟨g1, g2⟩, g3⟩, g4⟩, g5⟩, g6⟩ := h5
  simp [Cond.before, Cond.holds, Cond.value, h1, h2, h3, h4, g1, g2, g3, g4, g5, g6]
def isCode : Jvm.Cond → Bool
  | .code _ _ _ _ => true
  | _ => false
theorem all_split {L : List Jvm.Cond} {P : Jvm.Cond → Bool} (h1 : L.all (fun c => isCode c || P c) = true) (h2 : ∀ c ∈ L.filter isCode, P c = true) : L.all P = true := by
  refine List.all_eq_true.mpr fun c hc => ?_
  have h := List.all_eq_true.mp h1 c hc
  rcases Bool.eq_false_or_eq_true (isCode c) with hi | hi
  · exact h2 c (List.mem_filter.mpr ⟨hc, hi⟩)
  · simpa [hi] using h
set_option maxRecDepth 65536 in
theorem w_c0 : (Jvm.Cond.code x code maxLocals ret).before args0 about1 = true := code_word (m := ⟨1, 1⟩) (meth := k1m1) (c := k1c1) (by decide +kernel) rfl rfl rfl (by decide +kernel)
set_option maxRecDepth 65536 in
theorem w_c1 : (Jvm.Cond.code ({ cls := "com/example/eliteness/eliteness/ranking/Smoothing$JelinekMercer", name := "<init>", desc := "(D)V" } : Jvm.MethodName) prog_55_method_1_code (3 : Nat) (Option.none : Option Jvm.ClassFile.FieldType)).before args0 about1 = true := code_word (m := ⟨4, 0⟩) (meth := k4m0) (c := k4c0) (by decide +kernel) rfl rfl rfl (by decide +kernel)
set_option maxRecDepth 65536 in
theorem w_c2 : (Jvm.Cond.code ({ cls := "java/lang/Record", name := "<init>", desc := "()V" } : Jvm.MethodName) jdk_30_method_1_code (1 : Nat) (Option.none : Option Jvm.ClassFile.FieldType)).before args0 about1 = true := code_word (m := ⟨2, 0⟩) (meth := k2m0) (c := k2c0) (by decide +kernel) rfl rfl rfl (by decide +kernel)
set_option maxRecDepth 65536 in
theorem w_c3 : (Jvm.Cond.code ({ cls := "java/lang/Object", name := "<init>", desc := "()V" } : Jvm.MethodName) object_method_1_code (1 : Nat) (Option.none : Option Jvm.ClassFile.FieldType)).before args0 about1 = true := code_word (m := ⟨0, 0⟩) (meth := k0m0) (c := k0c0) (by decide +kernel) rfl rfl rfl (by decide +kernel)
set_option maxRecDepth 65536 in
theorem w_c4 : (Jvm.Cond.code ({ cls := "java/lang/Math", name := "max", desc := "(II)I" } : Jvm.MethodName) jdk_29_method_65_code (2 : Nat) (Option.some Jvm.ClassFile.FieldType.int)).before args0 about1 = true := code_word (m := ⟨5, 1⟩) (meth := k5m1) (c := k5c1) (by decide +kernel) rfl rfl rfl (by decide +kernel)
set_option maxRecDepth 65536 in
theorem w_c5 : (Jvm.Cond.code ({ cls := "com/example/eliteness/eliteness/ranking/Smoothing$JelinekMercer", name := "probability", desc := "(IIDI)D" } : Jvm.MethodName) prog_55_method_2_code (6 : Nat) (Option.some Jvm.ClassFile.FieldType.double)).before args0 about1 = true := code_word (m := ⟨4, 1⟩) (meth := k4m1) (c := k4c1) (by decide +kernel) rfl rfl rfl (by decide +kernel)
def codes1 : List Jvm.Cond := [Jvm.Cond.code x code maxLocals ret, Jvm.Cond.code ({ cls := "com/example/eliteness/eliteness/ranking/Smoothing$JelinekMercer", name := "<init>", desc := "(D)V" } : Jvm.MethodName) prog_55_method_1_code (3 : Nat) (Option.none : Option Jvm.ClassFile.FieldType), Jvm.Cond.code ({ cls := "java/lang/Record", name := "<init>", desc := "()V" } : Jvm.MethodName) jdk_30_method_1_code (1 : Nat) (Option.none : Option Jvm.ClassFile.FieldType), Jvm.Cond.code ({ cls := "java/lang/Object", name := "<init>", desc := "()V" } : Jvm.MethodName) object_method_1_code (1 : Nat) (Option.none : Option Jvm.ClassFile.FieldType), Jvm.Cond.code ({ cls := "java/lang/Math", name := "max", desc := "(II)I" } : Jvm.MethodName) jdk_29_method_65_code (2 : Nat) (Option.some Jvm.ClassFile.FieldType.int), Jvm.Cond.code ({ cls := "com/example/eliteness/eliteness/ranking/Smoothing$JelinekMercer", name := "probability", desc := "(IIDI)D" } : Jvm.MethodName) prog_55_method_2_code (6 : Nat) (Option.some Jvm.ClassFile.FieldType.double)]
set_option maxRecDepth 65536 in
theorem codes_eq : words1.filter isCode = codes1 := rfl
theorem w_codes : ∀ c ∈ words1.filter isCode, c.before args0 about1 = true := by
  rw [codes_eq]
  intro c hc
  simp only [codes1, List.mem_cons, List.not_mem_nil, or_false] at hc
  rcases hc with rfl | rfl | rfl | rfl | rfl | rfl
  · exact w_c0
  · exact w_c1
  · exact w_c2
  · exact w_c3
  · exact w_c4
  · exact w_c5
set_option maxRecDepth 65536 in
theorem w_t1 : (words1.take 24).all (fun c => isCode c || c.before args0 about1) = true := by decide +kernel
set_option maxRecDepth 65536 in
theorem w_t2 : (words1.drop 24).all (fun c => isCode c || c.before args0 about1) = true := by decide +kernel
theorem w_tables : (allAtoms (Jvm.Cond.code x code maxLocals ret :: tables_1)).before args0 about1 = true := by
  rw [allAtoms_all]
  show words1.all (fun c => c.before args0 about1) = true
  refine all_split ?_ w_codes
  rw [← List.take_append_drop 24 words1, List.all_append, w_t1, w_t2]
  rfl
set_option maxRecDepth 65536 in
theorem w_case : (Jvm.Cond.and given_1 narrow_1).before args0 about1 = true := by decide +kernel
theorem w_applies : (headSpec (Jvm.Cond.code x code maxLocals ret :: tables_1) room_1).applies x e0.platform about1 = true :=
  (Spec.applies_iff w_frames).mpr ⟨w_running, w_runnable, w_alone, w_named, w_hears, w_ripe, w_room, w_tables⟩
theorem atStart : AtStart classFile x code maxLocals ret World_1 tables_1 room_1 Calls_1 rest_1 Pre_1 launch0 p0 e0 about1 theMethod args0 below0 :=
  ⟨lists_1, trivial, launch0.admits_env _ _ _, launch0.least_env, fairChoices_fair.cas, fairChoices_fair.clock, w_frames, w_args, w_heap, w_applies, trivial, trivial, w_case⟩
end start1
theorem witness_1 : WitnessClaimed_1 := ⟨start1.p0, start1.e0, start1.about1, start1.theMethod, start1.args0, start1.below0, start1.atStart⟩
end Jvm.Pilot.@@N@@
