import JvmDerived
import JvmDerived.Pilot.@@N@@Statement
import JvmDerived.Pilot.@@N@@Code
set_option linter.unusedVariables false
set_option linter.unusedSimpArgs false
namespace Jvm.Pilot.@@N@@.Own
open Jvm Jvm.ClassFile Sem Op Lib Jvm.Free Jvm.Stand Jvm.LawKit Jvm.RoadKit
/-- from S the run comes to an end of which P holds -/
def Go (tb : Tables) (e : Env) (below : List Frame) (P : State → Outcome → Prop) (S : State) : Prop :=
  ∃ s₂ o, Steps tb e below S s₂ ∧ s₂.status = .running ∧ Ended s₂ below o ∧ P s₂ o
theorem Go.step {tb : Tables} {e : Env} {below : List Frame} {P : State → Outcome → Prop} {S S' : State}
    (h : ∀ t, Steps tb e below S' t → Steps tb e below S t) (g : Go tb e below P S') : Go tb e below P S := by
  obtain ⟨t, o, h1, h2⟩ := g; exact ⟨t, o, h t h1, h2⟩
theorem Go.tr {tb : Tables} {e : Env} {below : List Frame} {P : State → Outcome → Prop} {S S' : State}
    (h : Steps tb e below S S') (g : Go tb e below P S') : Go tb e below P S := by
  obtain ⟨t, o, h1, h2⟩ := g; exact ⟨t, o, h.trans h1, h2⟩
theorem Go.start {tb : Tables} {e : Env} {below : List Frame} {P₀ : State → Outcome → Prop} {S S' : State} (q : S = S')
    (h : ∀ P : State → Outcome → Prop, (∀ s₂ o, P₀ s₂ o → P s₂ o) → Go tb e below P S') : Go tb e below P₀ S := by
  subst q; exact h P₀ fun _ _ h => h
/-- a value gets a name -/
theorem nm {α : Type} (F : α → Prop) (x : α) (H : ∀ z, z = x → F z) : F x := H x rfl
section Ends
variable {p : Program} {l : Launch} {e : Env} {R : Room} {s : State} {m : MethodId} {args : Array Value} {below : List Frame} {meth : Method} {c : Code} {T : State} {locs : List Loc} {cells slots : Nat}
theorem retGo (X : Stand p l e R s m args below meth c T locs cells slots) (hx : p.tables.exec = Jvm.exec) {P : State → Outcome → Prop} {Q : Option Value → Heap → List Loc → Prop} {kc ks : Nat}
    (hP : ∀ s₂ o, (∃ v L, o = .returned v ∧ Q v s₂.heap L ∧ FrameEnd s o s₂ L kc ks) → P s₂ o) {pc : Nat} {Ls : Array Slot} {w : Value} {t : FieldType} {i : Instr} {rest : List Value} (hret : meth.sig.returnType = some t) (hlk : meth.locks = false) (hn : narrow t w = w)
    (hi : (i = .ireturn ∧ (t = .int ∨ t = .boolean ∨ t = .byte ∨ t = .char ∨ t = .short) ∧ ∃ z, w = .int z) ∨ (i = .lreturn ∧ t = .long ∧ ∃ z, w = .long z) ∨ (i = .dreturn ∧ t = .double ∧ ∃ z, w = .double z) ∨ (i = .freturn ∧ t = .float ∧ ∃ z, w = .float z) ∨ (i = .areturn ∧ t.isReference = true ∧ w.isRef = true))
    (hd : decode c.code pc = .ok (i, 1)) (hc : cells ≤ kc) (hs : slots ≤ ks) (hQ : Q (some w) T.heap locs) : Go p.tables e below P (T.setTop (mkF m pc Ls (w :: rest))) := by
  obtain ⟨fs, hr, hrun, hended, hW, hsame⟩ := X.leave (v := some w) (fun h => by rw [hret] at h; cases h) hlk
  exact ⟨_, _, retOut X hx hret hn hi hd hr, hrun, hended, hP _ _ ⟨_, _, rfl, hQ, ⟨_, rfl⟩, hW, hsame.mono hc hs⟩⟩
theorem voidGo (X : Stand p l e R s m args below meth c T locs cells slots) (hx : p.tables.exec = Jvm.exec) {P : State → Outcome → Prop} {Q : Option Value → Heap → List Loc → Prop} {kc ks : Nat}
    (hP : ∀ s₂ o, (∃ v L, o = .returned v ∧ Q v s₂.heap L ∧ FrameEnd s o s₂ L kc ks) → P s₂ o) {pc : Nat} {Ls : Array Slot} (hret : meth.sig.returnType = none) (hlk : meth.locks = false)
    (hd : decode c.code pc = .ok (.return_, 1)) (hc : cells ≤ kc) (hs : slots ≤ ks) (hQ : Q none T.heap locs) : Go p.tables e below P (T.setTop (mkF m pc Ls [])) := by
  obtain ⟨fs, hr, hrun, hended, hW, hsame⟩ := X.leave (v := none) (fun _ => rfl) hlk
  exact ⟨_, _, X.returnOut hx hret hd hr, hrun, hended, hP _ _ ⟨_, _, rfl, hQ, ⟨_, rfl⟩, hW, hsame.mono hc hs⟩⟩
end Ends
/-! branches: what is compared, as whole numbers -/
def rel : ClassFile.Cond → Int → Int → Prop
  | .eq, a, b => a = b
  | .ne, a, b => ¬ a = b
  | .lt, a, b => a < b
  | .ge, a, b => b ≤ a
  | .gt, a, b => b < a
  | .le, a, b => a ≤ b
theorem icY {cd : ClassFile.Cond} {x y : Int32} (h : rel cd x.toInt y.toInt) : if_icmp.holds cd x y = true := by
  cases cd <;> simp only [rel] at h <;> simp [if_icmp.holds, Int32.lt_iff_toInt_lt, Int32.le_iff_toInt_le, ← Int32.toInt_inj] <;> omega
theorem icN {cd : ClassFile.Cond} {x y : Int32} (h : ¬ rel cd x.toInt y.toInt) : if_icmp.holds cd x y = false := by
  cases cd <;> simp only [rel] at h <;> simp [if_icmp.holds, Int32.lt_iff_toInt_lt, Int32.le_iff_toInt_le, ← Int32.toInt_inj] <;> omega
theorem ifY {cd : ClassFile.Cond} {x : Int32} (h : rel cd x.toInt 0) : ifCond.holds cd x = true := (if0 cd x).trans (icY h)
theorem ifN {cd : ClassFile.Cond} {x : Int32} (h : ¬ rel cd x.toInt 0) : ifCond.holds cd x = false := (if0 cd x).trans (icN h)
theorem lcmp_rel {cd : ClassFile.Cond} {x y : Int64} : rel cd (lcmpW x y).toInt 0 ↔ rel cd x.toInt y.toInt := by
  have h1 : x < y ↔ x.toInt < y.toInt := Int64.lt_iff_toInt_lt
  have h2 : y < x ↔ y.toInt < x.toInt := Int64.lt_iff_toInt_lt
  have h3 : x = y ↔ x.toInt = y.toInt := Int64.toInt_inj.symm
  have e1 : (1 : Int32).toInt = 1 := rfl
  have e2 : (-1 : Int32).toInt = -1 := rfl
  have e3 : (0 : Int32).toInt = 0 := rfl
  unfold lcmpW
  by_cases c1 : x > y
  · rw [if_pos c1, e1]; have := h2.mp c1; cases cd <;> simp only [rel] <;> omega
  · rw [if_neg c1]
    have n1 : ¬ y.toInt < x.toInt := fun q => c1 (h2.mpr q)
    by_cases c2 : x = y
    · rw [if_pos c2, e3]; have q := h3.mp c2; cases cd <;> simp only [rel] <;> first | omega | simp [q]
    · rw [if_neg c2, e2]
      have n2 : ¬ x.toInt = y.toInt := fun q => c2 (h3.mpr q)
      cases cd <;> simp only [rel] <;> omega
theorem lcY {cd : ClassFile.Cond} {x y : Int64} (h : rel cd x.toInt y.toInt) : ifCond.holds cd (lcmpW x y) = true := ifY (lcmp_rel.mpr h)
theorem lcN {cd : ClassFile.Cond} {x y : Int64} (h : ¬ rel cd x.toInt y.toInt) : ifCond.holds cd (lcmpW x y) = false := ifN fun q => h (lcmp_rel.mp q)
theorem cmpV_rel {cd : ClassFile.Cond} {op : CmpOp} {i j : Int} : rel cd (cmpValue (some (compare i j)) op).toInt 0 ↔ rel cd i j := by
  have e1 : (1 : Int32).toInt = 1 := rfl
  have e2 : (-1 : Int32).toInt = -1 := rfl
  have e3 : (0 : Int32).toInt = 0 := rfl
  cases h : compare i j with
  | lt => have := (FP.Core.compare_lt_iff i j).mp h; show rel cd (-1 : Int32).toInt 0 ↔ _; rw [e2]; cases cd <;> simp only [rel] <;> omega
  | eq => have := (FP.Core.compare_eq_iff i j).mp h; show rel cd (0 : Int32).toInt 0 ↔ _; rw [e3]; cases cd <;> simp only [rel] <;> first | omega | simp [this]
  | gt => have := (FP.Core.compare_gt_iff i j).mp h; show rel cd (1 : Int32).toInt 0 ↔ _; rw [e1]; cases cd <;> simp only [rel] <;> omega
theorem dcY {cd : ClassFile.Cond} {op : CmpOp} {r : Option Ordering} {i j : Int} (q : r = some (compare i j)) (h : rel cd i j) : ifCond.holds cd (cmpValue r op) = true := by subst q; exact ifY (cmpV_rel.mpr h)
theorem dcN {cd : ClassFile.Cond} {op : CmpOp} {r : Option Ordering} {i j : Int} (q : r = some (compare i j)) (h : ¬ rel cd i j) : ifCond.holds cd (cmpValue r op) = false := by subst q; exact ifN fun z => h (cmpV_rel.mp z)
end Jvm.Pilot.@@N@@.Own
namespace Jvm.Pilot.@@N@@.Own
open Jvm Jvm.FP Jvm.FP.Core
/-! ## doubles as whole numbers of 2^-1074: what rounding leaves -/
/-- a double's value in units of 2^-1074 -/
def zv (a : UInt64) : Int := zval b64 (val64 a)
/-- a is finite and lies between lo * 2^k and hi * 2^k units -/
def DB (k : Nat) (lo hi : Int) (a : UInt64) : Prop := DFin a ∧ lo * ((2 ^ k : Nat) : Int) ≤ zv a ∧ zv a ≤ hi * ((2 ^ k : Nat) : Int)
/-- a is finite and is i * 2^k units -/
abbrev DE (k : Nat) (i : Int) (a : UInt64) : Prop := DB k i i a
theorem DE.eq {k : Nat} {i : Int} {a : UInt64} (h : DE k i a) : zv a = i * ((2 ^ k : Nat) : Int) := Int.le_antisymm h.2.2 h.2.1
theorem DE.of {k : Nat} {i : Int} {a : UInt64} (hf : DFin a) (h : zv a = i * ((2 ^ k : Nat) : Int)) : DE k i a := ⟨hf, Int.le_of_eq h.symm, Int.le_of_eq h⟩
theorem tn32 {q : Int32} (h0 : 0 ≤ q.toInt) : (q.toBitVec.toNat : Int) = q.toInt := by
  have l := q.toBitVec.isLt
  have e : q.toInt = q.toBitVec.toInt := rfl
  rw [e] at h0 ⊢
  rw [BitVec.toInt_eq_toNat_cond] at h0 ⊢
  split at h0 <;> split <;> omega
theorem nmul {a b : Int} {A B : Nat} (ha : a.natAbs ≤ A) (hb : b.natAbs ≤ B) : (a * b).natAbs ≤ A * B := by rw [Int.natAbs_mul]; exact Nat.mul_le_mul ha hb
theorem le_mul1 {a b : Int} (ha : 0 ≤ a) (hb : 1 ≤ b) : a ≤ a * b := by have := Int.mul_le_mul_of_nonneg_left hb ha; rwa [Int.mul_one] at this
theorem pw_pos (k : Nat) : (0 : Int) < ((2 ^ k : Nat) : Int) := Int.natCast_pos.mpr (Nat.two_pow_pos k)
theorem DB.nn {k : Nat} {lo hi : Int} {a : UInt64} (h : DB k lo hi a) : Jvm.Free.Fl.NoNaN64 a := Jvm.Free.Fl.noNaN64_no.mpr h.1.notNaN
theorem DB.ne {k : Nat} {lo hi : Int} {a : UInt64} (h : DB k lo hi a) : val64 a ≠ .nan := h.1.ne_nan
/-- a number of 53 digits is a double -/
theorem rep {n : Int} {k : Nat} (hn : n.natAbs ≤ 2 ^ 53) (hk : k ≤ 2044) : ∃ s c q, FP.Core.fits b64 (.fin s c q) ∧ zval b64 (.fin s c q) = n * ((2 ^ k : Nat) : Int) := by
  have key : ∀ (n : Int) (k : Nat), n.natAbs < 2 ^ 53 → k ≤ 2045 → ∃ s c q, FP.Core.fits b64 (.fin s c q) ∧ zval b64 (.fin s c q) = n * ((2 ^ k : Nat) : Int) := by
    intro n k hn hk
    have q1 : b64.qmin = -1074 := by decide
    have q2 : b64.qmax = 971 := by decide
    obtain ⟨c', q', h1, h2⟩ := round_exact good_b64 (decide (n < 0)) (c := n.natAbs) (q := b64.qmin + (k : Int)) (show n.natAbs < 2 ^ b64.p from hn) (by omega) (by omega)
    refine ⟨_, c', q', h1 ▸ round_fits good_b64 _, ?_⟩
    show signed (decide (n < 0)) (inUnits c' q' b64.qmin) = _
    rw [h2]
    unfold inUnits
    rw [signed_mul, show (b64.qmin + (k : Int) - b64.qmin).toNat = k by omega]
    congr 1
    unfold signed
    by_cases h : n < 0 <;> simp [h] <;> omega
  by_cases h : n.natAbs < 2 ^ 53
  · exact key n k h (by omega)
  · have e : n.natAbs = 2 ^ 53 := by omega
    have : ∃ m : Int, n = m * 2 ∧ m.natAbs < 2 ^ 53 := by
      rcases Int.natAbs_eq n with q | q
      · exact ⟨2 ^ 52, by rw [q, e]; decide, by decide⟩
      · exact ⟨-2 ^ 52, by rw [q, e]; decide, by decide⟩
    obtain ⟨m, rfl, hm⟩ := this
    obtain ⟨s, c, q, h1, h2⟩ := key m (k + 1) hm (by omega)
    refine ⟨s, c, q, h1, ?_⟩
    rw [h2, Nat.pow_succ, Int.natCast_mul, Int.mul_assoc]
    congr 1
    rw [Int.mul_comm]; rfl
/-- a number between two finite ones is finite -/
theorem fin_between {a : UInt64} {lo hi : Int} {k : Nat} (hl : lo.natAbs ≤ 2 ^ 53) (hh : hi.natAbs ≤ 2 ^ 53) (hk : k ≤ 2044) (hn : val64 a ≠ .nan) (h1 : lo * ((2 ^ k : Nat) : Int) ≤ zv a) (h2 : zv a ≤ hi * ((2 ^ k : Nat) : Int)) : DB k lo hi a := by
  refine ⟨?_, h1, h2⟩
  obtain ⟨s1, c1, q1, f1, e1⟩ := rep hl hk
  obtain ⟨s2, c2, q2, f2, e2⟩ := rep hh hk
  have t1 : zmag b64 (.fin s1 c1 q1) < b64.tails * 2 ^ (b64.exps - 2) := zmag_lt_top good_b64 f1
  have t2 : zmag b64 (.fin s2 c2 q2) < b64.tails * 2 ^ (b64.exps - 2) := zmag_lt_top good_b64 f2
  rw [← e1] at h1
  rw [← e2] at h2
  unfold zv at h1 h2
  cases hv : val64 a with
  | nan => exact absurd hv hn
  | fin s c q => exact ⟨s, c, q, hv⟩
  | inf s =>
    exfalso
    rw [hv] at h1 h2
    have z : zmag b64 (.inf s) = b64.tails * 2 ^ (b64.exps - 2) := rfl
    unfold zval at h1 h2
    rw [z] at h1 h2
    generalize b64.tails * 2 ^ (b64.exps - 2) = top at *
    generalize zmag b64 (.fin s1 c1 q1) = m1 at *
    generalize zmag b64 (.fin s2 c2 q2) = m2 at *
    simp only [sgn] at h1 h2
    cases s <;> cases s1 <;> cases s2 <;> simp only [signed, if_true, Bool.false_eq_true, if_false] at h1 h2 <;> omega
theorem qmin_sub : ((2 ^ (b64.qmin - b64.qmin).toNat : Nat) : Int) = 1 := by rw [Int.sub_self]; rfl
/-- what lies between two numbers of 53 digits is rounded to something between them -/
theorem round_between {s : Bool} {c : Nat} {q : Int} {lo hi : Int} {k : Nat} {a : UInt64} (ha : val64 a = round b64 (.fin s c q)) (hl : lo.natAbs ≤ 2 ^ 53) (hh : hi.natAbs ≤ 2 ^ 53) (hk : k ≤ 2044) {e0 : Int} (h0 : e0 ≤ b64.qmin) (h0e : e0 ≤ q)
    (h1 : lo * ((2 ^ k : Nat) : Int) * ((2 ^ (b64.qmin - e0).toNat : Nat) : Int) ≤ signed s (inUnits c q e0)) (h2 : signed s (inUnits c q e0) ≤ hi * ((2 ^ k : Nat) : Int) * ((2 ^ (b64.qmin - e0).toNat : Nat) : Int)) : DB k lo hi a := by
  obtain ⟨s1, c1, q1, f1, e1⟩ := rep hl hk
  obtain ⟨s2, c2, q2, f2, e2⟩ := rep hh hk
  have hn : val64 a ≠ .nan := by rw [ha]; exact roundRatio_ne_nan _ _ _ _ _
  refine fin_between hl hh hk hn ?_ ?_
  · unfold zv; rw [ha, ← e1]; exact zval_round_ge good_b64 f1 (by simp) h0 h0e (by rw [e1]; exact h1)
  · unfold zv; rw [ha, ← e2]; exact zval_round_le good_b64 f2 (by simp) h0 h0e (by rw [e2]; exact h2)
theorem add_b {a b : UInt64} {k : Nat} {l1 h1 l2 h2 lo hi : Int} (ha : DB k l1 h1 a) (hb : DB k l2 h2 b) (hlo : lo ≤ l1 + l2) (hhi : h1 + h2 ≤ hi) (hl : lo.natAbs ≤ 2 ^ 53) (hh : hi.natAbs ≤ 2 ^ 53) (hk : k ≤ 2044) : DB k lo hi (FP.dadd a b) := by
  obtain ⟨⟨s, c, q, va⟩, a1, a2⟩ := ha
  obtain ⟨⟨t, d, r, vb⟩, b1, b2⟩ := hb
  have hv := val64_dadd a b
  have fa := val64_fits a
  have fb := val64_fits b
  unfold zv at a1 a2 b1 b2
  rw [va] at hv fa a1 a2
  rw [vb] at hv fb b1 b2
  obtain ⟨sg, n, e, h3, h4, h5⟩ := sum_units fa fb
  rw [h3] at hv
  have hp := pw_pos k
  refine round_between hv hl hh hk (e0 := b64.qmin) (Int.le_refl _) h4 ?_ ?_
  · rw [h5, qmin_sub, Int.mul_one]
    have := Int.mul_le_mul_of_nonneg_right hlo (Int.le_of_lt hp)
    rw [Int.add_mul] at this
    omega
  · rw [h5, qmin_sub, Int.mul_one]
    have := Int.mul_le_mul_of_nonneg_right hhi (Int.le_of_lt hp)
    rw [Int.add_mul] at this
    omega
theorem zv_dneg {a : UInt64} : zv (FP.dneg a) = -zv a := by unfold zv; rw [FP.val64_dneg, zval_negate]
theorem neg_b {a : UInt64} {k : Nat} {lo hi : Int} (ha : DB k lo hi a) : DB k (-hi) (-lo) (FP.dneg a) := by
  refine ⟨?_, ?_, ?_⟩
  · obtain ⟨s, c, q, va⟩ := ha.1
    exact ⟨!s, c, q, by rw [FP.val64_dneg, va]; rfl⟩
  · rw [zv_dneg, Int.neg_mul]; have := ha.2.2; omega
  · rw [zv_dneg, Int.neg_mul]; have := ha.2.1; omega
theorem sub_b {a b : UInt64} {k : Nat} {l1 h1 l2 h2 lo hi : Int} (ha : DB k l1 h1 a) (hb : DB k l2 h2 b) (hlo : lo ≤ l1 - h2) (hhi : h1 - l2 ≤ hi) (hl : lo.natAbs ≤ 2 ^ 53) (hh : hi.natAbs ≤ 2 ^ 53) (hk : k ≤ 2044) : DB k lo hi (FP.dsub a b) := by
  have e : FP.dsub a b = FP.dadd a (FP.dneg b) := by
    rw [FP.dneg_core hb.1.notNaN]; exact dsub_eq a b
  rw [e]
  exact add_b ha (neg_b hb) (by omega) (by omega) hl hh hk
theorem pw_1074 : ((2 ^ (b64.qmin - 2 * b64.qmin).toNat : Nat) : Int) = ((2 ^ 1074 : Nat) : Int) := by
  rw [show (b64.qmin - 2 * b64.qmin).toNat = 1074 by decide]
/-- the exact product of the two lies between -/
theorem mul_z {a b : UInt64} {k : Nat} {lo hi : Int} (fa : DFin a) (fb : DFin b) (h1 : lo * ((2 ^ k : Nat) : Int) * ((2 ^ 1074 : Nat) : Int) ≤ zv a * zv b) (h2 : zv a * zv b ≤ hi * ((2 ^ k : Nat) : Int) * ((2 ^ 1074 : Nat) : Int)) (hl : lo.natAbs ≤ 2 ^ 53) (hh : hi.natAbs ≤ 2 ^ 53) (hk : k ≤ 2044) : DB k lo hi (FP.dmul a b) := by
  obtain ⟨s, c, q, va⟩ := fa
  obtain ⟨t, d, r, vb⟩ := fb
  have hv := val64_dmul a b
  have fa := val64_fits a
  have fb := val64_fits b
  unfold zv at h1 h2
  rw [va] at hv fa h1 h2
  rw [vb] at hv fb h1 h2
  obtain ⟨g1, g2, g3⟩ := product_units fa fb
  rw [g1] at hv
  have e : signed (s != t) (inUnits (c * d) (q + r) (2 * b64.qmin)) = zval b64 (.fin s c q) * zval b64 (.fin t d r) := by
    rw [g3, signed_xor]; rfl
  refine round_between hv hl hh hk (e0 := 2 * b64.qmin) (by decide) g2 ?_ ?_
  · rw [e, pw_1074]; exact h1
  · rw [e, pw_1074]; exact h2
theorem pw_add (a b : Nat) : ((2 ^ (a + b) : Nat) : Int) = ((2 ^ a : Nat) : Int) * ((2 ^ b : Nat) : Int) := by rw [Nat.pow_add, Int.natCast_mul]
theorem mul_e {a b : UInt64} {k k1 k2 : Nat} {i j n : Int} (ha : DE k1 i a) (hb : DE k2 j b) (hk : k1 + k2 = k + 1074) (hn : i * j = n) (hh : n.natAbs ≤ 2 ^ 53) (hk' : k ≤ 2044) : DE k n (FP.dmul a b) := by
  have e : zv a * zv b = n * ((2 ^ k : Nat) : Int) * ((2 ^ 1074 : Nat) : Int) := by
    rw [ha.eq, hb.eq, ← hn, Int.mul_assoc (i * j), ← pw_add, ← hk, pw_add]
    simp only [Int.mul_assoc, Int.mul_left_comm]
  exact mul_z ha.1 hb.1 (Int.le_of_eq e.symm) (Int.le_of_eq e) hh hh hk'
/-- a bounded one times a known one that isn't negative -/
theorem mul_b {a b : UInt64} {k k1 k2 : Nat} {l1 h1 j lo hi : Int} (ha : DB k1 l1 h1 a) (hb : DE k2 j b) (hj : 0 ≤ j) (hk : k1 + k2 = k + 1074) (hlo : lo ≤ l1 * j) (hhi : h1 * j ≤ hi) (hl : lo.natAbs ≤ 2 ^ 53) (hh : hi.natAbs ≤ 2 ^ 53) (hk' : k ≤ 2044) : DB k lo hi (FP.dmul a b) := by
  have p1 := pw_pos k1
  have p2 := pw_pos k2
  have hz : 0 ≤ zv b := by rw [hb.eq]; exact Int.mul_nonneg hj (Int.le_of_lt p2)
  have e : ∀ x : Int, x * j * ((2 ^ k : Nat) : Int) * ((2 ^ 1074 : Nat) : Int) = x * ((2 ^ k1 : Nat) : Int) * zv b := fun x => by
    rw [hb.eq, Int.mul_assoc (x * j), ← pw_add, ← hk, pw_add]
    simp only [Int.mul_assoc, Int.mul_left_comm]
  have up : ∀ {x y : Int}, x ≤ y → x * ((2 ^ k : Nat) : Int) * ((2 ^ 1074 : Nat) : Int) ≤ y * ((2 ^ k : Nat) : Int) * ((2 ^ 1074 : Nat) : Int) := fun h =>
    Int.mul_le_mul_of_nonneg_right (Int.mul_le_mul_of_nonneg_right h (Int.le_of_lt (pw_pos _))) (Int.le_of_lt (pw_pos _))
  refine mul_z ha.1 hb.1 ?_ ?_ hl hh hk'
  · refine Int.le_trans (up hlo) ?_
    rw [e]; exact Int.mul_le_mul_of_nonneg_right ha.2.1 hz
  · refine Int.le_trans ?_ (up hhi)
    rw [e]; exact Int.mul_le_mul_of_nonneg_right ha.2.2 hz
theorem pw3 {A B C D E : Nat} (c : Nat) (h : A + B = C + D + E) : c * 2 ^ A * 2 ^ B = c * 2 ^ C * 2 ^ D * 2 ^ E := by
  rw [Nat.mul_assoc, ← Nat.pow_add, h, Nat.pow_add, Nat.pow_add, ← Nat.mul_assoc, ← Nat.mul_assoc]
theorem ev_aux (V : Int) (n d y : Nat) : V * ((2 ^ n * d : Nat) : Int) * ((2 ^ y : Nat) : Int) = V * ((d * 2 ^ y : Nat) : Int) * ((2 ^ n : Nat) : Int) := by
  rw [Int.natCast_mul, Int.natCast_mul]
  generalize ((2 ^ n : Nat) : Int) = x
  generalize ((2 ^ y : Nat) : Int) = z
  simp only [Int.mul_assoc, Int.mul_comm, Int.mul_left_comm]
/-- the quotient, with signs -/
theorem ratio_le {s : Bool} {A B : Nat} {e e0 : Int} {V : Datum} (hB : 0 < B) (hV : FP.Core.fits b64 V) (hn : V ≠ .nan) (h0 : e0 ≤ b64.qmin) (h0e : e0 ≤ e)
    (h : signed s (inUnits A e e0) ≤ zval b64 V * ((2 ^ (b64.qmin - e0).toNat * B : Nat) : Int)) : zval b64 (roundRatio b64 s A B e) ≤ zval b64 V := by
  have hle := zmag_roundRatio_le good_b64 (s := s) (A := A) hB hV hn h0 h0e
  have hge := zmag_roundRatio_ge good_b64 (s := s) (A := A) hB hV h0 h0e
  rw [Nat.mul_assoc] at hle hge
  have hP : 0 < 2 ^ (b64.qmin - e0).toNat * B := Nat.mul_pos (Nat.two_pow_pos _) hB
  unfold zval at h ⊢
  rw [sgn_roundRatio]
  rw [← signed_mul] at h
  have hz : zmag b64 V * (2 ^ (b64.qmin - e0).toNat * B) = 0 → zmag b64 V = 0 := by
    intro h
    rcases Nat.mul_eq_zero.mp h with h | h <;> omega
  generalize zmag b64 V * (2 ^ (b64.qmin - e0).toNat * B) = vP at *
  generalize sgn V = t at *
  cases s <;> cases t <;> simp only [signed, if_true, Bool.false_eq_true, if_false] at h ⊢
  · have := hle (by omega); omega
  · have := hle (by omega); have := hz (by omega); omega
  · omega
  · have := hge (by omega); omega
theorem ratio_ge {s : Bool} {A B : Nat} {e e0 : Int} {V : Datum} (hB : 0 < B) (hV : FP.Core.fits b64 V) (hn : V ≠ .nan) (h0 : e0 ≤ b64.qmin) (h0e : e0 ≤ e)
    (h : zval b64 V * ((2 ^ (b64.qmin - e0).toNat * B : Nat) : Int) ≤ signed s (inUnits A e e0)) : zval b64 V ≤ zval b64 (roundRatio b64 s A B e) := by
  have h1 := ratio_le (s := !s) (A := A) (B := B) (e := e) (V := negate V) hB (negate_fits hV) (negate_ne_nan hn) h0 h0e (by
    rw [zval_negate, Int.neg_mul]
    have : signed (!s) (inUnits A e e0) = -signed s (inUnits A e e0) := by cases s <;> simp [signed]
    rw [this]; omega)
  rw [zval_negate, ← negate_roundRatio, zval_negate] at h1
  omega
/-- the quotient by a positive number: no NaN, and at the least, at the most, what is so when multiplied back -/
theorem div_zz {a b : UInt64} (fa : DFin a) (fb : DFin b) (hb : 0 < zv b) : val64 (FP.ddiv a b) ≠ .nan ∧
    (∀ {k : Nat} {lo : Int}, lo.natAbs ≤ 2 ^ 53 → k ≤ 2044 → lo * ((2 ^ k : Nat) : Int) * zv b ≤ zv a * ((2 ^ 1074 : Nat) : Int) → lo * ((2 ^ k : Nat) : Int) ≤ zv (FP.ddiv a b)) ∧
    (∀ {k : Nat} {hi : Int}, hi.natAbs ≤ 2 ^ 53 → k ≤ 2044 → zv a * ((2 ^ 1074 : Nat) : Int) ≤ hi * ((2 ^ k : Nat) : Int) * zv b → zv (FP.ddiv a b) ≤ hi * ((2 ^ k : Nat) : Int)) := by
  obtain ⟨s, c, q, va⟩ := fa
  obtain ⟨t, d, r, vb⟩ := fb
  have hv := val64_ddiv a b
  have fa := val64_fits a
  have fb := val64_fits b
  have zea : zv a = zval b64 (.fin s c q) := by unfold zv; rw [va]
  have zeb : zv b = zval b64 (.fin t d r) := by unfold zv; rw [vb]
  rw [zea, zeb]
  rw [zeb] at hb
  rw [va] at hv fa
  rw [vb] at hv fb
  have qn : b64.qmin = -1074 := by decide
  have qx : b64.qmax = 971 := by decide
  have fa2 := fa.2.1
  have fb2 := fb.2.1
  have fb3 := fb.2.2.1
  have zb : zval b64 (.fin t d r) = signed t (d * 2 ^ (r - b64.qmin).toNat) := rfl
  have za : zval b64 (.fin s c q) = signed s (c * 2 ^ (q - b64.qmin).toNat) := rfl
  have hd : 0 < d := by
    refine Nat.pos_of_ne_zero fun e => ?_
    rw [zb, e, Nat.zero_mul, signed_zero] at hb
    omega
  have ht : t = false := by
    cases t with
    | false => rfl
    | true => rw [zb] at hb; simp only [signed, if_true] at hb; omega
  subst ht
  have hq : quotient b64 (.fin s c q) (.fin false d r) = roundRatio b64 s c d (q - r) := by
    show (if d = 0 then _ else roundRatio b64 (s != false) c d (q - r)) = _
    rw [if_neg (by omega)]; cases s <;> rfl
  rw [hq] at hv
  have hn : val64 (Core.ddiv a b) ≠ .nan := by rw [hv]; exact roundRatio_ne_nan _ _ _ _ _
  -- both sides times 2^(r - qmin)
  have hP := pw_pos (r - b64.qmin).toNat
  have ex : signed s (inUnits c (q - r) (2 * b64.qmin)) * ((2 ^ (r - b64.qmin).toNat : Nat) : Int) = zval b64 (.fin s c q) * ((2 ^ 1074 : Nat) : Int) * ((2 ^ 1074 : Nat) : Int) := by
    rw [za, ← signed_mul, ← signed_mul, ← signed_mul]
    exact congrArg (signed s) (pw3 (A := (q - r - 2 * b64.qmin).toNat) (D := 1074) (E := 1074) c (by omega))
  have ev : ∀ V : Int, V * ((2 ^ (b64.qmin - 2 * b64.qmin).toNat * d : Nat) : Int) * ((2 ^ (r - b64.qmin).toNat : Nat) : Int) = V * zval b64 (.fin false d r) * ((2 ^ 1074 : Nat) : Int) := fun V => by
    rw [zb, show (b64.qmin - 2 * b64.qmin).toNat = 1074 by decide]
    exact ev_aux V 1074 d _
  have p1074 := pw_pos 1074
  refine ⟨hn, fun {k lo} hl hk h1 => ?_, fun {k hi} hh hk h2 => ?_⟩
  · obtain ⟨s1, c1, q1, f1, e1⟩ := rep hl hk
    unfold zv; rw [hv, ← e1]
    refine ratio_ge hd f1 (by simp) (e0 := 2 * b64.qmin) (by decide) (by omega) ?_
    refine Int.le_of_mul_le_mul_right ?_ hP
    rw [ev, ex, e1]
    exact Int.mul_le_mul_of_nonneg_right h1 (Int.le_of_lt p1074)
  · obtain ⟨s2, c2, q2, f2, e2⟩ := rep hh hk
    unfold zv; rw [hv, ← e2]
    refine ratio_le hd f2 (by simp) (e0 := 2 * b64.qmin) (by decide) (by omega) ?_
    refine Int.le_of_mul_le_mul_right ?_ hP
    rw [ev, ex, e2]
    exact Int.mul_le_mul_of_nonneg_right h2 (Int.le_of_lt p1074)
/-- between lo and hi -/
theorem div_z {a b : UInt64} {k : Nat} {lo hi : Int} (fa : DFin a) (fb : DFin b) (hb : 0 < zv b) (h1 : lo * ((2 ^ k : Nat) : Int) * zv b ≤ zv a * ((2 ^ 1074 : Nat) : Int)) (h2 : zv a * ((2 ^ 1074 : Nat) : Int) ≤ hi * ((2 ^ k : Nat) : Int) * zv b) (hl : lo.natAbs ≤ 2 ^ 53) (hh : hi.natAbs ≤ 2 ^ 53) (hk : k ≤ 2044) : DB k lo hi (FP.ddiv a b) := by
  obtain ⟨n, ge, le⟩ := div_zz fa fb hb
  exact fin_between hl hh hk n (ge hl hk h1) (le hh hk h2)
/-- the quotient of two known numbers, the second one positive -/
theorem div_b {a b : UInt64} {k k1 k2 : Nat} {i j lo hi : Int} (ha : DE k1 i a) (hb : DE k2 j b) (hj : 0 < j) (hk : k1 + 1074 = k + k2) (hlo : lo * j ≤ i) (hhi : i ≤ hi * j) (hl : lo.natAbs ≤ 2 ^ 53) (hh : hi.natAbs ≤ 2 ^ 53) (hk' : k ≤ 2044) : DB k lo hi (FP.ddiv a b) := by
  have p2 := pw_pos k2
  have e : ∀ x : Int, x * ((2 ^ k : Nat) : Int) * zv b = x * j * ((2 ^ (k1 + 1074) : Nat) : Int) := fun x => by
    rw [hb.eq, hk, pw_add]
    simp only [Int.mul_assoc, Int.mul_left_comm]
  have e2 : zv a * ((2 ^ 1074 : Nat) : Int) = i * ((2 ^ (k1 + 1074) : Nat) : Int) := by rw [ha.eq, pw_add, Int.mul_assoc]
  refine div_z ha.1 hb.1 (by rw [hb.eq]; exact Int.mul_pos hj p2) ?_ ?_ hl hh hk'
  · rw [e, e2]; exact Int.mul_le_mul_of_nonneg_right hlo (Int.le_of_lt (pw_pos _))
  · rw [e, e2]; exact Int.mul_le_mul_of_nonneg_right hhi (Int.le_of_lt (pw_pos _))
theorem div_e {a b : UInt64} {k k1 k2 : Nat} {i j n : Int} (ha : DE k1 i a) (hb : DE k2 j b) (hj : 0 < j) (hk : k1 + 1074 = k + k2) (hn : n * j = i) (hh : n.natAbs ≤ 2 ^ 53) (hk' : k ≤ 2044) : DE k n (FP.ddiv a b) :=
  div_b ha hb hj hk (Int.le_of_eq hn) (Int.le_of_eq hn.symm) hh hh hk'
theorem add_e {a b : UInt64} {k : Nat} {i j n : Int} (ha : DE k i a) (hb : DE k j b) (hn : i + j = n) (hh : n.natAbs ≤ 2 ^ 53) (hk : k ≤ 2044) : DE k n (FP.dadd a b) := add_b ha hb (Int.le_of_eq hn.symm) (Int.le_of_eq hn) hh hh hk
theorem sub_e {a b : UInt64} {k : Nat} {i j n : Int} (ha : DE k i a) (hb : DE k j b) (hn : i - j = n) (hh : n.natAbs ≤ 2 ^ 53) (hk : k ≤ 2044) : DE k n (FP.dsub a b) := sub_b ha hb (Int.le_of_eq hn.symm) (Int.le_of_eq hn) hh hh hk
theorem i2d_e (x : Int32) : DE 1074 x.toInt (FP.i2d x) := DE.of (Core.i2d_fin x) (DInt_zval (i2d_int x))
theorem l2d_e {x : Int64} (h : x.toInt.natAbs ≤ 2 ^ 53) : DE 1074 x.toInt (FP.l2d x) := DE.of (Core.l2d_fin x) (DInt_zval (l2d_int h))
theorem zero_e (k : Nat) : DE k 0 FP.dconst0 := DE.of ⟨_, _, _, rfl⟩ (by rw [Int.zero_mul]; exact zval64_zero)
/-- in smaller units -/
theorem DB.down {a : UInt64} {k : Nat} {lo hi : Int} (h : DB k lo hi a) {k' n : Nat} (hk : k = k' + n) : DB k' (lo * ((2 ^ n : Nat) : Int)) (hi * ((2 ^ n : Nat) : Int)) a := by
  subst hk
  refine ⟨h.1, ?_, ?_⟩
  · have := h.2.1; rw [Nat.add_comm, pw_add, ← Int.mul_assoc] at this; exact this
  · have := h.2.2; rw [Nat.add_comm, pw_add, ← Int.mul_assoc] at this; exact this
/-- the quotient from below alone -/
theorem div_ge {a b : UInt64} {k k1 k2 : Nat} {i j lo : Int} (ha : DE k1 i a) (hb : DE k2 j b) (hj : 0 < j) (hk : k1 + 1074 = k + k2) (hlo : lo * j ≤ i) (hl : lo.natAbs ≤ 2 ^ 53) (hk' : k ≤ 2044) : lo * ((2 ^ k : Nat) : Int) ≤ zv (FP.ddiv a b) := by
  have p2 := pw_pos k2
  have e : ∀ x : Int, x * ((2 ^ k : Nat) : Int) * zv b = x * j * ((2 ^ (k1 + 1074) : Nat) : Int) := fun x => by
    rw [hb.eq, hk, pw_add]
    simp only [Int.mul_assoc, Int.mul_left_comm]
  have e2 : zv a * ((2 ^ 1074 : Nat) : Int) = i * ((2 ^ (k1 + 1074) : Nat) : Int) := by rw [ha.eq, pw_add, Int.mul_assoc]
  refine (div_zz ha.1 hb.1 (by rw [hb.eq]; exact Int.mul_pos hj p2)).2.1 hl hk' ?_
  rw [e, e2]; exact Int.mul_le_mul_of_nonneg_right hlo (Int.le_of_lt (pw_pos _))
/-- in greater units -/
theorem DB.up {a : UInt64} {k : Nat} {lo hi : Int} {n : Nat} (h : DB k (lo * ((2 ^ n : Nat) : Int)) (hi * ((2 ^ n : Nat) : Int)) a) : DB (k + n) lo hi a := by
  refine ⟨h.1, ?_, ?_⟩
  · have := h.2.1; rw [Int.mul_assoc, ← pw_add, Nat.add_comm] at this; exact this
  · have := h.2.2; rw [Int.mul_assoc, ← pw_add, Nat.add_comm] at this; exact this
/-- the product of two known numbers, between two that lie on a grid 2^g times as coarse -/
theorem mul_g {a b : UInt64} {k k1 k2 g : Nat} {i j lo hi : Int} (ha : DE k1 i a) (hb : DE k2 j b) (hk : k1 + k2 + g = k + 1074) (hlo : lo * ((2 ^ g : Nat) : Int) ≤ i * j) (hhi : i * j ≤ hi * ((2 ^ g : Nat) : Int)) (hl : lo.natAbs ≤ 2 ^ 53) (hh : hi.natAbs ≤ 2 ^ 53) (hk' : k ≤ 2044) : DB k lo hi (FP.dmul a b) := by
  have e : zv a * zv b = i * j * ((2 ^ (k1 + k2) : Nat) : Int) := by
    rw [ha.eq, hb.eq, pw_add]
    simp only [Int.mul_assoc, Int.mul_left_comm]
  have e2 : ∀ x : Int, x * ((2 ^ k : Nat) : Int) * ((2 ^ 1074 : Nat) : Int) = x * ((2 ^ g : Nat) : Int) * ((2 ^ (k1 + k2) : Nat) : Int) := fun x => by
    rw [Int.mul_assoc, ← pw_add, ← hk, Nat.add_comm, pw_add, ← Int.mul_assoc]
  refine mul_z ha.1 hb.1 ?_ ?_ hl hh hk'
  · rw [e, e2]; exact Int.mul_le_mul_of_nonneg_right hlo (Int.le_of_lt (pw_pos _))
  · rw [e, e2]; exact Int.mul_le_mul_of_nonneg_right hhi (Int.le_of_lt (pw_pos _))
theorem DB.wide {a : UInt64} {k : Nat} {lo hi lo' hi' : Int} (h : DB k lo hi a) (h1 : lo' ≤ lo) (h2 : hi ≤ hi') : DB k lo' hi' a :=
  ⟨h.1, Int.le_trans (Int.mul_le_mul_of_nonneg_right h1 (Int.le_of_lt (pw_pos k))) h.2.1, Int.le_trans h.2.2 (Int.mul_le_mul_of_nonneg_right h2 (Int.le_of_lt (pw_pos k)))⟩
theorem DE.cmp {a b : UInt64} {k : Nat} {i j : Int} (ha : DE k i a) (hb : DE k j b) : FP.dcmp a b = some (compare i j) := by
  rw [show FP.dcmp a b = some (compare (zv a) (zv b)) from dcmp_zval ha.ne hb.ne, ha.eq, hb.eq, compare_mul_pos _ _ _ (pw_pos k)]
theorem DB.lt {a b : UInt64} {k : Nat} {l1 h1 l2 h2 : Int} (ha : DB k l1 h1 a) (hb : DB k l2 h2 b) (h : h1 < l2) : FP.dcmp a b = some .lt := by
  rw [show FP.dcmp a b = some (compare (zv a) (zv b)) from dcmp_zval ha.ne hb.ne]
  congr 1
  rw [compare_lt_iff]
  have := Int.mul_lt_mul_of_pos_right h (pw_pos k)
  have := ha.2.2; have := hb.2.1
  omega
theorem DB.gt {a b : UInt64} {k : Nat} {l1 h1 l2 h2 : Int} (ha : DB k l1 h1 a) (hb : DB k l2 h2 b) (h : h2 < l1) : FP.dcmp a b = some .gt := by
  rw [show FP.dcmp a b = some (compare (zv a) (zv b)) from dcmp_zval ha.ne hb.ne]
  congr 1
  rw [compare_gt_iff]
  have := Int.mul_lt_mul_of_pos_right h (pw_pos k)
  have := ha.2.1; have := hb.2.2
  omega
/-- two doubles of one value that isn't nought are one -/
theorem DE.uniq {a b : UInt64} {k : Nat} {i : Int} (ha : DE k i a) (hb : DE k i b) (hi : i ≠ 0) : a = b := by
  have h1 := dcmp_key ha.ne hb.ne
  rw [dcmp_zval ha.ne hb.ne] at h1
  have e : zval b64 (val64 a) = zval b64 (val64 b) := (ha.eq).trans hb.eq.symm
  have h2 := Option.some.inj h1
  rw [(compare_eq_iff _ _).mpr e] at h2
  have h3 := (compare_eq_iff _ _).mp h2.symm
  have nz : ∀ {c : UInt64}, DE k i c → dkey c ≠ 0 := fun {c} hc h0 => by
    have q := dcmp_key hc.ne (b := 0) (by rw [val64_zero]; simp)
    rw [dcmp_zval hc.ne (by rw [val64_zero]; simp), zval64_zero] at q
    have q2 := Option.some.inj q
    have z : dkey 0 = 0 := by decide
    rw [h0, z, (compare_eq_iff (0 : Int) 0).mpr rfl] at q2
    have q3 := (compare_eq_iff _ _).mp q2
    have q4 : zv c = 0 := q3
    rw [hc.eq] at q4
    rcases Int.mul_eq_zero.mp q4 with q5 | q5
    · exact hi q5
    · have := pw_pos k; omega
  have n1 := nz ha
  have n2 := nz hb
  unfold dkey at h3 n1 n2
  apply UInt64.toNat_inj.mp
  have l1 := a.toNat_lt; have l2 := b.toNat_lt
  split at h3 <;> split at h3 <;> simp_all <;> omega
end Jvm.Pilot.@@N@@.Own
namespace Jvm.Pilot.@@N@@.Own
open Jvm Jvm.ClassFile Sem Op Lib Jvm.Free Jvm.Stand Jvm.LawKit Jvm.RoadKit
theorem iand_v {tb : Tables} [Ours tb] {e : Env} {below : List Frame} {T target : State} {m : MethodId} {c : Code} {g : JFrame} (h : At T m c below) (hx : tb.exec = Jvm.exec) (hg : g.method = m) {x : Int32} {y : Int32} {v : Int32} {rest : List Value} (hd : decode c.code g.pc = .ok (.iand, 1)) (hs : g.stack = .int y :: .int x :: rest) (hv : x &&& y = v)
    (hr : Steps tb e below (T.setTop { g with pc := g.pc + 1, stack := .int v :: rest }) target) : Steps tb e below (T.setTop g) target := by subst hv; exact XS.iand h hx hg hd hs hr
theorem irem_v {tb : Tables} [Ours tb] {e : Env} {below : List Frame} {T target : State} {m : MethodId} {c : Code} {g : JFrame} (h : At T m c below) (hx : tb.exec = Jvm.exec) (hg : g.method = m) {x : Int32} {y : Int32} {v : Int32} {rest : List Value} (hd : decode c.code g.pc = .ok (.irem, 1)) (hs : g.stack = .int y :: .int x :: rest) (hy : ¬ y = 0) (hv : x % y = v)
    (hr : Steps tb e below (T.setTop { g with pc := g.pc + 1, stack := .int v :: rest }) target) : Steps tb e below (T.setTop g) target := by subst hv; exact XS.irem h hx hg hd hs hy (by rw [irem_eq_mod]; exact hr)
theorem iadd_v {tb : Tables} [Ours tb] {e : Env} {below : List Frame} {T target : State} {m : MethodId} {c : Code} {g : JFrame} (h : At T m c below) (hx : tb.exec = Jvm.exec) (hg : g.method = m) {x : Int32} {y : Int32} {v : Int32} {rest : List Value} (hd : decode c.code g.pc = .ok (.iadd, 1)) (hs : g.stack = .int y :: .int x :: rest) (hv : x + y = v)
    (hr : Steps tb e below (T.setTop { g with pc := g.pc + 1, stack := .int v :: rest }) target) : Steps tb e below (T.setTop g) target := by subst hv; exact XS.iadd h hx hg hd hs hr
theorem lshl_v {tb : Tables} [Ours tb] {e : Env} {below : List Frame} {T target : State} {m : MethodId} {c : Code} {g : JFrame} (h : At T m c below) (hx : tb.exec = Jvm.exec) (hg : g.method = m) {x : Int64} {y : Int32} {v : Int64} {rest : List Value} (hd : decode c.code g.pc = .ok (.lshl, 1)) (hs : g.stack = .int y :: .long x :: rest) (hv : (x <<< (y &&& 0x3f).toInt64) = v)
    (hr : Steps tb e below (T.setTop { g with pc := g.pc + 1, stack := .long v :: rest }) target) : Steps tb e below (T.setTop g) target := by subst hv; exact XS.lshl h hx hg hd hs hr
theorem i2l_v {tb : Tables} [Ours tb] {e : Env} {below : List Frame} {T target : State} {m : MethodId} {c : Code} {g : JFrame} (h : At T m c below) (hx : tb.exec = Jvm.exec) (hg : g.method = m) {x : Int32} {v : Int64} {rest : List Value} (hd : decode c.code g.pc = .ok (.i2l, 1)) (hs : g.stack = .int x :: rest) (hv : x.toInt64 = v)
    (hr : Steps tb e below (T.setTop { g with pc := g.pc + 1, stack := .long v :: rest }) target) : Steps tb e below (T.setTop g) target := by subst hv; exact XS.i2l h hx hg hd hs hr
theorem land_v {tb : Tables} [Ours tb] {e : Env} {below : List Frame} {T target : State} {m : MethodId} {c : Code} {g : JFrame} (h : At T m c below) (hx : tb.exec = Jvm.exec) (hg : g.method = m) {x : Int64} {y : Int64} {v : Int64} {rest : List Value} (hd : decode c.code g.pc = .ok (.land, 1)) (hs : g.stack = .long y :: .long x :: rest) (hv : x &&& y = v)
    (hr : Steps tb e below (T.setTop { g with pc := g.pc + 1, stack := .long v :: rest }) target) : Steps tb e below (T.setTop g) target := by subst hv; exact XS.land h hx hg hd hs hr
theorem lsub_v {tb : Tables} [Ours tb] {e : Env} {below : List Frame} {T target : State} {m : MethodId} {c : Code} {g : JFrame} (h : At T m c below) (hx : tb.exec = Jvm.exec) (hg : g.method = m) {x : Int64} {y : Int64} {v : Int64} {rest : List Value} (hd : decode c.code g.pc = .ok (.lsub, 1)) (hs : g.stack = .long y :: .long x :: rest) (hv : x - y = v)
    (hr : Steps tb e below (T.setTop { g with pc := g.pc + 1, stack := .long v :: rest }) target) : Steps tb e below (T.setTop g) target := by subst hv; exact XS.lsub h hx hg hd hs hr
theorem lrem_v {tb : Tables} [Ours tb] {e : Env} {below : List Frame} {T target : State} {m : MethodId} {c : Code} {g : JFrame} (h : At T m c below) (hx : tb.exec = Jvm.exec) (hg : g.method = m) {x : Int64} {y : Int64} {v : Int64} {rest : List Value} (hd : decode c.code g.pc = .ok (.lrem, 1)) (hs : g.stack = .long y :: .long x :: rest) (hy : ¬ y = 0) (hv : x % y = v)
    (hr : Steps tb e below (T.setTop { g with pc := g.pc + 1, stack := .long v :: rest }) target) : Steps tb e below (T.setTop g) target := by subst hv; exact XS.lrem h hx hg hd hs hy (by rw [lrem_mod]; exact hr)
theorem l2i_v {tb : Tables} [Ours tb] {e : Env} {below : List Frame} {T target : State} {m : MethodId} {c : Code} {g : JFrame} (h : At T m c below) (hx : tb.exec = Jvm.exec) (hg : g.method = m) {x : Int64} {v : Int32} {rest : List Value} (hd : decode c.code g.pc = .ok (.l2i, 1)) (hs : g.stack = .long x :: rest) (hv : x.toInt32 = v)
    (hr : Steps tb e below (T.setTop { g with pc := g.pc + 1, stack := .int v :: rest }) target) : Steps tb e below (T.setTop g) target := by subst hv; exact XS.l2i h hx hg hd hs hr
theorem lmul_v {tb : Tables} [Ours tb] {e : Env} {below : List Frame} {T target : State} {m : MethodId} {c : Code} {g : JFrame} (h : At T m c below) (hx : tb.exec = Jvm.exec) (hg : g.method = m) {x : Int64} {y : Int64} {v : Int64} {rest : List Value} (hd : decode c.code g.pc = .ok (.lmul, 1)) (hs : g.stack = .long y :: .long x :: rest) (hv : x * y = v)
    (hr : Steps tb e below (T.setTop { g with pc := g.pc + 1, stack := .long v :: rest }) target) : Steps tb e below (T.setTop g) target := by subst hv; exact XS.lmul h hx hg hd hs hr
theorem ladd_v {tb : Tables} [Ours tb] {e : Env} {below : List Frame} {T target : State} {m : MethodId} {c : Code} {g : JFrame} (h : At T m c below) (hx : tb.exec = Jvm.exec) (hg : g.method = m) {x : Int64} {y : Int64} {v : Int64} {rest : List Value} (hd : decode c.code g.pc = .ok (.ladd, 1)) (hs : g.stack = .long y :: .long x :: rest) (hv : x + y = v)
    (hr : Steps tb e below (T.setTop { g with pc := g.pc + 1, stack := .long v :: rest }) target) : Steps tb e below (T.setTop g) target := by subst hv; exact XS.ladd h hx hg hd hs hr
theorem ishl_v {tb : Tables} [Ours tb] {e : Env} {below : List Frame} {T target : State} {m : MethodId} {c : Code} {g : JFrame} (h : At T m c below) (hx : tb.exec = Jvm.exec) (hg : g.method = m) {x : Int32} {y : Int32} {v : Int32} {rest : List Value} (hd : decode c.code g.pc = .ok (.ishl, 1)) (hs : g.stack = .int y :: .int x :: rest) (hv : (x <<< (y &&& 31)) = v)
    (hr : Steps tb e below (T.setTop { g with pc := g.pc + 1, stack := .int v :: rest }) target) : Steps tb e below (T.setTop g) target := by subst hv; exact XS.ishl h hx hg hd hs hr
theorem iushr_v {tb : Tables} [Ours tb] {e : Env} {below : List Frame} {T target : State} {m : MethodId} {c : Code} {g : JFrame} (h : At T m c below) (hx : tb.exec = Jvm.exec) (hg : g.method = m) {x : Int32} {y : Int32} {v : Int32} {rest : List Value} (hd : decode c.code g.pc = .ok (.iushr, 1)) (hs : g.stack = .int y :: .int x :: rest) (hv : ((x.toUInt32 >>> (y &&& 31).toUInt32).toInt32) = v)
    (hr : Steps tb e below (T.setTop { g with pc := g.pc + 1, stack := .int v :: rest }) target) : Steps tb e below (T.setTop g) target := by subst hv; exact XS.iushr h hx hg hd hs hr
theorem imul_v {tb : Tables} [Ours tb] {e : Env} {below : List Frame} {T target : State} {m : MethodId} {c : Code} {g : JFrame} (h : At T m c below) (hx : tb.exec = Jvm.exec) (hg : g.method = m) {x : Int32} {y : Int32} {v : Int32} {rest : List Value} (hd : decode c.code g.pc = .ok (.imul, 1)) (hs : g.stack = .int y :: .int x :: rest) (hv : x * y = v)
    (hr : Steps tb e below (T.setTop { g with pc := g.pc + 1, stack := .int v :: rest }) target) : Steps tb e below (T.setTop g) target := by subst hv; exact XS.imul h hx hg hd hs hr
end Jvm.Pilot.@@N@@.Own
namespace Jvm.Pilot.@@N@@
open Jvm Jvm.ClassFile Sem Op Lib Jvm.Free Jvm.Stand Jvm.LawKit Jvm.RoadKit Bundle Jvm.Pilot.@@N@@.Jvm.D Jvm.Pilot.@@N@@.Own
theorem pd_0 : parseMethodDescriptor "()V" = some ⟨[], none⟩ := by decide +kernel
theorem pd_1 : parseMethodDescriptor "(D)V" = some ⟨[.double], none⟩ := by decide +kernel
theorem pd_2 : parseMethodDescriptor "(IIDI)D" = some ⟨[.int, .int, .double, .int], some .double⟩ := by decide +kernel
theorem d1_0 : decode jdk_30_method_1_code 0 = .ok (.aload_n 0, 1) := by decide +kernel
theorem d1_1 : decode jdk_30_method_1_code 1 = .ok (.invokespecial 1, 3) := by decide +kernel
theorem d1_4 : decode jdk_30_method_1_code 4 = .ok (.return_, 1) := by decide +kernel
theorem pn_1 : plainName "java/lang/Record" = true := by first | (simp [plainName, overriddenIn]; done) | decide +kernel
theorem ef_1 (m : MethodId) (x0 : Addr) : entryFrame m #[(.ref x0)] 1 = mkF m 0 #[.val (.ref x0)] [] := by first | (simp [entryFrame, mkF, argsToLocals, Value.category]; done) | rfl
def Q1 (Z : State) (a : Addr) (h0 : Heap) (n0 : Nat) (v : Option Value) (h : Heap) (L : List Loc) : Prop := v = none ∧ Fr n0 L ∧ h = h0
set_option maxRecDepth 65536 in
set_option maxHeartbeats 40000000 in
theorem rm1 (l : Launch) (Z : State) (a0 : Array Value) (hw : ∀ d ∈ tables_1, d.before a0 Z = true) (ws : List Jvm.Cond) (a : Addr) (h0 : Heap) (n0 : Nat) (Z0 : n0 ≤ h0.size) :
    MetFree l (⟨"java/lang/Record", "<init>", "()V"⟩ : MethodName) (head1 (Jvm.Cond.code (⟨"java/lang/Record", "<init>", "()V"⟩ : MethodName) jdk_30_method_1_code 1 none :: ws) ({ frames := 1, cells := 0, slots := 0, locals := 12 } : Room)) (fun a_ U => a_ = #[(.ref a)] ∧ Z.Warmed39 U.vm ∧ U.heap = h0) (fun _ _ _ _ _ => True) (fun _ U o U' => ∃ v L, o = .returned v ∧ Q1 Z a h0 n0 v U'.heap L ∧ FrameEnd U o U' L (({ frames := 1, cells := 0, slots := 0, locals := 12 } : Room)).cells (({ frames := 1, cells := 0, slots := 0, locals := 12 } : Room)).slots) := by
  refine MetFree.of_bodySF (plainFor_of_name pn_1) hisR ?_
  intro p e s m args below meth c s₁ Bd hml0 hP0 hK
  obtain ⟨rfl, hZ, hh⟩ := hP0
  have hx := Bd.exec
  have hby := Bd.bytes
  have hml : c.maxLocals = 1 := hml0
  have hown : s.vm.findClass "java/lang/Record" = some m.cls := findClass_of_methodNamed Bd.named
  have hnm := (name_of_methodNamed Bd.named Bd.method).1
  have X0 : Stand p l e ({ frames := 1, cells := 0, slots := 0, locals := 12 } : Room) s m #[(.ref a)] below meth c s₁ [] 0 0 := Stand.of_body Bd
  have e0 : s₁.heap = h0 := by rw [← hh, Bd.state]; rfl
  have N0 := Fr.nil n0
  have hlk : meth.locks = false := BodyLoose.notSynchronized Bd
  refine Go.start (P₀ := fun s₂ o => ∃ v L, o = .returned v ∧ Q1 Z a h0 n0 v s₂.heap L ∧ FrameEnd s o s₂ L (({ frames := 1, cells := 0, slots := 0, locals := 12 } : Room)).cells (({ frames := 1, cells := 0, slots := 0, locals := 12 } : Room)).slots) (congrArg s₁.setTop (ef_1 m a)) ?_
  intro P hP
  show Go p.tables e below P (s₁.setTop (mkF m 0 #[.val (.ref a)] []))
  refine Go.step (fun t k => XS.aloadN X0.here hx rfl (hb hby d1_0) rfl rfl k) ?_
  show Go p.tables e below P (s₁.setTop (mkF m 1 #[.val (.ref a)] [(.ref a)]))
  obtain ⟨T_1, X_1, e_1, st_1⟩ := initO X0 hx hZ hown (hw _ (List.mem_of_getElem? (i := 14) rfl)) (hw _ (List.mem_of_getElem? (i := 15) rfl)) (hw _ (List.mem_of_getElem? (i := 16) rfl)) e0 (g := (mkF m 1 #[.val (.ref a)] [(.ref a)])) rfl (by rw [hml]; rfl) rfl (hb hby d1_1) (by decide) (W := 0) (by show 2 * 0 + _ ≤ _; exact Nat.le_of_eq rfl) (by decide)
  refine Go.step (fun t k => st_1 t k) ?_
  show Go p.tables e below P (T_1.setTop (mkF m 4 #[.val (.ref a)] []))
  exact voidGo X_1 hx hP Bd.returns hlk (hb hby d1_4) (by decide) (by decide) (by rw [e_1]; exact ⟨rfl, N0, rfl⟩)
theorem d2_0 : decode prog_54_method_1_code 0 = .ok (.aload_n 0, 1) := by decide +kernel
theorem d2_1 : decode prog_54_method_1_code 1 = .ok (.invokespecial 1, 3) := by decide +kernel
theorem d2_4 : decode prog_54_method_1_code 4 = .ok (.dload_n 1, 1) := by decide +kernel
theorem d2_5 : decode prog_54_method_1_code 5 = .ok (.dconst 0, 1) := by decide +kernel
theorem d2_6 : decode prog_54_method_1_code 6 = .ok (.dcmp .l, 1) := by decide +kernel
theorem d2_7 : decode prog_54_method_1_code 7 = .ok (.ifCond .le 11, 3) := by decide +kernel
theorem d2_10 : decode prog_54_method_1_code 10 = .ok (.dload_n 1, 1) := by decide +kernel
theorem d2_11 : decode prog_54_method_1_code 11 = .ok (.ldc2_w 9, 3) := by decide +kernel
theorem d2_14 : decode prog_54_method_1_code 14 = .ok (.dcmp .g, 1) := by decide +kernel
theorem d2_15 : decode prog_54_method_1_code 15 = .ok (.ifCond .lt 17, 3) := by decide +kernel
theorem d2_32 : decode prog_54_method_1_code 32 = .ok (.aload_n 0, 1) := by decide +kernel
theorem d2_33 : decode prog_54_method_1_code 33 = .ok (.dload_n 1, 1) := by decide +kernel
theorem d2_34 : decode prog_54_method_1_code 34 = .ok (.putfield 20, 3) := by decide +kernel
theorem d2_37 : decode prog_54_method_1_code 37 = .ok (.return_, 1) := by decide +kernel
theorem pn_2 : plainName "com/example/eliteness/eliteness/ranking/Smoothing$Dirichlet" = true := by first | (simp [plainName, overriddenIn]; done) | decide +kernel
theorem ef_2 (m : MethodId) (x0 : Addr) (x1 : UInt64) : entryFrame m #[(.ref x0), (.double x1)] 3 = mkF m 0 #[.val (.ref x0), .val (.double x1), .second] [] := by first | (simp [entryFrame, mkF, argsToLocals, Value.category]; done) | rfl
def Q2 (Z : State) (a : Addr) (la : UInt64) (h0 : Heap) (n0 : Nat) (v : Option Value) (h : Heap) (L : List Loc) : Prop := v = none ∧ Fr n0 L ∧ Keep h0 h [a] ∧ Exa Z h a "com/example/eliteness/eliteness/ranking/Smoothing$Dirichlet" ∧ Fld Z h a "com/example/eliteness/eliteness/ranking/Smoothing$Dirichlet" "mu" "D" (.double la)
set_option maxRecDepth 65536 in
set_option maxHeartbeats 40000000 in
theorem rm2 (l : Launch) (Z : State) (a0 : Array Value) (hw : ∀ d ∈ tables_1, d.before a0 Z = true) (ws : List Jvm.Cond) (a : Addr) (la : UInt64) (h0 : Heap) (n0 : Nat) (Z0 : n0 ≤ h0.size) (E_a : Exa Z h0 a "com/example/eliteness/eliteness/ranking/Smoothing$Dirichlet") (F0 : Fld Z h0 a "com/example/eliteness/eliteness/ranking/Smoothing$Dirichlet" "mu" "D" (.double (0 : UInt64))) (g_a : n0 ≤ a) (kk : Nat) (i : Int) (q1 : DE kk i la) (hi1 : 0 < i) :
    MetFree l (⟨"com/example/eliteness/eliteness/ranking/Smoothing$Dirichlet", "<init>", "(D)V"⟩ : MethodName) (head1 (Jvm.Cond.code (⟨"com/example/eliteness/eliteness/ranking/Smoothing$Dirichlet", "<init>", "(D)V"⟩ : MethodName) prog_54_method_1_code 3 none :: ws) ({ frames := 2, cells := 0, slots := 0, locals := 24 } : Room)) (fun a_ U => a_ = #[(.ref a), (.double la)] ∧ Z.Warmed39 U.vm ∧ U.heap = h0) (fun _ _ _ _ _ => True) (fun _ U o U' => ∃ v L, o = .returned v ∧ Q2 Z a la h0 n0 v U'.heap L ∧ FrameEnd U o U' L (({ frames := 2, cells := 0, slots := 0, locals := 24 } : Room)).cells (({ frames := 2, cells := 0, slots := 0, locals := 24 } : Room)).slots) := by
  refine MetFree.of_bodySF (plainFor_of_name pn_2) hisR ?_
  intro p e s m args below meth c s₁ Bd hml0 hP0 hK
  obtain ⟨rfl, hZ, hh⟩ := hP0
  have hx := Bd.exec
  have hby := Bd.bytes
  have hml : c.maxLocals = 3 := hml0
  have hown : s.vm.findClass "com/example/eliteness/eliteness/ranking/Smoothing$Dirichlet" = some m.cls := findClass_of_methodNamed Bd.named
  have hnm := (name_of_methodNamed Bd.named Bd.method).1
  have X0 : Stand p l e ({ frames := 2, cells := 0, slots := 0, locals := 24 } : Room) s m #[(.ref a), (.double la)] below meth c s₁ [] 0 0 := Stand.of_body Bd
  have e0 : s₁.heap = h0 := by rw [← hh, Bd.state]; rfl
  have N0 := Fr.nil n0
  have hlk : meth.locks = false := BodyLoose.notSynchronized Bd
  refine Go.start (P₀ := fun s₂ o => ∃ v L, o = .returned v ∧ Q2 Z a la h0 n0 v s₂.heap L ∧ FrameEnd s o s₂ L (({ frames := 2, cells := 0, slots := 0, locals := 24 } : Room)).cells (({ frames := 2, cells := 0, slots := 0, locals := 24 } : Room)).slots) (congrArg s₁.setTop (ef_2 m a la)) ?_
  intro P hP
  show Go p.tables e below P (s₁.setTop (mkF m 0 #[.val (.ref a), .val (.double la), .second] []))
  refine Go.step (fun t k => XS.aloadN X0.here hx rfl (hb hby d2_0) rfl rfl k) ?_
  show Go p.tables e below P (s₁.setTop (mkF m 1 #[.val (.ref a), .val (.double la), .second] [(.ref a)]))
  obtain ⟨_, _, ⟨T_1, L_1, k_1, n_1⟩, -, X_1, ⟨Lc_1, hQ_1, l_1, y_1, z_1⟩, st_1⟩ := X0.specialBack hx (y := (⟨"java/lang/Record", "<init>", "()V"⟩ : MethodName)) rfl hown (mvT hZ (hw _ (List.mem_of_getElem? (i := 9) rfl))) (mvT hZ (hw _ (List.mem_of_getElem? (i := 10) rfl))) (mvT hZ (hw _ (List.mem_of_getElem? (i := 13) rfl))) (by decide) (backOf (W := 0) (rm1 l Z a0 hw [] a h0 n0 Z0 ) hZ (hw _ (List.mem_of_getElem? (i := 13) rfl)) (hw _ (List.mem_of_getElem? (i := 12) rfl)) (by decide) (by decide)) (g := (mkF m 1 #[.val (.ref a), .val (.double la), .second] [(.ref a)])) rfl (by rw [hml]; rfl) (Steps.refl _) (a := a) (argsL := []) (rest := []) (lenOf pd_0 rfl) rfl (by show 2 * 0 + _ ≤ _; exact Nat.le_of_eq rfl) (hb hby d2_1) (fun _ _ => ⟨rfl, e0, (by decide : 0 + 0 ≤ _), (by decide : 0 + 0 ≤ _)⟩)
  dsimp only [Pt.U, Pt.locs, Pt.cells, Pt.slots] at X_1 l_1 y_1 z_1 st_1 hQ_1
  subst l_1 y_1 z_1
  obtain ⟨rfl, N_1q, eh_1⟩ := hQ_1
  have N_1 := Fr.app N0 N_1q
  refine Go.tr st_1 ?_
  show Go p.tables e below P (T_1.setTop (mkF m 4 #[.val (.ref a), .val (.double la), .second] []))
  refine Go.step (fun t k => XS.dloadN X_1.here hx rfl (hb hby d2_4) rfl  k) ?_
  show Go p.tables e below P (T_1.setTop (mkF m 5 #[.val (.ref a), .val (.double la), .second] [(.double la)]))
  refine Go.step (fun t k => XS.dconst0 X_1.here hx rfl (hb hby d2_5) rfl k) ?_
  show Go p.tables e below P (T_1.setTop (mkF m 6 #[.val (.ref a), .val (.double la), .second] [(.double FP.dconst0), (.double la)]))
  refine Go.step (fun t k => XS.dcmpS X_1.here hx rfl (hb hby d2_6) rfl rfl k) ?_
  show Go p.tables e below P (T_1.setTop (mkF m 7 #[.val (.ref a), .val (.double la), .second] [(.int (cmpValue (FP.dcmp la FP.dconst0) .l))]))
  refine Go.step (fun t k => XS.ifNo X_1.here hx rfl (hb hby d2_7) rfl (dcN (cd := .le) (DE.cmp q1 (zero_e kk)) (by omega : ¬ (i ≤ 0))) k) ?_
  show Go p.tables e below P (T_1.setTop (mkF m 10 #[.val (.ref a), .val (.double la), .second] []))
  refine Go.step (fun t k => XS.dloadN X_1.here hx rfl (hb hby d2_10) rfl  k) ?_
  show Go p.tables e below P (T_1.setTop (mkF m 11 #[.val (.ref a), .val (.double la), .second] [(.double la)]))
  refine Go.step (fun t k => X_1.ldc2DoubleC hx hown (mvT hZ (hw _ (List.mem_of_getElem? (i := 17) rfl))) (g := (mkF m 11 #[.val (.ref a), .val (.double la), .second] [(.double la)])) rfl (hb hby d2_11) t k) ?_
  show Go p.tables e below P (T_1.setTop (mkF m 14 #[.val (.ref a), .val (.double la), .second] [(.double (9218868437227405312 : UInt64)), (.double la)]))
  refine Go.step (fun t k => XS.dcmpS X_1.here hx rfl (hb hby d2_14) rfl rfl k) ?_
  show Go p.tables e below P (T_1.setTop (mkF m 15 #[.val (.ref a), .val (.double la), .second] [(.int (cmpValue (FP.dcmp la (9218868437227405312 : UInt64)) .g))]))
  refine Go.step (fun t k => XS.ifYes X_1.here hx rfl (pc0 := 15) (pc' := 32) rfl (hb hby d2_15) rfl (dcY (cd := .lt) (show FP.dcmp la 9218868437227405312 = some (compare (0 : Int) 1) from (FP.Core.fin_lt_inf q1.1).1) (by decide : (0 : Int) < (1 : Int))) (by decide) (by decide) k) ?_
  show Go p.tables e below P (T_1.setTop (mkF m 32 #[.val (.ref a), .val (.double la), .second] []))
  refine Go.step (fun t k => XS.aloadN X_1.here hx rfl (hb hby d2_32) rfl rfl k) ?_
  show Go p.tables e below P (T_1.setTop (mkF m 33 #[.val (.ref a), .val (.double la), .second] [(.ref a)]))
  refine Go.step (fun t k => XS.dloadN X_1.here hx rfl (hb hby d2_33) rfl  k) ?_
  show Go p.tables e below P (T_1.setTop (mkF m 34 #[.val (.ref a), .val (.double la), .second] [(.double la), (.ref a)]))
  obtain ⟨T_2, h_2, X_2, e_2, W_2, st_2⟩ := putF X_1 hx hZ hown (host := "") (Or.inl (hw _ (List.mem_of_getElem? (i := 18) rfl))) Via.refl eh_1 F0 E_a (Or.inr ⟨(hw _ (List.mem_of_getElem? (i := 19) rfl)), rfl, hnm⟩) (hw _ (List.mem_of_getElem? (i := 4) rfl)) (ty := .double) (by decide) rfl rfl (g := (mkF m 34 #[.val (.ref a), .val (.double la), .second] [(.double la), (.ref a)])) rfl rfl (hb hby d2_34)
  have Fw_2 := F0.same W_2
  have N_2 := Fr.snoc X_2 N_1 g_a
  have K_2 : Keep h0 h_2 [a] := (Keep.refl h0 [a]).wr W_2 (Or.inl (List.mem_of_getElem? (i := 0) rfl))
  have Z_2 : n0 ≤ h_2.size := Nat.le_trans Z0 (Keep.of_wr W_2).1
  refine Go.step (fun t k => st_2 t k) ?_
  show Go p.tables e below P (T_2.setTop (mkF m 37 #[.val (.ref a), .val (.double la), .second] []))
  exact voidGo X_2 hx hP Bd.returns hlk (hb hby d2_37) (by decide) (by decide) (by rw [e_2]; exact ⟨rfl, N_2, K_2, (E_a.wr W_2), Fw_2⟩)
theorem d3_0 : decode prog_54_method_2_code 0 = .ok (.iload_n 1, 1) := by decide +kernel
theorem d3_1 : decode prog_54_method_2_code 1 = .ok (.i2d, 1) := by decide +kernel
theorem d3_2 : decode prog_54_method_2_code 2 = .ok (.aload_n 0, 1) := by decide +kernel
theorem d3_3 : decode prog_54_method_2_code 3 = .ok (.getfield 20, 3) := by decide +kernel
theorem d3_6 : decode prog_54_method_2_code 6 = .ok (.dload_n 3, 1) := by decide +kernel
theorem d3_7 : decode prog_54_method_2_code 7 = .ok (.dmul, 1) := by decide +kernel
theorem d3_8 : decode prog_54_method_2_code 8 = .ok (.dadd, 1) := by decide +kernel
theorem d3_9 : decode prog_54_method_2_code 9 = .ok (.iload_n 2, 1) := by decide +kernel
theorem d3_10 : decode prog_54_method_2_code 10 = .ok (.i2d, 1) := by decide +kernel
theorem d3_11 : decode prog_54_method_2_code 11 = .ok (.aload_n 0, 1) := by decide +kernel
theorem d3_12 : decode prog_54_method_2_code 12 = .ok (.getfield 20, 3) := by decide +kernel
theorem d3_15 : decode prog_54_method_2_code 15 = .ok (.dadd, 1) := by decide +kernel
theorem d3_16 : decode prog_54_method_2_code 16 = .ok (.ddiv, 1) := by decide +kernel
theorem d3_17 : decode prog_54_method_2_code 17 = .ok (.dreturn, 1) := by decide +kernel
theorem pn_3 : plainName "com/example/eliteness/eliteness/ranking/Smoothing$Dirichlet" = true := by first | (simp [plainName, overriddenIn]; done) | decide +kernel
theorem ef_3 (m : MethodId) (x0 : Addr) (x1 : Int32) (x2 : Int32) (x3 : UInt64) (x4 : Int32) : entryFrame m #[(.ref x0), (.int x1), (.int x2), (.double x3), (.int x4)] 6 = mkF m 0 #[.val (.ref x0), .val (.int x1), .val (.int x2), .val (.double x3), .second, .val (.int x4)] [] := by first | (simp [entryFrame, mkF, argsToLocals, Value.category]; done) | rfl
def Q3 (Z : State) (a : Addr) (tf : Int32) (dl : Int32) (cl : UInt64) (vo : Int32) (mu : UInt64) (km : Nat) (kc : Nat) (kp : Nat) (kq : Nat) (n1 : Nat) (n2 : Nat) (n3 : Nat) (M : Int) (cc : Int) (N : Int) (B : Int) (q : Int) (h0 : Heap) (n0 : Nat) (v : Option Value) (h : Heap) (L : List Loc) : Prop := ∃ r : UInt64, v = some (.double r) ∧ DE kq q r ∧ Fr n0 L ∧ h = h0
set_option maxRecDepth 65536 in
set_option maxHeartbeats 40000000 in
theorem rm3 (l : Launch) (Z : State) (a0 : Array Value) (hw : ∀ d ∈ tables_1, d.before a0 Z = true) (ws : List Jvm.Cond) (a : Addr) (tf : Int32) (dl : Int32) (cl : UInt64) (vo : Int32) (mu : UInt64) (km : Nat) (kc : Nat) (kp : Nat) (kq : Nat) (n1 : Nat) (n2 : Nat) (n3 : Nat) (M : Int) (cc : Int) (N : Int) (B : Int) (q : Int) (h0 : Heap) (n0 : Nat) (Z0 : n0 ≤ h0.size) (F0 : Fld Z h0 a "com/example/eliteness/eliteness/ranking/Smoothing$Dirichlet" "mu" "D" (.double mu)) (qm : DE km M mu) (qc : DE kc cc cl) (hkp : km + kc = kp + 1074) (hPm : (M * cc).natAbs ≤ 2 ^ 53) (hn1 : 1074 = kp + n1) (hN : tf.toInt * ((2 ^ n1 : Nat) : Int) + M * cc = N) (bN : N.natAbs ≤ 2 ^ 53) (hn2 : 1074 = km + n2) (hB : dl.toInt * ((2 ^ n2 : Nat) : Int) + M = B * ((2 ^ n3 : Nat) : Int)) (bB : (B * ((2 ^ n3 : Nat) : Int)).natAbs ≤ 2 ^ 53) (pB : 0 < B) (hkq : kp + 1074 = kq + (km + n3)) (hq : q * B = N) (bq : q.natAbs ≤ 2 ^ 53) (bkq : kq ≤ 2044) :
    MetFree l (⟨"com/example/eliteness/eliteness/ranking/Smoothing$Dirichlet", "probability", "(IIDI)D"⟩ : MethodName) (head1 (Jvm.Cond.code (⟨"com/example/eliteness/eliteness/ranking/Smoothing$Dirichlet", "probability", "(IIDI)D"⟩ : MethodName) prog_54_method_2_code 6 (some .double) :: ws) ({ frames := 0, cells := 0, slots := 0, locals := 0 } : Room)) (fun a_ U => a_ = #[(.ref a), (.int tf), (.int dl), (.double cl), (.int vo)] ∧ Z.Warmed39 U.vm ∧ U.heap = h0) (fun _ _ _ _ _ => True) (fun _ U o U' => ∃ v L, o = .returned v ∧ Q3 Z a tf dl cl vo mu km kc kp kq n1 n2 n3 M cc N B q h0 n0 v U'.heap L ∧ FrameEnd U o U' L (({ frames := 0, cells := 0, slots := 0, locals := 0 } : Room)).cells (({ frames := 0, cells := 0, slots := 0, locals := 0 } : Room)).slots) := by
  refine MetFree.of_bodySF (plainFor_of_name pn_3) hisR ?_
  intro p e s m args below meth c s₁ Bd hml0 hP0 hK
  obtain ⟨rfl, hZ, hh⟩ := hP0
  have hx := Bd.exec
  have hby := Bd.bytes
  have hml : c.maxLocals = 6 := hml0
  have hown : s.vm.findClass "com/example/eliteness/eliteness/ranking/Smoothing$Dirichlet" = some m.cls := findClass_of_methodNamed Bd.named
  have hnm := (name_of_methodNamed Bd.named Bd.method).1
  have X0 : Stand p l e ({ frames := 0, cells := 0, slots := 0, locals := 0 } : Room) s m #[(.ref a), (.int tf), (.int dl), (.double cl), (.int vo)] below meth c s₁ [] 0 0 := Stand.of_body Bd
  have e0 : s₁.heap = h0 := by rw [← hh, Bd.state]; rfl
  have N0 := Fr.nil n0
  have hlk : meth.locks = false := BodyLoose.notSynchronized Bd
  refine Go.start (P₀ := fun s₂ o => ∃ v L, o = .returned v ∧ Q3 Z a tf dl cl vo mu km kc kp kq n1 n2 n3 M cc N B q h0 n0 v s₂.heap L ∧ FrameEnd s o s₂ L (({ frames := 0, cells := 0, slots := 0, locals := 0 } : Room)).cells (({ frames := 0, cells := 0, slots := 0, locals := 0 } : Room)).slots) (congrArg s₁.setTop (ef_3 m a tf dl cl vo)) ?_
  intro P hP
  show Go p.tables e below P (s₁.setTop (mkF m 0 #[.val (.ref a), .val (.int tf), .val (.int dl), .val (.double cl), .second, .val (.int vo)] []))
  refine Go.step (fun t k => XS.iloadN X0.here hx rfl (hb hby d3_0) rfl  k) ?_
  show Go p.tables e below P (s₁.setTop (mkF m 1 #[.val (.ref a), .val (.int tf), .val (.int dl), .val (.double cl), .second, .val (.int vo)] [(.int tf)]))
  obtain ⟨d1, hd1⟩ : ∃ z : UInt64, FP.i2d tf = z := ⟨_, rfl⟩
  refine Go.step (fun t k => XS.i2dS X0.here hx rfl (hb hby d3_1) rfl hd1 k) ?_
  show Go p.tables e below P (s₁.setTop (mkF m 2 #[.val (.ref a), .val (.int tf), .val (.int dl), .val (.double cl), .second, .val (.int vo)] [(.double d1)]))
  have qt := i2d_e tf; rw [hd1] at qt
  refine Go.step (fun t k => XS.aloadN X0.here hx rfl (hb hby d3_2) rfl rfl k) ?_
  show Go p.tables e below P (s₁.setTop (mkF m 3 #[.val (.ref a), .val (.int tf), .val (.int dl), .val (.double cl), .second, .val (.int vo)] [(.ref a), (.double d1)]))
  obtain ⟨T_1, X_1, e_1, st_1⟩ := getF X0 hx hZ hown (host := "") (Or.inl (hw _ (List.mem_of_getElem? (i := 18) rfl))) Via.refl e0 F0 (g := (mkF m 3 #[.val (.ref a), .val (.int tf), .val (.int dl), .val (.double cl), .second, .val (.int vo)] [(.ref a), (.double d1)])) rfl rfl (hb hby d3_3)
  refine Go.step (fun t k => st_1 t k) ?_
  show Go p.tables e below P (T_1.setTop (mkF m 6 #[.val (.ref a), .val (.int tf), .val (.int dl), .val (.double cl), .second, .val (.int vo)] [(.double mu), (.double d1)]))
  refine Go.step (fun t k => XS.dloadN X_1.here hx rfl (hb hby d3_6) rfl  k) ?_
  show Go p.tables e below P (T_1.setTop (mkF m 7 #[.val (.ref a), .val (.int tf), .val (.int dl), .val (.double cl), .second, .val (.int vo)] [(.double cl), (.double mu), (.double d1)]))
  obtain ⟨d7, hd7⟩ : ∃ z : UInt64, FP.dmul mu cl = z := ⟨_, rfl⟩
  have q7 := mul_e (k := kp) qm qc hkp rfl hPm (by omega)
  rw [hd7] at q7
  refine Go.step (fun t k => XS.dmulS X_1.here hx rfl (hb hby d3_7) rfl (hd7 ▸ q7.nn) hd7 k) ?_
  show Go p.tables e below P (T_1.setTop (mkF m 8 #[.val (.ref a), .val (.int tf), .val (.int dl), .val (.double cl), .second, .val (.int vo)] [(.double d7), (.double d1)]))
  obtain ⟨d8, hd8⟩ : ∃ z : UInt64, FP.dadd d1 d7 = z := ⟨_, rfl⟩
  have q8 := add_e (qt.down (k' := kp) (n := n1) hn1) q7 hN bN (by omega)
  rw [hd8] at q8
  refine Go.step (fun t k => XS.daddS X_1.here hx rfl (hb hby d3_8) rfl (hd8 ▸ q8.nn) hd8 k) ?_
  show Go p.tables e below P (T_1.setTop (mkF m 9 #[.val (.ref a), .val (.int tf), .val (.int dl), .val (.double cl), .second, .val (.int vo)] [(.double d8)]))
  refine Go.step (fun t k => XS.iloadN X_1.here hx rfl (hb hby d3_9) rfl  k) ?_
  show Go p.tables e below P (T_1.setTop (mkF m 10 #[.val (.ref a), .val (.int tf), .val (.int dl), .val (.double cl), .second, .val (.int vo)] [(.int dl), (.double d8)]))
  obtain ⟨d10, hd10⟩ : ∃ z : UInt64, FP.i2d dl = z := ⟨_, rfl⟩
  refine Go.step (fun t k => XS.i2dS X_1.here hx rfl (hb hby d3_10) rfl hd10 k) ?_
  show Go p.tables e below P (T_1.setTop (mkF m 11 #[.val (.ref a), .val (.int tf), .val (.int dl), .val (.double cl), .second, .val (.int vo)] [(.double d10), (.double d8)]))
  have qd := i2d_e dl; rw [hd10] at qd
  refine Go.step (fun t k => XS.aloadN X_1.here hx rfl (hb hby d3_11) rfl rfl k) ?_
  show Go p.tables e below P (T_1.setTop (mkF m 12 #[.val (.ref a), .val (.int tf), .val (.int dl), .val (.double cl), .second, .val (.int vo)] [(.ref a), (.double d10), (.double d8)]))
  obtain ⟨T_2, X_2, e_2, st_2⟩ := getF X_1 hx hZ hown (host := "") (Or.inl (hw _ (List.mem_of_getElem? (i := 18) rfl))) Via.refl e_1 F0 (g := (mkF m 12 #[.val (.ref a), .val (.int tf), .val (.int dl), .val (.double cl), .second, .val (.int vo)] [(.ref a), (.double d10), (.double d8)])) rfl rfl (hb hby d3_12)
  refine Go.step (fun t k => st_2 t k) ?_
  show Go p.tables e below P (T_2.setTop (mkF m 15 #[.val (.ref a), .val (.int tf), .val (.int dl), .val (.double cl), .second, .val (.int vo)] [(.double mu), (.double d10), (.double d8)]))
  obtain ⟨d15, hd15⟩ : ∃ z : UInt64, FP.dadd d10 mu = z := ⟨_, rfl⟩
  have q15 := add_e (qd.down (k' := km) (n := n2) hn2) qm hB bB (by omega)
  rw [hd15] at q15
  refine Go.step (fun t k => XS.daddS X_2.here hx rfl (hb hby d3_15) rfl (hd15 ▸ q15.nn) hd15 k) ?_
  show Go p.tables e below P (T_2.setTop (mkF m 16 #[.val (.ref a), .val (.int tf), .val (.int dl), .val (.double cl), .second, .val (.int vo)] [(.double d15), (.double d8)]))
  obtain ⟨d16, hd16⟩ : ∃ z : UInt64, FP.ddiv d8 d15 = z := ⟨_, rfl⟩
  have q16 := div_e (k := kq) q8 (DB.up q15) pB hkq hq bq bkq
  rw [hd16] at q16
  refine Go.step (fun t k => XS.ddivS X_2.here hx rfl (hb hby d3_16) rfl (hd16 ▸ q16.nn) hd16 k) ?_
  show Go p.tables e below P (T_2.setTop (mkF m 17 #[.val (.ref a), .val (.int tf), .val (.int dl), .val (.double cl), .second, .val (.int vo)] [(.double d16)]))
  exact retGo X_2 hx hP Bd.returns hlk rfl (Or.inr (Or.inr (Or.inl ⟨rfl, rfl, _, rfl⟩))) (hb hby d3_17) (by decide) (by decide) (by rw [e_2]; exact ⟨d16, rfl, q16, N0, rfl⟩)
theorem pn_0 : plainName "com/example/eliteness/eliteness/ranking/DirichletProbabilityPinLaw" = true := by first | (simp [plainName, overriddenIn]; done) | decide +kernel
theorem ef_0 (m : MethodId) (x0 : Int32) (x1 : Int32) (x2 : Int32) (x3 : Int32) (x4 : Int32) (x5 : Int32) : entryFrame m #[(.int x0), (.int x1), (.int x2), (.int x3), (.int x4), (.int x5)] maxLocals = mkF m 0 #[.val (.int x0), .val (.int x1), .val (.int x2), .val (.int x3), .val (.int x4), .val (.int x5), .unset, .unset, .unset, .unset, .unset, .unset, .unset, .unset, .unset, .unset, .unset, .unset, .unset, .unset, .unset, .unset, .unset, .unset, .unset, .unset, .unset, .unset, .unset, .unset, .unset, .unset, .unset, .unset, .unset, .unset] [] := by first | (simp [entryFrame, mkF, argsToLocals, Value.category, maxLocals]; done) | rfl
def Q0 (Z : State) (p1 : Int32) (p2 : Int32) (p3 : Int32) (p4 : Int32) (p5 : Int32) (p6 : Int32) (h0 : Heap) (n0 : Nat) (v : Option Value) (h : Heap) (L : List Loc) : Prop := v = some (.int 1) ∧ Fr n0 L
set_option maxRecDepth 65536 in
set_option maxHeartbeats 40000000 in
theorem rm0 (l : Launch) (Z : State) (a0 : Array Value) (hw : ∀ d ∈ tables_1, d.before a0 Z = true) (ws : List Jvm.Cond) (p1 : Int32) (p2 : Int32) (p3 : Int32) (p4 : Int32) (p5 : Int32) (p6 : Int32) (h0 : Heap) (n0 : Nat) (Z0 : n0 ≤ h0.size) :
    MetFree l x (head1 (Jvm.Cond.code x code maxLocals ret :: ws) room_1) (fun a_ U => a_ = #[(.int p1), (.int p2), (.int p3), (.int p4), (.int p5), (.int p6)] ∧ Z.Warmed39 U.vm ∧ U.heap = h0) (fun _ _ _ _ _ => True) (fun _ U o U' => ∃ v L, o = .returned v ∧ Q0 Z p1 p2 p3 p4 p5 p6 h0 n0 v U'.heap L ∧ FrameEnd U o U' L 16 128) := by
  refine MetFree.of_bodySF (plainFor_of_name pn_0) hisR ?_
  intro p e s m args below meth c s₁ Bd hml0 hP0 hK
  obtain ⟨rfl, hZ, hh⟩ := hP0
  have hx := Bd.exec
  have hby := Bd.bytes
  have hml : c.maxLocals = 36 := hml0
  have hown : s.vm.findClass "com/example/eliteness/eliteness/ranking/DirichletProbabilityPinLaw" = some m.cls := findClass_of_methodNamed Bd.named
  have hnm := (name_of_methodNamed Bd.named Bd.method).1
  have X0 : Stand p l e room_1 s m #[(.int p1), (.int p2), (.int p3), (.int p4), (.int p5), (.int p6)] below meth c s₁ [] 0 0 := Stand.of_body Bd
  have e0 : s₁.heap = h0 := by rw [← hh, Bd.state]; rfl
  have N0 := Fr.nil n0
  have hlk : meth.locks = false := BodyLoose.notSynchronized Bd
  refine Go.start (P₀ := fun s₂ o => ∃ v L, o = .returned v ∧ Q0 Z p1 p2 p3 p4 p5 p6 h0 n0 v s₂.heap L ∧ FrameEnd s o s₂ L 16 128) (congrArg s₁.setTop (ef_0 m p1 p2 p3 p4 p5 p6)) ?_
  intro P hP
  show Go p.tables e below P (s₁.setTop (mkF m 0 #[.val (.int p1), .val (.int p2), .val (.int p3), .val (.int p4), .val (.int p5), .val (.int p6), .unset, .unset, .unset, .unset, .unset, .unset, .unset, .unset, .unset, .unset, .unset, .unset, .unset, .unset, .unset, .unset, .unset, .unset, .unset, .unset, .unset, .unset, .unset, .unset, .unset, .unset, .unset, .unset, .unset, .unset] []))
  have e1 : (1 : Int32).toInt = 1 := rfl
  have E1 : (1 : Int64).toInt = 1 := rfl
  refine Go.step (fun t k => XS.iloadN X0.here hx rfl (hb hby at_0) rfl  k) ?_
  show Go p.tables e below P (s₁.setTop (mkF m 1 #[.val (.int p1), .val (.int p2), .val (.int p3), .val (.int p4), .val (.int p5), .val (.int p6), .unset, .unset, .unset, .unset, .unset, .unset, .unset, .unset, .unset, .unset, .unset, .unset, .unset, .unset, .unset, .unset, .unset, .unset, .unset, .unset, .unset, .unset, .unset, .unset, .unset, .unset, .unset, .unset, .unset, .unset] [(.int p2)]))
  refine Go.step (fun t k => X0.ldcInt hx hown (mvT hZ (hw _ (List.mem_of_getElem? (i := 0) rfl))) (g := (mkF m 1 #[.val (.int p1), .val (.int p2), .val (.int p3), .val (.int p4), .val (.int p5), .val (.int p6), .unset, .unset, .unset, .unset, .unset, .unset, .unset, .unset, .unset, .unset, .unset, .unset, .unset, .unset, .unset, .unset, .unset, .unset, .unset, .unset, .unset, .unset, .unset, .unset, .unset, .unset, .unset, .unset, .unset, .unset] [(.int p2)])) rfl (hb hby at_1) t k) ?_
  show Go p.tables e below P (s₁.setTop (mkF m 3 #[.val (.int p1), .val (.int p2), .val (.int p3), .val (.int p4), .val (.int p5), .val (.int p6), .unset, .unset, .unset, .unset, .unset, .unset, .unset, .unset, .unset, .unset, .unset, .unset, .unset, .unset, .unset, .unset, .unset, .unset, .unset, .unset, .unset, .unset, .unset, .unset, .unset, .unset, .unset, .unset, .unset, .unset] [(.int (2147483647 : Int32)), (.int p2)]))
  obtain ⟨i3, hi3⟩ : ∃ z : Int32, p2 &&& (2147483647 : Int32) = z := ⟨_, rfl⟩
  refine Go.step (fun t k => iand_v X0.here hx rfl (hb hby at_3) rfl  hi3 k) ?_
  show Go p.tables e below P (s₁.setTop (mkF m 4 #[.val (.int p1), .val (.int p2), .val (.int p3), .val (.int p4), .val (.int p5), .val (.int p6), .unset, .unset, .unset, .unset, .unset, .unset, .unset, .unset, .unset, .unset, .unset, .unset, .unset, .unset, .unset, .unset, .unset, .unset, .unset, .unset, .unset, .unset, .unset, .unset, .unset, .unset, .unset, .unset, .unset, .unset] [(.int i3)]))
  refine Go.step (fun t k => XS.bipush X0.here hx rfl (hb hby at_4) k) ?_
  show Go p.tables e below P (s₁.setTop (mkF m 6 #[.val (.int p1), .val (.int p2), .val (.int p3), .val (.int p4), .val (.int p5), .val (.int p6), .unset, .unset, .unset, .unset, .unset, .unset, .unset, .unset, .unset, .unset, .unset, .unset, .unset, .unset, .unset, .unset, .unset, .unset, .unset, .unset, .unset, .unset, .unset, .unset, .unset, .unset, .unset, .unset, .unset, .unset] [(.int (31 : Int32)), (.int i3)]))
  obtain ⟨i6, hi6⟩ : ∃ z : Int32, i3 % (31 : Int32) = z := ⟨_, rfl⟩
  refine Go.step (fun t k => irem_v X0.here hx rfl (hb hby at_6) rfl (by decide) hi6 k) ?_
  show Go p.tables e below P (s₁.setTop (mkF m 7 #[.val (.int p1), .val (.int p2), .val (.int p3), .val (.int p4), .val (.int p5), .val (.int p6), .unset, .unset, .unset, .unset, .unset, .unset, .unset, .unset, .unset, .unset, .unset, .unset, .unset, .unset, .unset, .unset, .unset, .unset, .unset, .unset, .unset, .unset, .unset, .unset, .unset, .unset, .unset, .unset, .unset, .unset] [(.int i6)]))
  refine Go.step (fun t k => XS.iconst X0.here hx rfl (hb hby at_7) k) ?_
  show Go p.tables e below P (s₁.setTop (mkF m 8 #[.val (.int p1), .val (.int p2), .val (.int p3), .val (.int p4), .val (.int p5), .val (.int p6), .unset, .unset, .unset, .unset, .unset, .unset, .unset, .unset, .unset, .unset, .unset, .unset, .unset, .unset, .unset, .unset, .unset, .unset, .unset, .unset, .unset, .unset, .unset, .unset, .unset, .unset, .unset, .unset, .unset, .unset] [(.int (1 : Int32)), (.int i6)]))
  obtain ⟨i8, hi8⟩ : ∃ z : Int32, i6 + (1 : Int32) = z := ⟨_, rfl⟩
  refine Go.step (fun t k => iadd_v X0.here hx rfl (hb hby at_8) rfl  hi8 k) ?_
  show Go p.tables e below P (s₁.setTop (mkF m 9 #[.val (.int p1), .val (.int p2), .val (.int p3), .val (.int p4), .val (.int p5), .val (.int p6), .unset, .unset, .unset, .unset, .unset, .unset, .unset, .unset, .unset, .unset, .unset, .unset, .unset, .unset, .unset, .unset, .unset, .unset, .unset, .unset, .unset, .unset, .unset, .unset, .unset, .unset, .unset, .unset, .unset, .unset] [(.int i8)]))
  refine Go.step (fun t k => XS.istore X0.here hx rfl (hb hby at_9) rfl (l' := #[.val (.int p1), .val (.int p2), .val (.int p3), .val (.int p4), .val (.int p5), .val (.int p6), .val (.int i8), .unset, .unset, .unset, .unset, .unset, .unset, .unset, .unset, .unset, .unset, .unset, .unset, .unset, .unset, .unset, .unset, .unset, .unset, .unset, .unset, .unset, .unset, .unset, .unset, .unset, .unset, .unset, .unset, .unset]) rfl k) ?_
  show Go p.tables e below P (s₁.setTop (mkF m 11 #[.val (.int p1), .val (.int p2), .val (.int p3), .val (.int p4), .val (.int p5), .val (.int p6), .val (.int i8), .unset, .unset, .unset, .unset, .unset, .unset, .unset, .unset, .unset, .unset, .unset, .unset, .unset, .unset, .unset, .unset, .unset, .unset, .unset, .unset, .unset, .unset, .unset, .unset, .unset, .unset, .unset, .unset, .unset] []))
  refine Go.step (fun t k => XS.lconst X0.here hx rfl (hb hby at_11) k) ?_
  show Go p.tables e below P (s₁.setTop (mkF m 12 #[.val (.int p1), .val (.int p2), .val (.int p3), .val (.int p4), .val (.int p5), .val (.int p6), .val (.int i8), .unset, .unset, .unset, .unset, .unset, .unset, .unset, .unset, .unset, .unset, .unset, .unset, .unset, .unset, .unset, .unset, .unset, .unset, .unset, .unset, .unset, .unset, .unset, .unset, .unset, .unset, .unset, .unset, .unset] [(.long (1 : Int64))]))
  refine Go.step (fun t k => XS.iload X0.here hx rfl (hb hby at_12) rfl  k) ?_
  show Go p.tables e below P (s₁.setTop (mkF m 14 #[.val (.int p1), .val (.int p2), .val (.int p3), .val (.int p4), .val (.int p5), .val (.int p6), .val (.int i8), .unset, .unset, .unset, .unset, .unset, .unset, .unset, .unset, .unset, .unset, .unset, .unset, .unset, .unset, .unset, .unset, .unset, .unset, .unset, .unset, .unset, .unset, .unset, .unset, .unset, .unset, .unset, .unset, .unset] [(.int i8), (.long (1 : Int64))]))
  have f3 := c_mask p2 (2147483647 : Int32) 31 (by decide) rfl; rw [hi3] at f3
  have f6 := c_irem i3 (31 : Int32) 31 rfl; rw [hi6] at f6
  have f6' := f6.1 (by omega)
  have f8 := c_iadd i6 (1 : Int32); rw [hi8, e1] at f8
  have g8 := rng32 i8
  have b8 : 1 ≤ i8.toInt ∧ i8.toInt ≤ 31 := by omega
  clear f3 f6 f6' f8
  have t8 := tn32 (q := i8) (by omega)
  obtain ⟨k_, hk_⟩ : ∃ z : Nat, i8.toBitVec.toNat % 64 = z := ⟨_, rfl⟩
  have bk : 1 ≤ k_ ∧ k_ ≤ 31 := by omega
  obtain ⟨j14, hj14⟩ : ∃ z : Int64, ((1 : Int64) <<< (i8 &&& 0x3f).toInt64) = z := ⟨_, rfl⟩
  refine Go.step (fun t k => lshl_v X0.here hx rfl (hb hby at_14) rfl  hj14 k) ?_
  show Go p.tables e below P (s₁.setTop (mkF m 15 #[.val (.int p1), .val (.int p2), .val (.int p3), .val (.int p4), .val (.int p5), .val (.int p6), .val (.int i8), .unset, .unset, .unset, .unset, .unset, .unset, .unset, .unset, .unset, .unset, .unset, .unset, .unset, .unset, .unset, .unset, .unset, .unset, .unset, .unset, .unset, .unset, .unset, .unset, .unset, .unset, .unset, .unset, .unset] [(.long j14)]))
  have f14 := c_lshl (1 : Int64) i8 k_ hk_; rw [hj14, E1] at f14
  have g14 := rng64 j14
  have hD : 2 ^ 1 ≤ 2 ^ k_ ∧ 2 ^ k_ ≤ 2147483648 := ⟨Nat.pow_le_pow_right (n := 2) (by decide) bk.1, Nat.pow_le_pow_right (n := 2) (by decide) bk.2⟩
  have v14 : j14.toInt = ((2 ^ k_ : Nat) : Int) := by omega
  clear f14
  refine Go.step (fun t k => XS.lstore X0.here hx rfl (hb hby at_15) rfl (l' := #[.val (.int p1), .val (.int p2), .val (.int p3), .val (.int p4), .val (.int p5), .val (.int p6), .val (.int i8), .val (.long j14), .second, .unset, .unset, .unset, .unset, .unset, .unset, .unset, .unset, .unset, .unset, .unset, .unset, .unset, .unset, .unset, .unset, .unset, .unset, .unset, .unset, .unset, .unset, .unset, .unset, .unset, .unset, .unset]) rfl k) ?_
  show Go p.tables e below P (s₁.setTop (mkF m 17 #[.val (.int p1), .val (.int p2), .val (.int p3), .val (.int p4), .val (.int p5), .val (.int p6), .val (.int i8), .val (.long j14), .second, .unset, .unset, .unset, .unset, .unset, .unset, .unset, .unset, .unset, .unset, .unset, .unset, .unset, .unset, .unset, .unset, .unset, .unset, .unset, .unset, .unset, .unset, .unset, .unset, .unset, .unset, .unset] []))
  refine Go.step (fun t k => XS.iconst X0.here hx rfl (hb hby at_17) k) ?_
  show Go p.tables e below P (s₁.setTop (mkF m 18 #[.val (.int p1), .val (.int p2), .val (.int p3), .val (.int p4), .val (.int p5), .val (.int p6), .val (.int i8), .val (.long j14), .second, .unset, .unset, .unset, .unset, .unset, .unset, .unset, .unset, .unset, .unset, .unset, .unset, .unset, .unset, .unset, .unset, .unset, .unset, .unset, .unset, .unset, .unset, .unset, .unset, .unset, .unset, .unset] [(.int (1 : Int32))]))
  refine Go.step (fun t k => XS.iloadN X0.here hx rfl (hb hby at_18) rfl  k) ?_
  show Go p.tables e below P (s₁.setTop (mkF m 19 #[.val (.int p1), .val (.int p2), .val (.int p3), .val (.int p4), .val (.int p5), .val (.int p6), .val (.int i8), .val (.long j14), .second, .unset, .unset, .unset, .unset, .unset, .unset, .unset, .unset, .unset, .unset, .unset, .unset, .unset, .unset, .unset, .unset, .unset, .unset, .unset, .unset, .unset, .unset, .unset, .unset, .unset, .unset, .unset] [(.int p3), (.int (1 : Int32))]))
  obtain ⟨j19, hj19⟩ : ∃ z : Int64, p3.toInt64 = z := ⟨_, rfl⟩
  refine Go.step (fun t k => i2l_v X0.here hx rfl (hb hby at_19) rfl hj19 k) ?_
  show Go p.tables e below P (s₁.setTop (mkF m 20 #[.val (.int p1), .val (.int p2), .val (.int p3), .val (.int p4), .val (.int p5), .val (.int p6), .val (.int i8), .val (.long j14), .second, .unset, .unset, .unset, .unset, .unset, .unset, .unset, .unset, .unset, .unset, .unset, .unset, .unset, .unset, .unset, .unset, .unset, .unset, .unset, .unset, .unset, .unset, .unset, .unset, .unset, .unset, .unset] [(.long j19), (.int (1 : Int32))]))
  refine Go.step (fun t k => X0.ldc2Long hx hown (mvT hZ (hw _ (List.mem_of_getElem? (i := 1) rfl))) (g := (mkF m 20 #[.val (.int p1), .val (.int p2), .val (.int p3), .val (.int p4), .val (.int p5), .val (.int p6), .val (.int i8), .val (.long j14), .second, .unset, .unset, .unset, .unset, .unset, .unset, .unset, .unset, .unset, .unset, .unset, .unset, .unset, .unset, .unset, .unset, .unset, .unset, .unset, .unset, .unset, .unset, .unset, .unset, .unset, .unset, .unset] [(.long j19), (.int (1 : Int32))])) rfl (hb hby at_20) t k) ?_
  show Go p.tables e below P (s₁.setTop (mkF m 23 #[.val (.int p1), .val (.int p2), .val (.int p3), .val (.int p4), .val (.int p5), .val (.int p6), .val (.int i8), .val (.long j14), .second, .unset, .unset, .unset, .unset, .unset, .unset, .unset, .unset, .unset, .unset, .unset, .unset, .unset, .unset, .unset, .unset, .unset, .unset, .unset, .unset, .unset, .unset, .unset, .unset, .unset, .unset, .unset] [(.long (2147483647 : Int64)), (.long j19), (.int (1 : Int32))]))
  obtain ⟨j23, hj23⟩ : ∃ z : Int64, j19 &&& (2147483647 : Int64) = z := ⟨_, rfl⟩
  refine Go.step (fun t k => land_v X0.here hx rfl (hb hby at_23) rfl  hj23 k) ?_
  show Go p.tables e below P (s₁.setTop (mkF m 24 #[.val (.int p1), .val (.int p2), .val (.int p3), .val (.int p4), .val (.int p5), .val (.int p6), .val (.int i8), .val (.long j14), .second, .unset, .unset, .unset, .unset, .unset, .unset, .unset, .unset, .unset, .unset, .unset, .unset, .unset, .unset, .unset, .unset, .unset, .unset, .unset, .unset, .unset, .unset, .unset, .unset, .unset, .unset, .unset] [(.long j23), (.int (1 : Int32))]))
  refine Go.step (fun t k => XS.lload X0.here hx rfl (hb hby at_24) rfl  k) ?_
  show Go p.tables e below P (s₁.setTop (mkF m 26 #[.val (.int p1), .val (.int p2), .val (.int p3), .val (.int p4), .val (.int p5), .val (.int p6), .val (.int i8), .val (.long j14), .second, .unset, .unset, .unset, .unset, .unset, .unset, .unset, .unset, .unset, .unset, .unset, .unset, .unset, .unset, .unset, .unset, .unset, .unset, .unset, .unset, .unset, .unset, .unset, .unset, .unset, .unset, .unset] [(.long j14), (.long j23), (.int (1 : Int32))]))
  refine Go.step (fun t k => XS.lconst X0.here hx rfl (hb hby at_26) k) ?_
  show Go p.tables e below P (s₁.setTop (mkF m 27 #[.val (.int p1), .val (.int p2), .val (.int p3), .val (.int p4), .val (.int p5), .val (.int p6), .val (.int i8), .val (.long j14), .second, .unset, .unset, .unset, .unset, .unset, .unset, .unset, .unset, .unset, .unset, .unset, .unset, .unset, .unset, .unset, .unset, .unset, .unset, .unset, .unset, .unset, .unset, .unset, .unset, .unset, .unset, .unset] [(.long (1 : Int64)), (.long j14), (.long j23), (.int (1 : Int32))]))
  obtain ⟨j27, hj27⟩ : ∃ z : Int64, j14 - (1 : Int64) = z := ⟨_, rfl⟩
  refine Go.step (fun t k => lsub_v X0.here hx rfl (hb hby at_27) rfl  hj27 k) ?_
  show Go p.tables e below P (s₁.setTop (mkF m 28 #[.val (.int p1), .val (.int p2), .val (.int p3), .val (.int p4), .val (.int p5), .val (.int p6), .val (.int i8), .val (.long j14), .second, .unset, .unset, .unset, .unset, .unset, .unset, .unset, .unset, .unset, .unset, .unset, .unset, .unset, .unset, .unset, .unset, .unset, .unset, .unset, .unset, .unset, .unset, .unset, .unset, .unset, .unset, .unset] [(.long j27), (.long j23), (.int (1 : Int32))]))
  have f19 := c_i2l p3; rw [hj19] at f19
  have f23 := c_maskL j19 (2147483647 : Int64) 31 (by decide) rfl; rw [hj23] at f23
  have f27 := c_lsub j14 (1 : Int64); rw [hj27, E1] at f27
  have g27 := rng64 j27
  have v27 : j27.toInt = j14.toInt - 1 := by omega
  have nz27 : ¬ j27 = 0 := fun q => by rw [q] at v27; have : (0 : Int64).toInt = 0 := rfl; omega
  obtain ⟨j28, hj28⟩ : ∃ z : Int64, j23 % j27 = z := ⟨_, rfl⟩
  refine Go.step (fun t k => lrem_v X0.here hx rfl (hb hby at_28) rfl nz27 hj28 k) ?_
  show Go p.tables e below P (s₁.setTop (mkF m 29 #[.val (.int p1), .val (.int p2), .val (.int p3), .val (.int p4), .val (.int p5), .val (.int p6), .val (.int i8), .val (.long j14), .second, .unset, .unset, .unset, .unset, .unset, .unset, .unset, .unset, .unset, .unset, .unset, .unset, .unset, .unset, .unset, .unset, .unset, .unset, .unset, .unset, .unset, .unset, .unset, .unset, .unset, .unset, .unset] [(.long j28), (.int (1 : Int32))]))
  have f28 : j28.toInt = j23.toInt % (j14.toInt - 1) := by rw [← hj28, Int64.toInt_mod, v27]; exact Int.tmod_eq_emod_of_nonneg (by omega)
  have l28 := Int.emod_nonneg j23.toInt (show j14.toInt - 1 ≠ 0 by omega)
  have u28 := Int.emod_lt_of_pos j23.toInt (show 0 < j14.toInt - 1 by omega)
  obtain ⟨i29, hi29⟩ : ∃ z : Int32, j28.toInt32 = z := ⟨_, rfl⟩
  refine Go.step (fun t k => l2i_v X0.here hx rfl (hb hby at_29) rfl hi29 k) ?_
  show Go p.tables e below P (s₁.setTop (mkF m 30 #[.val (.int p1), .val (.int p2), .val (.int p3), .val (.int p4), .val (.int p5), .val (.int p6), .val (.int i8), .val (.long j14), .second, .unset, .unset, .unset, .unset, .unset, .unset, .unset, .unset, .unset, .unset, .unset, .unset, .unset, .unset, .unset, .unset, .unset, .unset, .unset, .unset, .unset, .unset, .unset, .unset, .unset, .unset, .unset] [(.int i29), (.int (1 : Int32))]))
  obtain ⟨i30, hi30⟩ : ∃ z : Int32, (1 : Int32) + i29 = z := ⟨_, rfl⟩
  refine Go.step (fun t k => iadd_v X0.here hx rfl (hb hby at_30) rfl  hi30 k) ?_
  show Go p.tables e below P (s₁.setTop (mkF m 31 #[.val (.int p1), .val (.int p2), .val (.int p3), .val (.int p4), .val (.int p5), .val (.int p6), .val (.int i8), .val (.long j14), .second, .unset, .unset, .unset, .unset, .unset, .unset, .unset, .unset, .unset, .unset, .unset, .unset, .unset, .unset, .unset, .unset, .unset, .unset, .unset, .unset, .unset, .unset, .unset, .unset, .unset, .unset, .unset] [(.int i30)]))
  have f29 := c_l2i j28; rw [hi29] at f29
  have g29 := rng32 i29
  have f30 := c_iadd (1 : Int32) i29; rw [hi30, e1] at f30
  have g30 := rng32 i30
  have b30 : 1 ≤ i30.toInt ∧ i30.toInt ≤ j14.toInt - 1 := by omega
  clear f19 f23 f27 f28 l28 u28 f29 f30
  refine Go.step (fun t k => XS.istore X0.here hx rfl (hb hby at_31) rfl (l' := #[.val (.int p1), .val (.int p2), .val (.int p3), .val (.int p4), .val (.int p5), .val (.int p6), .val (.int i8), .val (.long j14), .second, .val (.int i30), .unset, .unset, .unset, .unset, .unset, .unset, .unset, .unset, .unset, .unset, .unset, .unset, .unset, .unset, .unset, .unset, .unset, .unset, .unset, .unset, .unset, .unset, .unset, .unset, .unset, .unset]) rfl k) ?_
  show Go p.tables e below P (s₁.setTop (mkF m 33 #[.val (.int p1), .val (.int p2), .val (.int p3), .val (.int p4), .val (.int p5), .val (.int p6), .val (.int i8), .val (.long j14), .second, .val (.int i30), .unset, .unset, .unset, .unset, .unset, .unset, .unset, .unset, .unset, .unset, .unset, .unset, .unset, .unset, .unset, .unset, .unset, .unset, .unset, .unset, .unset, .unset, .unset, .unset, .unset, .unset] []))
  refine Go.step (fun t k => XS.lload X0.here hx rfl (hb hby at_33) rfl  k) ?_
  show Go p.tables e below P (s₁.setTop (mkF m 35 #[.val (.int p1), .val (.int p2), .val (.int p3), .val (.int p4), .val (.int p5), .val (.int p6), .val (.int i8), .val (.long j14), .second, .val (.int i30), .unset, .unset, .unset, .unset, .unset, .unset, .unset, .unset, .unset, .unset, .unset, .unset, .unset, .unset, .unset, .unset, .unset, .unset, .unset, .unset, .unset, .unset, .unset, .unset, .unset, .unset] [(.long j14)]))
  refine Go.step (fun t k => XS.iload X0.here hx rfl (hb hby at_35) rfl  k) ?_
  show Go p.tables e below P (s₁.setTop (mkF m 37 #[.val (.int p1), .val (.int p2), .val (.int p3), .val (.int p4), .val (.int p5), .val (.int p6), .val (.int i8), .val (.long j14), .second, .val (.int i30), .unset, .unset, .unset, .unset, .unset, .unset, .unset, .unset, .unset, .unset, .unset, .unset, .unset, .unset, .unset, .unset, .unset, .unset, .unset, .unset, .unset, .unset, .unset, .unset, .unset, .unset] [(.int i30), (.long j14)]))
  obtain ⟨j37, hj37⟩ : ∃ z : Int64, i30.toInt64 = z := ⟨_, rfl⟩
  refine Go.step (fun t k => i2l_v X0.here hx rfl (hb hby at_37) rfl hj37 k) ?_
  show Go p.tables e below P (s₁.setTop (mkF m 38 #[.val (.int p1), .val (.int p2), .val (.int p3), .val (.int p4), .val (.int p5), .val (.int p6), .val (.int i8), .val (.long j14), .second, .val (.int i30), .unset, .unset, .unset, .unset, .unset, .unset, .unset, .unset, .unset, .unset, .unset, .unset, .unset, .unset, .unset, .unset, .unset, .unset, .unset, .unset, .unset, .unset, .unset, .unset, .unset, .unset] [(.long j37), (.long j14)]))
  obtain ⟨j38, hj38⟩ : ∃ z : Int64, j14 - j37 = z := ⟨_, rfl⟩
  refine Go.step (fun t k => lsub_v X0.here hx rfl (hb hby at_38) rfl  hj38 k) ?_
  show Go p.tables e below P (s₁.setTop (mkF m 39 #[.val (.int p1), .val (.int p2), .val (.int p3), .val (.int p4), .val (.int p5), .val (.int p6), .val (.int i8), .val (.long j14), .second, .val (.int i30), .unset, .unset, .unset, .unset, .unset, .unset, .unset, .unset, .unset, .unset, .unset, .unset, .unset, .unset, .unset, .unset, .unset, .unset, .unset, .unset, .unset, .unset, .unset, .unset, .unset, .unset] [(.long j38)]))
  obtain ⟨i39, hi39⟩ : ∃ z : Int32, j38.toInt32 = z := ⟨_, rfl⟩
  refine Go.step (fun t k => l2i_v X0.here hx rfl (hb hby at_39) rfl hi39 k) ?_
  show Go p.tables e below P (s₁.setTop (mkF m 40 #[.val (.int p1), .val (.int p2), .val (.int p3), .val (.int p4), .val (.int p5), .val (.int p6), .val (.int i8), .val (.long j14), .second, .val (.int i30), .unset, .unset, .unset, .unset, .unset, .unset, .unset, .unset, .unset, .unset, .unset, .unset, .unset, .unset, .unset, .unset, .unset, .unset, .unset, .unset, .unset, .unset, .unset, .unset, .unset, .unset] [(.int i39)]))
  have f37 := c_i2l i30; rw [hj37] at f37
  have f38 := c_lsub j14 j37; rw [hj38] at f38
  have g38 := rng64 j38
  have f39 := c_l2i j38; rw [hi39] at f39
  have g39 := rng32 i39
  have v39 : i39.toInt = j14.toInt - i30.toInt := by omega
  clear f37 f38 f39
  refine Go.step (fun t k => XS.istore X0.here hx rfl (hb hby at_40) rfl (l' := #[.val (.int p1), .val (.int p2), .val (.int p3), .val (.int p4), .val (.int p5), .val (.int p6), .val (.int i8), .val (.long j14), .second, .val (.int i30), .val (.int i39), .unset, .unset, .unset, .unset, .unset, .unset, .unset, .unset, .unset, .unset, .unset, .unset, .unset, .unset, .unset, .unset, .unset, .unset, .unset, .unset, .unset, .unset, .unset, .unset, .unset]) rfl k) ?_
  show Go p.tables e below P (s₁.setTop (mkF m 42 #[.val (.int p1), .val (.int p2), .val (.int p3), .val (.int p4), .val (.int p5), .val (.int p6), .val (.int i8), .val (.long j14), .second, .val (.int i30), .val (.int i39), .unset, .unset, .unset, .unset, .unset, .unset, .unset, .unset, .unset, .unset, .unset, .unset, .unset, .unset, .unset, .unset, .unset, .unset, .unset, .unset, .unset, .unset, .unset, .unset, .unset] []))
  refine Go.step (fun t k => XS.iloadN X0.here hx rfl (hb hby at_42) rfl  k) ?_
  show Go p.tables e below P (s₁.setTop (mkF m 43 #[.val (.int p1), .val (.int p2), .val (.int p3), .val (.int p4), .val (.int p5), .val (.int p6), .val (.int i8), .val (.long j14), .second, .val (.int i30), .val (.int i39), .unset, .unset, .unset, .unset, .unset, .unset, .unset, .unset, .unset, .unset, .unset, .unset, .unset, .unset, .unset, .unset, .unset, .unset, .unset, .unset, .unset, .unset, .unset, .unset, .unset] [(.int p1)]))
  refine Go.step (fun t k => X0.ldcInt hx hown (mvT hZ (hw _ (List.mem_of_getElem? (i := 0) rfl))) (g := (mkF m 43 #[.val (.int p1), .val (.int p2), .val (.int p3), .val (.int p4), .val (.int p5), .val (.int p6), .val (.int i8), .val (.long j14), .second, .val (.int i30), .val (.int i39), .unset, .unset, .unset, .unset, .unset, .unset, .unset, .unset, .unset, .unset, .unset, .unset, .unset, .unset, .unset, .unset, .unset, .unset, .unset, .unset, .unset, .unset, .unset, .unset, .unset] [(.int p1)])) rfl (hb hby at_43) t k) ?_
  show Go p.tables e below P (s₁.setTop (mkF m 45 #[.val (.int p1), .val (.int p2), .val (.int p3), .val (.int p4), .val (.int p5), .val (.int p6), .val (.int i8), .val (.long j14), .second, .val (.int i30), .val (.int i39), .unset, .unset, .unset, .unset, .unset, .unset, .unset, .unset, .unset, .unset, .unset, .unset, .unset, .unset, .unset, .unset, .unset, .unset, .unset, .unset, .unset, .unset, .unset, .unset, .unset] [(.int (2147483647 : Int32)), (.int p1)]))
  obtain ⟨i45, hi45⟩ : ∃ z : Int32, p1 &&& (2147483647 : Int32) = z := ⟨_, rfl⟩
  refine Go.step (fun t k => iand_v X0.here hx rfl (hb hby at_45) rfl  hi45 k) ?_
  show Go p.tables e below P (s₁.setTop (mkF m 46 #[.val (.int p1), .val (.int p2), .val (.int p3), .val (.int p4), .val (.int p5), .val (.int p6), .val (.int i8), .val (.long j14), .second, .val (.int i30), .val (.int i39), .unset, .unset, .unset, .unset, .unset, .unset, .unset, .unset, .unset, .unset, .unset, .unset, .unset, .unset, .unset, .unset, .unset, .unset, .unset, .unset, .unset, .unset, .unset, .unset, .unset] [(.int i45)]))
  refine Go.step (fun t k => XS.istore X0.here hx rfl (hb hby at_46) rfl (l' := #[.val (.int p1), .val (.int p2), .val (.int p3), .val (.int p4), .val (.int p5), .val (.int p6), .val (.int i8), .val (.long j14), .second, .val (.int i30), .val (.int i39), .val (.int i45), .unset, .unset, .unset, .unset, .unset, .unset, .unset, .unset, .unset, .unset, .unset, .unset, .unset, .unset, .unset, .unset, .unset, .unset, .unset, .unset, .unset, .unset, .unset, .unset]) rfl k) ?_
  show Go p.tables e below P (s₁.setTop (mkF m 48 #[.val (.int p1), .val (.int p2), .val (.int p3), .val (.int p4), .val (.int p5), .val (.int p6), .val (.int i8), .val (.long j14), .second, .val (.int i30), .val (.int i39), .val (.int i45), .unset, .unset, .unset, .unset, .unset, .unset, .unset, .unset, .unset, .unset, .unset, .unset, .unset, .unset, .unset, .unset, .unset, .unset, .unset, .unset, .unset, .unset, .unset, .unset] []))
  refine Go.step (fun t k => XS.iconst X0.here hx rfl (hb hby at_48) k) ?_
  show Go p.tables e below P (s₁.setTop (mkF m 49 #[.val (.int p1), .val (.int p2), .val (.int p3), .val (.int p4), .val (.int p5), .val (.int p6), .val (.int i8), .val (.long j14), .second, .val (.int i30), .val (.int i39), .val (.int i45), .unset, .unset, .unset, .unset, .unset, .unset, .unset, .unset, .unset, .unset, .unset, .unset, .unset, .unset, .unset, .unset, .unset, .unset, .unset, .unset, .unset, .unset, .unset, .unset] [(.int (1 : Int32))]))
  refine Go.step (fun t k => XS.iloadN X0.here hx rfl (hb hby at_49) rfl  k) ?_
  show Go p.tables e below P (s₁.setTop (mkF m 50 #[.val (.int p1), .val (.int p2), .val (.int p3), .val (.int p4), .val (.int p5), .val (.int p6), .val (.int i8), .val (.long j14), .second, .val (.int i30), .val (.int i39), .val (.int i45), .unset, .unset, .unset, .unset, .unset, .unset, .unset, .unset, .unset, .unset, .unset, .unset, .unset, .unset, .unset, .unset, .unset, .unset, .unset, .unset, .unset, .unset, .unset, .unset] [(.int p4), (.int (1 : Int32))]))
  refine Go.step (fun t k => X0.ldcInt hx hown (mvT hZ (hw _ (List.mem_of_getElem? (i := 0) rfl))) (g := (mkF m 50 #[.val (.int p1), .val (.int p2), .val (.int p3), .val (.int p4), .val (.int p5), .val (.int p6), .val (.int i8), .val (.long j14), .second, .val (.int i30), .val (.int i39), .val (.int i45), .unset, .unset, .unset, .unset, .unset, .unset, .unset, .unset, .unset, .unset, .unset, .unset, .unset, .unset, .unset, .unset, .unset, .unset, .unset, .unset, .unset, .unset, .unset, .unset] [(.int p4), (.int (1 : Int32))])) rfl (hb hby at_50) t k) ?_
  show Go p.tables e below P (s₁.setTop (mkF m 52 #[.val (.int p1), .val (.int p2), .val (.int p3), .val (.int p4), .val (.int p5), .val (.int p6), .val (.int i8), .val (.long j14), .second, .val (.int i30), .val (.int i39), .val (.int i45), .unset, .unset, .unset, .unset, .unset, .unset, .unset, .unset, .unset, .unset, .unset, .unset, .unset, .unset, .unset, .unset, .unset, .unset, .unset, .unset, .unset, .unset, .unset, .unset] [(.int (2147483647 : Int32)), (.int p4), (.int (1 : Int32))]))
  obtain ⟨i52, hi52⟩ : ∃ z : Int32, p4 &&& (2147483647 : Int32) = z := ⟨_, rfl⟩
  refine Go.step (fun t k => iand_v X0.here hx rfl (hb hby at_52) rfl  hi52 k) ?_
  show Go p.tables e below P (s₁.setTop (mkF m 53 #[.val (.int p1), .val (.int p2), .val (.int p3), .val (.int p4), .val (.int p5), .val (.int p6), .val (.int i8), .val (.long j14), .second, .val (.int i30), .val (.int i39), .val (.int i45), .unset, .unset, .unset, .unset, .unset, .unset, .unset, .unset, .unset, .unset, .unset, .unset, .unset, .unset, .unset, .unset, .unset, .unset, .unset, .unset, .unset, .unset, .unset, .unset] [(.int i52), (.int (1 : Int32))]))
  refine Go.step (fun t k => XS.sipush X0.here hx rfl (hb hby at_53) k) ?_
  show Go p.tables e below P (s₁.setTop (mkF m 56 #[.val (.int p1), .val (.int p2), .val (.int p3), .val (.int p4), .val (.int p5), .val (.int p6), .val (.int i8), .val (.long j14), .second, .val (.int i30), .val (.int i39), .val (.int i45), .unset, .unset, .unset, .unset, .unset, .unset, .unset, .unset, .unset, .unset, .unset, .unset, .unset, .unset, .unset, .unset, .unset, .unset, .unset, .unset, .unset, .unset, .unset, .unset] [(.int (1024 : Int32)), (.int i52), (.int (1 : Int32))]))
  obtain ⟨i56, hi56⟩ : ∃ z : Int32, i52 % (1024 : Int32) = z := ⟨_, rfl⟩
  refine Go.step (fun t k => irem_v X0.here hx rfl (hb hby at_56) rfl (by decide) hi56 k) ?_
  show Go p.tables e below P (s₁.setTop (mkF m 57 #[.val (.int p1), .val (.int p2), .val (.int p3), .val (.int p4), .val (.int p5), .val (.int p6), .val (.int i8), .val (.long j14), .second, .val (.int i30), .val (.int i39), .val (.int i45), .unset, .unset, .unset, .unset, .unset, .unset, .unset, .unset, .unset, .unset, .unset, .unset, .unset, .unset, .unset, .unset, .unset, .unset, .unset, .unset, .unset, .unset, .unset, .unset] [(.int i56), (.int (1 : Int32))]))
  obtain ⟨i57, hi57⟩ : ∃ z : Int32, (1 : Int32) + i56 = z := ⟨_, rfl⟩
  refine Go.step (fun t k => iadd_v X0.here hx rfl (hb hby at_57) rfl  hi57 k) ?_
  show Go p.tables e below P (s₁.setTop (mkF m 58 #[.val (.int p1), .val (.int p2), .val (.int p3), .val (.int p4), .val (.int p5), .val (.int p6), .val (.int i8), .val (.long j14), .second, .val (.int i30), .val (.int i39), .val (.int i45), .unset, .unset, .unset, .unset, .unset, .unset, .unset, .unset, .unset, .unset, .unset, .unset, .unset, .unset, .unset, .unset, .unset, .unset, .unset, .unset, .unset, .unset, .unset, .unset] [(.int i57)]))
  refine Go.step (fun t k => XS.istore X0.here hx rfl (hb hby at_58) rfl (l' := #[.val (.int p1), .val (.int p2), .val (.int p3), .val (.int p4), .val (.int p5), .val (.int p6), .val (.int i8), .val (.long j14), .second, .val (.int i30), .val (.int i39), .val (.int i45), .val (.int i57), .unset, .unset, .unset, .unset, .unset, .unset, .unset, .unset, .unset, .unset, .unset, .unset, .unset, .unset, .unset, .unset, .unset, .unset, .unset, .unset, .unset, .unset, .unset]) rfl k) ?_
  show Go p.tables e below P (s₁.setTop (mkF m 60 #[.val (.int p1), .val (.int p2), .val (.int p3), .val (.int p4), .val (.int p5), .val (.int p6), .val (.int i8), .val (.long j14), .second, .val (.int i30), .val (.int i39), .val (.int i45), .val (.int i57), .unset, .unset, .unset, .unset, .unset, .unset, .unset, .unset, .unset, .unset, .unset, .unset, .unset, .unset, .unset, .unset, .unset, .unset, .unset, .unset, .unset, .unset, .unset] []))
  have f45 := c_mask p1 (2147483647 : Int32) 31 (by decide) rfl; rw [hi45] at f45
  have b45 : 0 ≤ i45.toInt ∧ i45.toInt < 2147483648 := by omega
  have f52 := c_mask p4 (2147483647 : Int32) 31 (by decide) rfl; rw [hi52] at f52
  have f56 := c_irem i52 (1024 : Int32) 1024 rfl; rw [hi56] at f56
  have f56' := f56.1 (by omega)
  have f57 := c_iadd (1 : Int32) i56; rw [hi57, e1] at f57
  have g57 := rng32 i57
  have b57 : 1 ≤ i57.toInt ∧ i57.toInt ≤ 1024 := by omega
  clear f45 f52 f56 f56' f57
  refine Go.step (fun t k => XS.iload X0.here hx rfl (hb hby at_60) rfl  k) ?_
  show Go p.tables e below P (s₁.setTop (mkF m 62 #[.val (.int p1), .val (.int p2), .val (.int p3), .val (.int p4), .val (.int p5), .val (.int p6), .val (.int i8), .val (.long j14), .second, .val (.int i30), .val (.int i39), .val (.int i45), .val (.int i57), .unset, .unset, .unset, .unset, .unset, .unset, .unset, .unset, .unset, .unset, .unset, .unset, .unset, .unset, .unset, .unset, .unset, .unset, .unset, .unset, .unset, .unset, .unset] [(.int i57)]))
  obtain ⟨dc, hdc⟩ : ∃ z : UInt64, FP.i2d i57 = z := ⟨_, rfl⟩
  refine Go.step (fun t k => XS.i2dS X0.here hx rfl (hb hby at_62) rfl hdc k) ?_
  show Go p.tables e below P (s₁.setTop (mkF m 63 #[.val (.int p1), .val (.int p2), .val (.int p3), .val (.int p4), .val (.int p5), .val (.int p6), .val (.int i8), .val (.long j14), .second, .val (.int i30), .val (.int i39), .val (.int i45), .val (.int i57), .unset, .unset, .unset, .unset, .unset, .unset, .unset, .unset, .unset, .unset, .unset, .unset, .unset, .unset, .unset, .unset, .unset, .unset, .unset, .unset, .unset, .unset, .unset] [(.double dc)]))
  have qc := i2d_e i57; rw [hdc] at qc
  have qk : DE 1084 1 (4652218415073722368 : UInt64) := DE.of ⟨_, _, _, rfl⟩ (by decide +kernel)
  refine Go.step (fun t k => X0.ldc2DoubleC hx hown (mvT hZ (hw _ (List.mem_of_getElem? (i := 2) rfl))) (g := (mkF m 63 #[.val (.int p1), .val (.int p2), .val (.int p3), .val (.int p4), .val (.int p5), .val (.int p6), .val (.int i8), .val (.long j14), .second, .val (.int i30), .val (.int i39), .val (.int i45), .val (.int i57), .unset, .unset, .unset, .unset, .unset, .unset, .unset, .unset, .unset, .unset, .unset, .unset, .unset, .unset, .unset, .unset, .unset, .unset, .unset, .unset, .unset, .unset, .unset] [(.double dc)])) rfl (hb hby at_63) t k) ?_
  show Go p.tables e below P (s₁.setTop (mkF m 66 #[.val (.int p1), .val (.int p2), .val (.int p3), .val (.int p4), .val (.int p5), .val (.int p6), .val (.int i8), .val (.long j14), .second, .val (.int i30), .val (.int i39), .val (.int i45), .val (.int i57), .unset, .unset, .unset, .unset, .unset, .unset, .unset, .unset, .unset, .unset, .unset, .unset, .unset, .unset, .unset, .unset, .unset, .unset, .unset, .unset, .unset, .unset, .unset] [(.double (4652218415073722368 : UInt64)), (.double dc)]))
  obtain ⟨co, hco⟩ : ∃ z : UInt64, FP.ddiv dc (4652218415073722368 : UInt64) = z := ⟨_, rfl⟩
  have qco := div_e (k := 1064) (n := i57.toInt) qc qk (by decide) rfl (Int.mul_one _) (by omega) (by decide)
  rw [hco] at qco
  refine Go.step (fun t k => XS.ddivS X0.here hx rfl (hb hby at_66) rfl (hco ▸ qco.nn) hco k) ?_
  show Go p.tables e below P (s₁.setTop (mkF m 67 #[.val (.int p1), .val (.int p2), .val (.int p3), .val (.int p4), .val (.int p5), .val (.int p6), .val (.int i8), .val (.long j14), .second, .val (.int i30), .val (.int i39), .val (.int i45), .val (.int i57), .unset, .unset, .unset, .unset, .unset, .unset, .unset, .unset, .unset, .unset, .unset, .unset, .unset, .unset, .unset, .unset, .unset, .unset, .unset, .unset, .unset, .unset, .unset] [(.double co)]))
  refine Go.step (fun t k => XS.dstore X0.here hx rfl (hb hby at_67) rfl (l' := #[.val (.int p1), .val (.int p2), .val (.int p3), .val (.int p4), .val (.int p5), .val (.int p6), .val (.int i8), .val (.long j14), .second, .val (.int i30), .val (.int i39), .val (.int i45), .val (.int i57), .val (.double co), .second, .unset, .unset, .unset, .unset, .unset, .unset, .unset, .unset, .unset, .unset, .unset, .unset, .unset, .unset, .unset, .unset, .unset, .unset, .unset, .unset, .unset]) rfl k) ?_
  show Go p.tables e below P (s₁.setTop (mkF m 69 #[.val (.int p1), .val (.int p2), .val (.int p3), .val (.int p4), .val (.int p5), .val (.int p6), .val (.int i8), .val (.long j14), .second, .val (.int i30), .val (.int i39), .val (.int i45), .val (.int i57), .val (.double co), .second, .unset, .unset, .unset, .unset, .unset, .unset, .unset, .unset, .unset, .unset, .unset, .unset, .unset, .unset, .unset, .unset, .unset, .unset, .unset, .unset, .unset] []))
  obtain ⟨T_1, h_1, X_1, e_1, E_1, A_1, D_1, -, st_1⟩ := newO X0 hx hZ hown (hw _ (List.mem_of_getElem? (i := 3) rfl)) (hw _ (List.mem_of_getElem? (i := 4) rfl)) (hw _ (List.mem_of_getElem? (i := 5) rfl)) e0 (g := (mkF m 69 #[.val (.int p1), .val (.int p2), .val (.int p3), .val (.int p4), .val (.int p5), .val (.int p6), .val (.int i8), .val (.long j14), .second, .val (.int i30), .val (.int i39), .val (.int i45), .val (.int i57), .val (.double co), .second, .unset, .unset, .unset, .unset, .unset, .unset, .unset, .unset, .unset, .unset, .unset, .unset, .unset, .unset, .unset, .unset, .unset, .unset, .unset, .unset, .unset] [])) rfl (hb hby at_69) (by decide) (by decide)
  obtain ⟨b_1, g_1⟩ : ∃ z, z = h0.size := ⟨_, rfl⟩
  rw [← g_1] at A_1 D_1 st_1
  have g_b_1 : n0 ≤ b_1 := Nat.le_trans Z0 (Nat.le_of_eq g_1.symm)
  have sz_b_1 : h0.size ≤ b_1 := Nat.le_trans (Keep.refl h0 []).1 (Nat.le_of_eq g_1.symm)
  have F_mu_b_1 : Fld Z h_1 b_1 "com/example/eliteness/eliteness/ranking/Smoothing$Dirichlet" "mu" "D" (.double (0 : UInt64)) := D_1 (Or.inr (hw _ (List.mem_of_getElem? (i := 19) rfl))) (ty := .double) (by decide)
  have K_1 : Keep h0 h_1 [] := (Keep.refl h0 []).ext E_1
  have Z_1 : n0 ≤ h_1.size := Nat.le_trans Z0 E_1.1
  refine Go.step (fun t k => st_1 t k) ?_
  show Go p.tables e below P (T_1.setTop (mkF m 72 #[.val (.int p1), .val (.int p2), .val (.int p3), .val (.int p4), .val (.int p5), .val (.int p6), .val (.int i8), .val (.long j14), .second, .val (.int i30), .val (.int i39), .val (.int i45), .val (.int i57), .val (.double co), .second, .unset, .unset, .unset, .unset, .unset, .unset, .unset, .unset, .unset, .unset, .unset, .unset, .unset, .unset, .unset, .unset, .unset, .unset, .unset, .unset, .unset] [(.ref b_1)]))
  refine Go.step (fun t k => XS.dup X_1.here hx rfl (hb hby at_72) rfl rfl k) ?_
  show Go p.tables e below P (T_1.setTop (mkF m 73 #[.val (.int p1), .val (.int p2), .val (.int p3), .val (.int p4), .val (.int p5), .val (.int p6), .val (.int i8), .val (.long j14), .second, .val (.int i30), .val (.int i39), .val (.int i45), .val (.int i57), .val (.double co), .second, .unset, .unset, .unset, .unset, .unset, .unset, .unset, .unset, .unset, .unset, .unset, .unset, .unset, .unset, .unset, .unset, .unset, .unset, .unset, .unset, .unset] [(.ref b_1), (.ref b_1)]))
  refine Go.step (fun t k => XS.iload X_1.here hx rfl (hb hby at_73) rfl  k) ?_
  show Go p.tables e below P (T_1.setTop (mkF m 75 #[.val (.int p1), .val (.int p2), .val (.int p3), .val (.int p4), .val (.int p5), .val (.int p6), .val (.int i8), .val (.long j14), .second, .val (.int i30), .val (.int i39), .val (.int i45), .val (.int i57), .val (.double co), .second, .unset, .unset, .unset, .unset, .unset, .unset, .unset, .unset, .unset, .unset, .unset, .unset, .unset, .unset, .unset, .unset, .unset, .unset, .unset, .unset, .unset] [(.int i30), (.ref b_1), (.ref b_1)]))
  obtain ⟨dm, hdm⟩ : ∃ z : UInt64, FP.i2d i30 = z := ⟨_, rfl⟩
  refine Go.step (fun t k => XS.i2dS X_1.here hx rfl (hb hby at_75) rfl hdm k) ?_
  show Go p.tables e below P (T_1.setTop (mkF m 76 #[.val (.int p1), .val (.int p2), .val (.int p3), .val (.int p4), .val (.int p5), .val (.int p6), .val (.int i8), .val (.long j14), .second, .val (.int i30), .val (.int i39), .val (.int i45), .val (.int i57), .val (.double co), .second, .unset, .unset, .unset, .unset, .unset, .unset, .unset, .unset, .unset, .unset, .unset, .unset, .unset, .unset, .unset, .unset, .unset, .unset, .unset, .unset, .unset] [(.double dm), (.ref b_1), (.ref b_1)]))
  have qm := i2d_e i30; rw [hdm] at qm
  obtain ⟨_, _, ⟨T_2, L_2, k_2, n_2⟩, -, X_2, ⟨Lc_2, hQ_2, l_2, y_2, z_2⟩, st_2⟩ := X_1.specialBack hx (y := (⟨"com/example/eliteness/eliteness/ranking/Smoothing$Dirichlet", "<init>", "(D)V"⟩ : MethodName)) rfl hown (mvT hZ (hw _ (List.mem_of_getElem? (i := 6) rfl))) (mvT hZ (hw _ (List.mem_of_getElem? (i := 7) rfl))) (mvT hZ (hw _ (List.mem_of_getElem? (i := 8) rfl))) (by decide) (backOf (W := 1) (rm2 l Z a0 hw [] b_1 dm h_1 n0 Z_1 A_1 F_mu_b_1 g_b_1 1074 i30.toInt qm (by omega)) hZ (hw _ (List.mem_of_getElem? (i := 8) rfl)) (hw _ (List.mem_of_getElem? (i := 5) rfl)) (by decide) (by decide)) (g := (mkF m 76 #[.val (.int p1), .val (.int p2), .val (.int p3), .val (.int p4), .val (.int p5), .val (.int p6), .val (.int i8), .val (.long j14), .second, .val (.int i30), .val (.int i39), .val (.int i45), .val (.int i57), .val (.double co), .second, .unset, .unset, .unset, .unset, .unset, .unset, .unset, .unset, .unset, .unset, .unset, .unset, .unset, .unset, .unset, .unset, .unset, .unset, .unset, .unset, .unset] [(.double dm), (.ref b_1), (.ref b_1)])) rfl (by rw [hml]; rfl) (Steps.refl _) (a := b_1) (argsL := [(.double dm)]) (rest := [(.ref b_1)]) (lenOf pd_1 rfl) rfl (by show 2 * 0 + _ ≤ _; exact Nat.le_of_eq rfl) (hb hby at_76) (fun _ _ => ⟨rfl, e_1, (by decide : 1 + 0 ≤ _), (by decide : 1 + 0 ≤ _)⟩)
  dsimp only [Pt.U, Pt.locs, Pt.cells, Pt.slots] at X_2 l_2 y_2 z_2 st_2 hQ_2
  subst l_2 y_2 z_2
  obtain ⟨rfl, N_2q, Kc_2, Ee_2, Ff_mu__2⟩ := hQ_2
  have N_2 := Fr.app N0 N_2q
  have K_2 : Keep h0 T_2.heap [] := K_1.trans Kc_2 (allS (Or.inr sz_b_1) all0)
  have Z_2 : n0 ≤ T_2.heap.size := Nat.le_trans Z_1 Kc_2.1
  refine Go.tr st_2 ?_
  show Go p.tables e below P (T_2.setTop (mkF m 79 #[.val (.int p1), .val (.int p2), .val (.int p3), .val (.int p4), .val (.int p5), .val (.int p6), .val (.int i8), .val (.long j14), .second, .val (.int i30), .val (.int i39), .val (.int i45), .val (.int i57), .val (.double co), .second, .unset, .unset, .unset, .unset, .unset, .unset, .unset, .unset, .unset, .unset, .unset, .unset, .unset, .unset, .unset, .unset, .unset, .unset, .unset, .unset, .unset] [(.ref b_1)]))
  have m1 := nmul (show i30.toInt.natAbs ≤ 2147483647 by omega) (show i57.toInt.natAbs ≤ 1024 by omega)
  have m1' := Int.mul_nonneg (show 0 ≤ i30.toInt by omega) (show 0 ≤ i57.toInt by omega)
  refine Go.step (fun t k => XS.astore X_2.here hx rfl (hb hby at_79) rfl rfl (l' := #[.val (.int p1), .val (.int p2), .val (.int p3), .val (.int p4), .val (.int p5), .val (.int p6), .val (.int i8), .val (.long j14), .second, .val (.int i30), .val (.int i39), .val (.int i45), .val (.int i57), .val (.double co), .second, .val (.ref b_1), .unset, .unset, .unset, .unset, .unset, .unset, .unset, .unset, .unset, .unset, .unset, .unset, .unset, .unset, .unset, .unset, .unset, .unset, .unset, .unset]) rfl k) ?_
  show Go p.tables e below P (T_2.setTop (mkF m 81 #[.val (.int p1), .val (.int p2), .val (.int p3), .val (.int p4), .val (.int p5), .val (.int p6), .val (.int i8), .val (.long j14), .second, .val (.int i30), .val (.int i39), .val (.int i45), .val (.int i57), .val (.double co), .second, .val (.ref b_1), .unset, .unset, .unset, .unset, .unset, .unset, .unset, .unset, .unset, .unset, .unset, .unset, .unset, .unset, .unset, .unset, .unset, .unset, .unset, .unset] []))
  refine Go.step (fun t k => XS.aload X_2.here hx rfl (hb hby at_81) rfl rfl k) ?_
  show Go p.tables e below P (T_2.setTop (mkF m 83 #[.val (.int p1), .val (.int p2), .val (.int p3), .val (.int p4), .val (.int p5), .val (.int p6), .val (.int i8), .val (.long j14), .second, .val (.int i30), .val (.int i39), .val (.int i45), .val (.int i57), .val (.double co), .second, .val (.ref b_1), .unset, .unset, .unset, .unset, .unset, .unset, .unset, .unset, .unset, .unset, .unset, .unset, .unset, .unset, .unset, .unset, .unset, .unset, .unset, .unset] [(.ref b_1)]))
  refine Go.step (fun t k => XS.iload X_2.here hx rfl (hb hby at_83) rfl  k) ?_
  show Go p.tables e below P (T_2.setTop (mkF m 85 #[.val (.int p1), .val (.int p2), .val (.int p3), .val (.int p4), .val (.int p5), .val (.int p6), .val (.int i8), .val (.long j14), .second, .val (.int i30), .val (.int i39), .val (.int i45), .val (.int i57), .val (.double co), .second, .val (.ref b_1), .unset, .unset, .unset, .unset, .unset, .unset, .unset, .unset, .unset, .unset, .unset, .unset, .unset, .unset, .unset, .unset, .unset, .unset, .unset, .unset] [(.int i45), (.ref b_1)]))
  refine Go.step (fun t k => XS.iload X_2.here hx rfl (hb hby at_85) rfl  k) ?_
  show Go p.tables e below P (T_2.setTop (mkF m 87 #[.val (.int p1), .val (.int p2), .val (.int p3), .val (.int p4), .val (.int p5), .val (.int p6), .val (.int i8), .val (.long j14), .second, .val (.int i30), .val (.int i39), .val (.int i45), .val (.int i57), .val (.double co), .second, .val (.ref b_1), .unset, .unset, .unset, .unset, .unset, .unset, .unset, .unset, .unset, .unset, .unset, .unset, .unset, .unset, .unset, .unset, .unset, .unset, .unset, .unset] [(.int i39), (.int i45), (.ref b_1)]))
  refine Go.step (fun t k => XS.dload X_2.here hx rfl (hb hby at_87) rfl  k) ?_
  show Go p.tables e below P (T_2.setTop (mkF m 89 #[.val (.int p1), .val (.int p2), .val (.int p3), .val (.int p4), .val (.int p5), .val (.int p6), .val (.int i8), .val (.long j14), .second, .val (.int i30), .val (.int i39), .val (.int i45), .val (.int i57), .val (.double co), .second, .val (.ref b_1), .unset, .unset, .unset, .unset, .unset, .unset, .unset, .unset, .unset, .unset, .unset, .unset, .unset, .unset, .unset, .unset, .unset, .unset, .unset, .unset] [(.double co), (.int i39), (.int i45), (.ref b_1)]))
  refine Go.step (fun t k => XS.iload X_2.here hx rfl (hb hby at_89) rfl  k) ?_
  show Go p.tables e below P (T_2.setTop (mkF m 91 #[.val (.int p1), .val (.int p2), .val (.int p3), .val (.int p4), .val (.int p5), .val (.int p6), .val (.int i8), .val (.long j14), .second, .val (.int i30), .val (.int i39), .val (.int i45), .val (.int i57), .val (.double co), .second, .val (.ref b_1), .unset, .unset, .unset, .unset, .unset, .unset, .unset, .unset, .unset, .unset, .unset, .unset, .unset, .unset, .unset, .unset, .unset, .unset, .unset, .unset] [(.int p6), (.double co), (.int i39), (.int i45), (.ref b_1)]))
  obtain ⟨cq_3, kq_3, q_3a, q_3b, q_3c⟩ := isOf hZ rfl (A_1.keep Kc_2)
  obtain ⟨_, _, ⟨T_3, L_3, k_3, n_3⟩, -, X_3, ⟨Lc_3, hQ_3, l_3, y_3, z_3⟩, st_3⟩ := X_2.virtualBack hx (y := (⟨"com/example/eliteness/eliteness/ranking/Smoothing$Dirichlet", "probability", "(IIDI)D"⟩ : MethodName)) (z := (⟨"com/example/eliteness/eliteness/ranking/Smoothing$Dirichlet", "probability", "(IIDI)D"⟩ : MethodName)) hown (mvT hZ (hw _ (List.mem_of_getElem? (i := 20) rfl))) (mvT hZ (hw _ (List.mem_of_getElem? (i := 21) rfl))) (notFace_of_selects (args := #[]) (mvT hZ (hw _ (List.mem_of_getElem? (i := 23) rfl)))) (mvT hZ (hw _ (List.mem_of_getElem? (i := 23) rfl))) (mvT hZ (hw _ (List.mem_of_getElem? (i := 22) rfl))) (by decide) (backOf (W := 0) (rm3 l Z a0 hw [] b_1 i45 i39 co p6 dm 1074 1064 1064 (1064 - k_) 10 0 k_ i30.toInt i57.toInt (i45.toInt * 1024 + i30.toInt * i57.toInt) 1 (i45.toInt * 1024 + i30.toInt * i57.toInt) T_2.heap n0 Z_2 Ff_mu__2 qm qco rfl (by omega) rfl (by omega) (by omega) rfl (by omega) (by omega) (by decide) (by omega) (Int.mul_one _) (by omega) (by omega)) hZ (hw _ (List.mem_of_getElem? (i := 24) rfl)) (hw _ (List.mem_of_getElem? (i := 5) rfl)) (by decide) (by decide)) q_3a q_3c (g := (mkF m 91 #[.val (.int p1), .val (.int p2), .val (.int p3), .val (.int p4), .val (.int p5), .val (.int p6), .val (.int i8), .val (.long j14), .second, .val (.int i30), .val (.int i39), .val (.int i45), .val (.int i57), .val (.double co), .second, .val (.ref b_1), .unset, .unset, .unset, .unset, .unset, .unset, .unset, .unset, .unset, .unset, .unset, .unset, .unset, .unset, .unset, .unset, .unset, .unset, .unset, .unset] [(.int p6), (.double co), (.int i39), (.int i45), (.ref b_1)])) rfl (by rw [hml]; rfl) (Steps.refl _) (argsL := [(.int i45), (.int i39), (.double co), (.int p6)]) (rest := []) (lenOf pd_2 rfl) rfl (by show 2 * 0 + _ ≤ _; exact Nat.le_of_eq rfl) (hb hby at_91) (fun _ _ => ⟨rfl, rfl, (by decide : 1 + 0 ≤ _), (by decide : 1 + 0 ≤ _)⟩)
  dsimp only [Pt.U, Pt.locs, Pt.cells, Pt.slots] at X_3 l_3 y_3 z_3 st_3 hQ_3
  subst l_3 y_3 z_3
  obtain ⟨pp, rfl, qp, N_3q, eh_3⟩ := hQ_3
  have N_3 := Fr.app N_2 N_3q
  refine Go.tr st_3 ?_
  show Go p.tables e below P (T_3.setTop (mkF m 94 #[.val (.int p1), .val (.int p2), .val (.int p3), .val (.int p4), .val (.int p5), .val (.int p6), .val (.int i8), .val (.long j14), .second, .val (.int i30), .val (.int i39), .val (.int i45), .val (.int i57), .val (.double co), .second, .val (.ref b_1), .unset, .unset, .unset, .unset, .unset, .unset, .unset, .unset, .unset, .unset, .unset, .unset, .unset, .unset, .unset, .unset, .unset, .unset, .unset, .unset] [(.double pp)]))
  refine Go.step (fun t k => XS.dstore X_3.here hx rfl (hb hby at_94) rfl (l' := #[.val (.int p1), .val (.int p2), .val (.int p3), .val (.int p4), .val (.int p5), .val (.int p6), .val (.int i8), .val (.long j14), .second, .val (.int i30), .val (.int i39), .val (.int i45), .val (.int i57), .val (.double co), .second, .val (.ref b_1), .val (.double pp), .second, .unset, .unset, .unset, .unset, .unset, .unset, .unset, .unset, .unset, .unset, .unset, .unset, .unset, .unset, .unset, .unset, .unset, .unset]) rfl k) ?_
  show Go p.tables e below P (T_3.setTop (mkF m 96 #[.val (.int p1), .val (.int p2), .val (.int p3), .val (.int p4), .val (.int p5), .val (.int p6), .val (.int i8), .val (.long j14), .second, .val (.int i30), .val (.int i39), .val (.int i45), .val (.int i57), .val (.double co), .second, .val (.ref b_1), .val (.double pp), .second, .unset, .unset, .unset, .unset, .unset, .unset, .unset, .unset, .unset, .unset, .unset, .unset, .unset, .unset, .unset, .unset, .unset, .unset] []))
  refine Go.step (fun t k => XS.iload X_3.here hx rfl (hb hby at_96) rfl  k) ?_
  show Go p.tables e below P (T_3.setTop (mkF m 98 #[.val (.int p1), .val (.int p2), .val (.int p3), .val (.int p4), .val (.int p5), .val (.int p6), .val (.int i8), .val (.long j14), .second, .val (.int i30), .val (.int i39), .val (.int i45), .val (.int i57), .val (.double co), .second, .val (.ref b_1), .val (.double pp), .second, .unset, .unset, .unset, .unset, .unset, .unset, .unset, .unset, .unset, .unset, .unset, .unset, .unset, .unset, .unset, .unset, .unset, .unset] [(.int i45)]))
  obtain ⟨j98, hj98⟩ : ∃ z : Int64, i45.toInt64 = z := ⟨_, rfl⟩
  refine Go.step (fun t k => i2l_v X_3.here hx rfl (hb hby at_98) rfl hj98 k) ?_
  show Go p.tables e below P (T_3.setTop (mkF m 99 #[.val (.int p1), .val (.int p2), .val (.int p3), .val (.int p4), .val (.int p5), .val (.int p6), .val (.int i8), .val (.long j14), .second, .val (.int i30), .val (.int i39), .val (.int i45), .val (.int i57), .val (.double co), .second, .val (.ref b_1), .val (.double pp), .second, .unset, .unset, .unset, .unset, .unset, .unset, .unset, .unset, .unset, .unset, .unset, .unset, .unset, .unset, .unset, .unset, .unset, .unset] [(.long j98)]))
  refine Go.step (fun t k => X_3.ldc2Long hx hown (mvT hZ (hw _ (List.mem_of_getElem? (i := 25) rfl))) (g := (mkF m 99 #[.val (.int p1), .val (.int p2), .val (.int p3), .val (.int p4), .val (.int p5), .val (.int p6), .val (.int i8), .val (.long j14), .second, .val (.int i30), .val (.int i39), .val (.int i45), .val (.int i57), .val (.double co), .second, .val (.ref b_1), .val (.double pp), .second, .unset, .unset, .unset, .unset, .unset, .unset, .unset, .unset, .unset, .unset, .unset, .unset, .unset, .unset, .unset, .unset, .unset, .unset] [(.long j98)])) rfl (hb hby at_99) t k) ?_
  show Go p.tables e below P (T_3.setTop (mkF m 102 #[.val (.int p1), .val (.int p2), .val (.int p3), .val (.int p4), .val (.int p5), .val (.int p6), .val (.int i8), .val (.long j14), .second, .val (.int i30), .val (.int i39), .val (.int i45), .val (.int i57), .val (.double co), .second, .val (.ref b_1), .val (.double pp), .second, .unset, .unset, .unset, .unset, .unset, .unset, .unset, .unset, .unset, .unset, .unset, .unset, .unset, .unset, .unset, .unset, .unset, .unset] [(.long (1024 : Int64)), (.long j98)]))
  obtain ⟨j102, hj102⟩ : ∃ z : Int64, j98 * (1024 : Int64) = z := ⟨_, rfl⟩
  refine Go.step (fun t k => lmul_v X_3.here hx rfl (hb hby at_102) rfl  hj102 k) ?_
  show Go p.tables e below P (T_3.setTop (mkF m 103 #[.val (.int p1), .val (.int p2), .val (.int p3), .val (.int p4), .val (.int p5), .val (.int p6), .val (.int i8), .val (.long j14), .second, .val (.int i30), .val (.int i39), .val (.int i45), .val (.int i57), .val (.double co), .second, .val (.ref b_1), .val (.double pp), .second, .unset, .unset, .unset, .unset, .unset, .unset, .unset, .unset, .unset, .unset, .unset, .unset, .unset, .unset, .unset, .unset, .unset, .unset] [(.long j102)]))
  refine Go.step (fun t k => XS.iload X_3.here hx rfl (hb hby at_103) rfl  k) ?_
  show Go p.tables e below P (T_3.setTop (mkF m 105 #[.val (.int p1), .val (.int p2), .val (.int p3), .val (.int p4), .val (.int p5), .val (.int p6), .val (.int i8), .val (.long j14), .second, .val (.int i30), .val (.int i39), .val (.int i45), .val (.int i57), .val (.double co), .second, .val (.ref b_1), .val (.double pp), .second, .unset, .unset, .unset, .unset, .unset, .unset, .unset, .unset, .unset, .unset, .unset, .unset, .unset, .unset, .unset, .unset, .unset, .unset] [(.int i30), (.long j102)]))
  obtain ⟨j105, hj105⟩ : ∃ z : Int64, i30.toInt64 = z := ⟨_, rfl⟩
  refine Go.step (fun t k => i2l_v X_3.here hx rfl (hb hby at_105) rfl hj105 k) ?_
  show Go p.tables e below P (T_3.setTop (mkF m 106 #[.val (.int p1), .val (.int p2), .val (.int p3), .val (.int p4), .val (.int p5), .val (.int p6), .val (.int i8), .val (.long j14), .second, .val (.int i30), .val (.int i39), .val (.int i45), .val (.int i57), .val (.double co), .second, .val (.ref b_1), .val (.double pp), .second, .unset, .unset, .unset, .unset, .unset, .unset, .unset, .unset, .unset, .unset, .unset, .unset, .unset, .unset, .unset, .unset, .unset, .unset] [(.long j105), (.long j102)]))
  refine Go.step (fun t k => XS.iload X_3.here hx rfl (hb hby at_106) rfl  k) ?_
  show Go p.tables e below P (T_3.setTop (mkF m 108 #[.val (.int p1), .val (.int p2), .val (.int p3), .val (.int p4), .val (.int p5), .val (.int p6), .val (.int i8), .val (.long j14), .second, .val (.int i30), .val (.int i39), .val (.int i45), .val (.int i57), .val (.double co), .second, .val (.ref b_1), .val (.double pp), .second, .unset, .unset, .unset, .unset, .unset, .unset, .unset, .unset, .unset, .unset, .unset, .unset, .unset, .unset, .unset, .unset, .unset, .unset] [(.int i57), (.long j105), (.long j102)]))
  obtain ⟨j108, hj108⟩ : ∃ z : Int64, i57.toInt64 = z := ⟨_, rfl⟩
  refine Go.step (fun t k => i2l_v X_3.here hx rfl (hb hby at_108) rfl hj108 k) ?_
  show Go p.tables e below P (T_3.setTop (mkF m 109 #[.val (.int p1), .val (.int p2), .val (.int p3), .val (.int p4), .val (.int p5), .val (.int p6), .val (.int i8), .val (.long j14), .second, .val (.int i30), .val (.int i39), .val (.int i45), .val (.int i57), .val (.double co), .second, .val (.ref b_1), .val (.double pp), .second, .unset, .unset, .unset, .unset, .unset, .unset, .unset, .unset, .unset, .unset, .unset, .unset, .unset, .unset, .unset, .unset, .unset, .unset] [(.long j108), (.long j105), (.long j102)]))
  obtain ⟨j109, hj109⟩ : ∃ z : Int64, j105 * j108 = z := ⟨_, rfl⟩
  refine Go.step (fun t k => lmul_v X_3.here hx rfl (hb hby at_109) rfl  hj109 k) ?_
  show Go p.tables e below P (T_3.setTop (mkF m 110 #[.val (.int p1), .val (.int p2), .val (.int p3), .val (.int p4), .val (.int p5), .val (.int p6), .val (.int i8), .val (.long j14), .second, .val (.int i30), .val (.int i39), .val (.int i45), .val (.int i57), .val (.double co), .second, .val (.ref b_1), .val (.double pp), .second, .unset, .unset, .unset, .unset, .unset, .unset, .unset, .unset, .unset, .unset, .unset, .unset, .unset, .unset, .unset, .unset, .unset, .unset] [(.long j109), (.long j102)]))
  obtain ⟨j110, hj110⟩ : ∃ z : Int64, j102 + j109 = z := ⟨_, rfl⟩
  refine Go.step (fun t k => ladd_v X_3.here hx rfl (hb hby at_110) rfl  hj110 k) ?_
  show Go p.tables e below P (T_3.setTop (mkF m 111 #[.val (.int p1), .val (.int p2), .val (.int p3), .val (.int p4), .val (.int p5), .val (.int p6), .val (.int i8), .val (.long j14), .second, .val (.int i30), .val (.int i39), .val (.int i45), .val (.int i57), .val (.double co), .second, .val (.ref b_1), .val (.double pp), .second, .unset, .unset, .unset, .unset, .unset, .unset, .unset, .unset, .unset, .unset, .unset, .unset, .unset, .unset, .unset, .unset, .unset, .unset] [(.long j110)]))
  refine Go.step (fun t k => XS.lstore X_3.here hx rfl (hb hby at_111) rfl (l' := #[.val (.int p1), .val (.int p2), .val (.int p3), .val (.int p4), .val (.int p5), .val (.int p6), .val (.int i8), .val (.long j14), .second, .val (.int i30), .val (.int i39), .val (.int i45), .val (.int i57), .val (.double co), .second, .val (.ref b_1), .val (.double pp), .second, .val (.long j110), .second, .unset, .unset, .unset, .unset, .unset, .unset, .unset, .unset, .unset, .unset, .unset, .unset, .unset, .unset, .unset, .unset]) rfl k) ?_
  show Go p.tables e below P (T_3.setTop (mkF m 113 #[.val (.int p1), .val (.int p2), .val (.int p3), .val (.int p4), .val (.int p5), .val (.int p6), .val (.int i8), .val (.long j14), .second, .val (.int i30), .val (.int i39), .val (.int i45), .val (.int i57), .val (.double co), .second, .val (.ref b_1), .val (.double pp), .second, .val (.long j110), .second, .unset, .unset, .unset, .unset, .unset, .unset, .unset, .unset, .unset, .unset, .unset, .unset, .unset, .unset, .unset, .unset] []))
  have f98 := c_i2l i45; rw [hj98] at f98
  have E1024 : (1024 : Int64).toInt = 1024 := rfl
  have f102 := c_lmul j98 (1024 : Int64); rw [hj102, f98, E1024] at f102
  have g102 := rng64 j102
  have f105 := c_i2l i30; rw [hj105] at f105
  have f108 := c_i2l i57; rw [hj108] at f108
  have f109 := c_lmul j105 j108; rw [hj109, f105, f108] at f109
  have g109 := rng64 j109
  have f110 := c_ladd j102 j109; rw [hj110] at f110
  have g110 := rng64 j110
  have v110 : j110.toInt = i45.toInt * 1024 + i30.toInt * i57.toInt := by omega
  clear f98 f102 f105 f108 f109 f110
  refine Go.step (fun t k => XS.dload X_3.here hx rfl (hb hby at_113) rfl  k) ?_
  show Go p.tables e below P (T_3.setTop (mkF m 115 #[.val (.int p1), .val (.int p2), .val (.int p3), .val (.int p4), .val (.int p5), .val (.int p6), .val (.int i8), .val (.long j14), .second, .val (.int i30), .val (.int i39), .val (.int i45), .val (.int i57), .val (.double co), .second, .val (.ref b_1), .val (.double pp), .second, .val (.long j110), .second, .unset, .unset, .unset, .unset, .unset, .unset, .unset, .unset, .unset, .unset, .unset, .unset, .unset, .unset, .unset, .unset] [(.double pp)]))
  refine Go.step (fun t k => XS.lload X_3.here hx rfl (hb hby at_115) rfl  k) ?_
  show Go p.tables e below P (T_3.setTop (mkF m 117 #[.val (.int p1), .val (.int p2), .val (.int p3), .val (.int p4), .val (.int p5), .val (.int p6), .val (.int i8), .val (.long j14), .second, .val (.int i30), .val (.int i39), .val (.int i45), .val (.int i57), .val (.double co), .second, .val (.ref b_1), .val (.double pp), .second, .val (.long j110), .second, .unset, .unset, .unset, .unset, .unset, .unset, .unset, .unset, .unset, .unset, .unset, .unset, .unset, .unset, .unset, .unset] [(.long j14), (.double pp)]))
  obtain ⟨dpow, hdpow⟩ : ∃ z : UInt64, FP.l2d j14 = z := ⟨_, rfl⟩
  refine Go.step (fun t k => XS.l2dS X_3.here hx rfl (hb hby at_117) rfl hdpow k) ?_
  show Go p.tables e below P (T_3.setTop (mkF m 118 #[.val (.int p1), .val (.int p2), .val (.int p3), .val (.int p4), .val (.int p5), .val (.int p6), .val (.int i8), .val (.long j14), .second, .val (.int i30), .val (.int i39), .val (.int i45), .val (.int i57), .val (.double co), .second, .val (.ref b_1), .val (.double pp), .second, .val (.long j110), .second, .unset, .unset, .unset, .unset, .unset, .unset, .unset, .unset, .unset, .unset, .unset, .unset, .unset, .unset, .unset, .unset] [(.double dpow), (.double pp)]))
  have qpow := l2d_e (x := j14) (by omega); rw [hdpow, v14] at qpow
  have qpow' : DE (1074 + k_) 1 dpow := DB.up (by rw [Int.one_mul]; exact qpow)
  obtain ⟨d1, hd1⟩ : ∃ z : UInt64, FP.dmul pp dpow = z := ⟨_, rfl⟩
  have qd1 := mul_e (k := 1064) (n := i45.toInt * 1024 + i30.toInt * i57.toInt) qp qpow' (by omega) (Int.mul_one _) (by omega) (by decide)
  rw [hd1] at qd1
  refine Go.step (fun t k => XS.dmulS X_3.here hx rfl (hb hby at_118) rfl (hd1 ▸ qd1.nn) hd1 k) ?_
  show Go p.tables e below P (T_3.setTop (mkF m 119 #[.val (.int p1), .val (.int p2), .val (.int p3), .val (.int p4), .val (.int p5), .val (.int p6), .val (.int i8), .val (.long j14), .second, .val (.int i30), .val (.int i39), .val (.int i45), .val (.int i57), .val (.double co), .second, .val (.ref b_1), .val (.double pp), .second, .val (.long j110), .second, .unset, .unset, .unset, .unset, .unset, .unset, .unset, .unset, .unset, .unset, .unset, .unset, .unset, .unset, .unset, .unset] [(.double d1)]))
  refine Go.step (fun t k => X_3.ldc2DoubleC hx hown (mvT hZ (hw _ (List.mem_of_getElem? (i := 2) rfl))) (g := (mkF m 119 #[.val (.int p1), .val (.int p2), .val (.int p3), .val (.int p4), .val (.int p5), .val (.int p6), .val (.int i8), .val (.long j14), .second, .val (.int i30), .val (.int i39), .val (.int i45), .val (.int i57), .val (.double co), .second, .val (.ref b_1), .val (.double pp), .second, .val (.long j110), .second, .unset, .unset, .unset, .unset, .unset, .unset, .unset, .unset, .unset, .unset, .unset, .unset, .unset, .unset, .unset, .unset] [(.double d1)])) rfl (hb hby at_119) t k) ?_
  show Go p.tables e below P (T_3.setTop (mkF m 122 #[.val (.int p1), .val (.int p2), .val (.int p3), .val (.int p4), .val (.int p5), .val (.int p6), .val (.int i8), .val (.long j14), .second, .val (.int i30), .val (.int i39), .val (.int i45), .val (.int i57), .val (.double co), .second, .val (.ref b_1), .val (.double pp), .second, .val (.long j110), .second, .unset, .unset, .unset, .unset, .unset, .unset, .unset, .unset, .unset, .unset, .unset, .unset, .unset, .unset, .unset, .unset] [(.double (4652218415073722368 : UInt64)), (.double d1)]))
  obtain ⟨d2, hd2⟩ : ∃ z : UInt64, FP.dmul d1 (4652218415073722368 : UInt64) = z := ⟨_, rfl⟩
  have qd2 := mul_e (k := 1074) (n := i45.toInt * 1024 + i30.toInt * i57.toInt) qd1 qk (by omega) (Int.mul_one _) (by omega) (by decide)
  rw [hd2] at qd2
  refine Go.step (fun t k => XS.dmulS X_3.here hx rfl (hb hby at_122) rfl (hd2 ▸ qd2.nn) hd2 k) ?_
  show Go p.tables e below P (T_3.setTop (mkF m 123 #[.val (.int p1), .val (.int p2), .val (.int p3), .val (.int p4), .val (.int p5), .val (.int p6), .val (.int i8), .val (.long j14), .second, .val (.int i30), .val (.int i39), .val (.int i45), .val (.int i57), .val (.double co), .second, .val (.ref b_1), .val (.double pp), .second, .val (.long j110), .second, .unset, .unset, .unset, .unset, .unset, .unset, .unset, .unset, .unset, .unset, .unset, .unset, .unset, .unset, .unset, .unset] [(.double d2)]))
  refine Go.step (fun t k => XS.lload X_3.here hx rfl (hb hby at_123) rfl  k) ?_
  show Go p.tables e below P (T_3.setTop (mkF m 125 #[.val (.int p1), .val (.int p2), .val (.int p3), .val (.int p4), .val (.int p5), .val (.int p6), .val (.int i8), .val (.long j14), .second, .val (.int i30), .val (.int i39), .val (.int i45), .val (.int i57), .val (.double co), .second, .val (.ref b_1), .val (.double pp), .second, .val (.long j110), .second, .unset, .unset, .unset, .unset, .unset, .unset, .unset, .unset, .unset, .unset, .unset, .unset, .unset, .unset, .unset, .unset] [(.long j110), (.double d2)]))
  obtain ⟨dn, hdn⟩ : ∃ z : UInt64, FP.l2d j110 = z := ⟨_, rfl⟩
  refine Go.step (fun t k => XS.l2dS X_3.here hx rfl (hb hby at_125) rfl hdn k) ?_
  show Go p.tables e below P (T_3.setTop (mkF m 126 #[.val (.int p1), .val (.int p2), .val (.int p3), .val (.int p4), .val (.int p5), .val (.int p6), .val (.int i8), .val (.long j14), .second, .val (.int i30), .val (.int i39), .val (.int i45), .val (.int i57), .val (.double co), .second, .val (.ref b_1), .val (.double pp), .second, .val (.long j110), .second, .unset, .unset, .unset, .unset, .unset, .unset, .unset, .unset, .unset, .unset, .unset, .unset, .unset, .unset, .unset, .unset] [(.double dn), (.double d2)]))
  have qn := l2d_e (x := j110) (by omega); rw [hdn, v110] at qn
  refine Go.step (fun t k => XS.dcmpS X_3.here hx rfl (hb hby at_126) rfl rfl k) ?_
  show Go p.tables e below P (T_3.setTop (mkF m 127 #[.val (.int p1), .val (.int p2), .val (.int p3), .val (.int p4), .val (.int p5), .val (.int p6), .val (.int i8), .val (.long j14), .second, .val (.int i30), .val (.int i39), .val (.int i45), .val (.int i57), .val (.double co), .second, .val (.ref b_1), .val (.double pp), .second, .val (.long j110), .second, .unset, .unset, .unset, .unset, .unset, .unset, .unset, .unset, .unset, .unset, .unset, .unset, .unset, .unset, .unset, .unset] [(.int (cmpValue (FP.dcmp d2 dn) .l))]))
  refine Go.step (fun t k => XS.ifNo X_3.here hx rfl (hb hby at_127) rfl (dcN (cd := .ne) (DE.cmp qd2 qn) (fun q => q rfl)) k) ?_
  show Go p.tables e below P (T_3.setTop (mkF m 130 #[.val (.int p1), .val (.int p2), .val (.int p3), .val (.int p4), .val (.int p5), .val (.int p6), .val (.int i8), .val (.long j14), .second, .val (.int i30), .val (.int i39), .val (.int i45), .val (.int i57), .val (.double co), .second, .val (.ref b_1), .val (.double pp), .second, .val (.long j110), .second, .unset, .unset, .unset, .unset, .unset, .unset, .unset, .unset, .unset, .unset, .unset, .unset, .unset, .unset, .unset, .unset] []))
  refine Go.step (fun t k => XS.iconst X_3.here hx rfl (hb hby at_130) k) ?_
  show Go p.tables e below P (T_3.setTop (mkF m 131 #[.val (.int p1), .val (.int p2), .val (.int p3), .val (.int p4), .val (.int p5), .val (.int p6), .val (.int i8), .val (.long j14), .second, .val (.int i30), .val (.int i39), .val (.int i45), .val (.int i57), .val (.double co), .second, .val (.ref b_1), .val (.double pp), .second, .val (.long j110), .second, .unset, .unset, .unset, .unset, .unset, .unset, .unset, .unset, .unset, .unset, .unset, .unset, .unset, .unset, .unset, .unset] [(.int (1 : Int32))]))
  refine Go.step (fun t k => XS.goto X_3.here hx rfl (pc0 := 131) (pc' := 135) rfl (hb hby at_131) (by decide) (by decide) k) ?_
  show Go p.tables e below P (T_3.setTop (mkF m 135 #[.val (.int p1), .val (.int p2), .val (.int p3), .val (.int p4), .val (.int p5), .val (.int p6), .val (.int i8), .val (.long j14), .second, .val (.int i30), .val (.int i39), .val (.int i45), .val (.int i57), .val (.double co), .second, .val (.ref b_1), .val (.double pp), .second, .val (.long j110), .second, .unset, .unset, .unset, .unset, .unset, .unset, .unset, .unset, .unset, .unset, .unset, .unset, .unset, .unset, .unset, .unset] [(.int (1 : Int32))]))
  refine Go.step (fun t k => XS.istore X_3.here hx rfl (hb hby at_135) rfl (l' := #[.val (.int p1), .val (.int p2), .val (.int p3), .val (.int p4), .val (.int p5), .val (.int p6), .val (.int i8), .val (.long j14), .second, .val (.int i30), .val (.int i39), .val (.int i45), .val (.int i57), .val (.double co), .second, .val (.ref b_1), .val (.double pp), .second, .val (.long j110), .second, .val (.int (1 : Int32)), .unset, .unset, .unset, .unset, .unset, .unset, .unset, .unset, .unset, .unset, .unset, .unset, .unset, .unset, .unset]) rfl k) ?_
  show Go p.tables e below P (T_3.setTop (mkF m 137 #[.val (.int p1), .val (.int p2), .val (.int p3), .val (.int p4), .val (.int p5), .val (.int p6), .val (.int i8), .val (.long j14), .second, .val (.int i30), .val (.int i39), .val (.int i45), .val (.int i57), .val (.double co), .second, .val (.ref b_1), .val (.double pp), .second, .val (.long j110), .second, .val (.int (1 : Int32)), .unset, .unset, .unset, .unset, .unset, .unset, .unset, .unset, .unset, .unset, .unset, .unset, .unset, .unset, .unset] []))
  refine Go.step (fun t k => XS.iload X_3.here hx rfl (hb hby at_137) rfl  k) ?_
  show Go p.tables e below P (T_3.setTop (mkF m 139 #[.val (.int p1), .val (.int p2), .val (.int p3), .val (.int p4), .val (.int p5), .val (.int p6), .val (.int i8), .val (.long j14), .second, .val (.int i30), .val (.int i39), .val (.int i45), .val (.int i57), .val (.double co), .second, .val (.ref b_1), .val (.double pp), .second, .val (.long j110), .second, .val (.int (1 : Int32)), .unset, .unset, .unset, .unset, .unset, .unset, .unset, .unset, .unset, .unset, .unset, .unset, .unset, .unset, .unset] [(.int p5)]))
  refine Go.step (fun t k => X_3.ldcInt hx hown (mvT hZ (hw _ (List.mem_of_getElem? (i := 0) rfl))) (g := (mkF m 139 #[.val (.int p1), .val (.int p2), .val (.int p3), .val (.int p4), .val (.int p5), .val (.int p6), .val (.int i8), .val (.long j14), .second, .val (.int i30), .val (.int i39), .val (.int i45), .val (.int i57), .val (.double co), .second, .val (.ref b_1), .val (.double pp), .second, .val (.long j110), .second, .val (.int (1 : Int32)), .unset, .unset, .unset, .unset, .unset, .unset, .unset, .unset, .unset, .unset, .unset, .unset, .unset, .unset, .unset] [(.int p5)])) rfl (hb hby at_139) t k) ?_
  show Go p.tables e below P (T_3.setTop (mkF m 141 #[.val (.int p1), .val (.int p2), .val (.int p3), .val (.int p4), .val (.int p5), .val (.int p6), .val (.int i8), .val (.long j14), .second, .val (.int i30), .val (.int i39), .val (.int i45), .val (.int i57), .val (.double co), .second, .val (.ref b_1), .val (.double pp), .second, .val (.long j110), .second, .val (.int (1 : Int32)), .unset, .unset, .unset, .unset, .unset, .unset, .unset, .unset, .unset, .unset, .unset, .unset, .unset, .unset, .unset] [(.int (2147483647 : Int32)), (.int p5)]))
  obtain ⟨i141, hi141⟩ : ∃ z : Int32, p5 &&& (2147483647 : Int32) = z := ⟨_, rfl⟩
  refine Go.step (fun t k => iand_v X_3.here hx rfl (hb hby at_141) rfl  hi141 k) ?_
  show Go p.tables e below P (T_3.setTop (mkF m 142 #[.val (.int p1), .val (.int p2), .val (.int p3), .val (.int p4), .val (.int p5), .val (.int p6), .val (.int i8), .val (.long j14), .second, .val (.int i30), .val (.int i39), .val (.int i45), .val (.int i57), .val (.double co), .second, .val (.ref b_1), .val (.double pp), .second, .val (.long j110), .second, .val (.int (1 : Int32)), .unset, .unset, .unset, .unset, .unset, .unset, .unset, .unset, .unset, .unset, .unset, .unset, .unset, .unset, .unset] [(.int i141)]))
  refine Go.step (fun t k => XS.bipush X_3.here hx rfl (hb hby at_142) k) ?_
  show Go p.tables e below P (T_3.setTop (mkF m 144 #[.val (.int p1), .val (.int p2), .val (.int p3), .val (.int p4), .val (.int p5), .val (.int p6), .val (.int i8), .val (.long j14), .second, .val (.int i30), .val (.int i39), .val (.int i45), .val (.int i57), .val (.double co), .second, .val (.ref b_1), .val (.double pp), .second, .val (.long j110), .second, .val (.int (1 : Int32)), .unset, .unset, .unset, .unset, .unset, .unset, .unset, .unset, .unset, .unset, .unset, .unset, .unset, .unset, .unset] [(.int (11 : Int32)), (.int i141)]))
  obtain ⟨i144, hi144⟩ : ∃ z : Int32, i141 % (11 : Int32) = z := ⟨_, rfl⟩
  refine Go.step (fun t k => irem_v X_3.here hx rfl (hb hby at_144) rfl (by decide) hi144 k) ?_
  show Go p.tables e below P (T_3.setTop (mkF m 145 #[.val (.int p1), .val (.int p2), .val (.int p3), .val (.int p4), .val (.int p5), .val (.int p6), .val (.int i8), .val (.long j14), .second, .val (.int i30), .val (.int i39), .val (.int i45), .val (.int i57), .val (.double co), .second, .val (.ref b_1), .val (.double pp), .second, .val (.long j110), .second, .val (.int (1 : Int32)), .unset, .unset, .unset, .unset, .unset, .unset, .unset, .unset, .unset, .unset, .unset, .unset, .unset, .unset, .unset] [(.int i144)]))
  refine Go.step (fun t k => XS.istore X_3.here hx rfl (hb hby at_145) rfl (l' := #[.val (.int p1), .val (.int p2), .val (.int p3), .val (.int p4), .val (.int p5), .val (.int p6), .val (.int i8), .val (.long j14), .second, .val (.int i30), .val (.int i39), .val (.int i45), .val (.int i57), .val (.double co), .second, .val (.ref b_1), .val (.double pp), .second, .val (.long j110), .second, .val (.int (1 : Int32)), .val (.int i144), .unset, .unset, .unset, .unset, .unset, .unset, .unset, .unset, .unset, .unset, .unset, .unset, .unset, .unset]) rfl k) ?_
  show Go p.tables e below P (T_3.setTop (mkF m 147 #[.val (.int p1), .val (.int p2), .val (.int p3), .val (.int p4), .val (.int p5), .val (.int p6), .val (.int i8), .val (.long j14), .second, .val (.int i30), .val (.int i39), .val (.int i45), .val (.int i57), .val (.double co), .second, .val (.ref b_1), .val (.double pp), .second, .val (.long j110), .second, .val (.int (1 : Int32)), .val (.int i144), .unset, .unset, .unset, .unset, .unset, .unset, .unset, .unset, .unset, .unset, .unset, .unset, .unset, .unset] []))
  refine Go.step (fun t k => XS.iconst X_3.here hx rfl (hb hby at_147) k) ?_
  show Go p.tables e below P (T_3.setTop (mkF m 148 #[.val (.int p1), .val (.int p2), .val (.int p3), .val (.int p4), .val (.int p5), .val (.int p6), .val (.int i8), .val (.long j14), .second, .val (.int i30), .val (.int i39), .val (.int i45), .val (.int i57), .val (.double co), .second, .val (.ref b_1), .val (.double pp), .second, .val (.long j110), .second, .val (.int (1 : Int32)), .val (.int i144), .unset, .unset, .unset, .unset, .unset, .unset, .unset, .unset, .unset, .unset, .unset, .unset, .unset, .unset] [(.int (1 : Int32))]))
  refine Go.step (fun t k => XS.iload X_3.here hx rfl (hb hby at_148) rfl  k) ?_
  show Go p.tables e below P (T_3.setTop (mkF m 150 #[.val (.int p1), .val (.int p2), .val (.int p3), .val (.int p4), .val (.int p5), .val (.int p6), .val (.int i8), .val (.long j14), .second, .val (.int i30), .val (.int i39), .val (.int i45), .val (.int i57), .val (.double co), .second, .val (.ref b_1), .val (.double pp), .second, .val (.long j110), .second, .val (.int (1 : Int32)), .val (.int i144), .unset, .unset, .unset, .unset, .unset, .unset, .unset, .unset, .unset, .unset, .unset, .unset, .unset, .unset] [(.int i144), (.int (1 : Int32))]))
  have f141 := c_mask p5 (2147483647 : Int32) 31 (by decide) rfl; rw [hi141] at f141
  have f144 := c_irem i141 (11 : Int32) 11 rfl; rw [hi144] at f144
  have f144' := f144.1 (by omega)
  have b144 : 0 ≤ i144.toInt ∧ i144.toInt ≤ 10 := by omega
  clear f141 f144 f144'
  have t144 := tn32 b144.1
  obtain ⟨j_, hj_⟩ : ∃ z : Nat, i144.toBitVec.toNat % 32 = z := ⟨_, rfl⟩
  have bj : j_ ≤ 10 := by omega
  obtain ⟨i150, hi150⟩ : ∃ z : Int32, ((1 : Int32) <<< (i144 &&& 31)) = z := ⟨_, rfl⟩
  refine Go.step (fun t k => ishl_v X_3.here hx rfl (hb hby at_150) rfl  hi150 k) ?_
  show Go p.tables e below P (T_3.setTop (mkF m 151 #[.val (.int p1), .val (.int p2), .val (.int p3), .val (.int p4), .val (.int p5), .val (.int p6), .val (.int i8), .val (.long j14), .second, .val (.int i30), .val (.int i39), .val (.int i45), .val (.int i57), .val (.double co), .second, .val (.ref b_1), .val (.double pp), .second, .val (.long j110), .second, .val (.int (1 : Int32)), .val (.int i144), .unset, .unset, .unset, .unset, .unset, .unset, .unset, .unset, .unset, .unset, .unset, .unset, .unset, .unset] [(.int i150)]))
  have f150 := c_ishl (1 : Int32) i144 j_ hj_; rw [hi150, e1] at f150
  have g150 := rng32 i150
  have hJ : 1 ≤ 2 ^ j_ ∧ 2 ^ j_ ≤ 1024 := ⟨Nat.one_le_two_pow, Nat.pow_le_pow_right (n := 2) (by decide) bj⟩
  have v150 : i150.toInt = ((2 ^ j_ : Nat) : Int) := by omega
  clear f150
  have b150 : 1 ≤ i150.toInt ∧ i150.toInt ≤ 1024 := by omega
  refine Go.step (fun t k => XS.istore X_3.here hx rfl (hb hby at_151) rfl (l' := #[.val (.int p1), .val (.int p2), .val (.int p3), .val (.int p4), .val (.int p5), .val (.int p6), .val (.int i8), .val (.long j14), .second, .val (.int i30), .val (.int i39), .val (.int i45), .val (.int i57), .val (.double co), .second, .val (.ref b_1), .val (.double pp), .second, .val (.long j110), .second, .val (.int (1 : Int32)), .val (.int i144), .val (.int i150), .unset, .unset, .unset, .unset, .unset, .unset, .unset, .unset, .unset, .unset, .unset, .unset, .unset]) rfl k) ?_
  show Go p.tables e below P (T_3.setTop (mkF m 153 #[.val (.int p1), .val (.int p2), .val (.int p3), .val (.int p4), .val (.int p5), .val (.int p6), .val (.int i8), .val (.long j14), .second, .val (.int i30), .val (.int i39), .val (.int i45), .val (.int i57), .val (.double co), .second, .val (.ref b_1), .val (.double pp), .second, .val (.long j110), .second, .val (.int (1 : Int32)), .val (.int i144), .val (.int i150), .unset, .unset, .unset, .unset, .unset, .unset, .unset, .unset, .unset, .unset, .unset, .unset, .unset] []))
  refine Go.step (fun t k => XS.iconst X_3.here hx rfl (hb hby at_153) k) ?_
  show Go p.tables e below P (T_3.setTop (mkF m 154 #[.val (.int p1), .val (.int p2), .val (.int p3), .val (.int p4), .val (.int p5), .val (.int p6), .val (.int i8), .val (.long j14), .second, .val (.int i30), .val (.int i39), .val (.int i45), .val (.int i57), .val (.double co), .second, .val (.ref b_1), .val (.double pp), .second, .val (.long j110), .second, .val (.int (1 : Int32)), .val (.int i144), .val (.int i150), .unset, .unset, .unset, .unset, .unset, .unset, .unset, .unset, .unset, .unset, .unset, .unset, .unset] [(.int (1 : Int32))]))
  refine Go.step (fun t k => XS.iload X_3.here hx rfl (hb hby at_154) rfl  k) ?_
  show Go p.tables e below P (T_3.setTop (mkF m 156 #[.val (.int p1), .val (.int p2), .val (.int p3), .val (.int p4), .val (.int p5), .val (.int p6), .val (.int i8), .val (.long j14), .second, .val (.int i30), .val (.int i39), .val (.int i45), .val (.int i57), .val (.double co), .second, .val (.ref b_1), .val (.double pp), .second, .val (.long j110), .second, .val (.int (1 : Int32)), .val (.int i144), .val (.int i150), .unset, .unset, .unset, .unset, .unset, .unset, .unset, .unset, .unset, .unset, .unset, .unset, .unset] [(.int p5), (.int (1 : Int32))]))
  refine Go.step (fun t k => XS.iconst X_3.here hx rfl (hb hby at_156) k) ?_
  show Go p.tables e below P (T_3.setTop (mkF m 157 #[.val (.int p1), .val (.int p2), .val (.int p3), .val (.int p4), .val (.int p5), .val (.int p6), .val (.int i8), .val (.long j14), .second, .val (.int i30), .val (.int i39), .val (.int i45), .val (.int i57), .val (.double co), .second, .val (.ref b_1), .val (.double pp), .second, .val (.long j110), .second, .val (.int (1 : Int32)), .val (.int i144), .val (.int i150), .unset, .unset, .unset, .unset, .unset, .unset, .unset, .unset, .unset, .unset, .unset, .unset, .unset] [(.int (4 : Int32)), (.int p5), (.int (1 : Int32))]))
  obtain ⟨i157, hi157⟩ : ∃ z : Int32, ((p5.toUInt32 >>> ((4 : Int32) &&& 31).toUInt32).toInt32) = z := ⟨_, rfl⟩
  refine Go.step (fun t k => iushr_v X_3.here hx rfl (hb hby at_157) rfl  hi157 k) ?_
  show Go p.tables e below P (T_3.setTop (mkF m 158 #[.val (.int p1), .val (.int p2), .val (.int p3), .val (.int p4), .val (.int p5), .val (.int p6), .val (.int i8), .val (.long j14), .second, .val (.int i30), .val (.int i39), .val (.int i45), .val (.int i57), .val (.double co), .second, .val (.ref b_1), .val (.double pp), .second, .val (.long j110), .second, .val (.int (1 : Int32)), .val (.int i144), .val (.int i150), .unset, .unset, .unset, .unset, .unset, .unset, .unset, .unset, .unset, .unset, .unset, .unset, .unset] [(.int i157), (.int (1 : Int32))]))
  refine Go.step (fun t k => XS.iload X_3.here hx rfl (hb hby at_158) rfl  k) ?_
  show Go p.tables e below P (T_3.setTop (mkF m 160 #[.val (.int p1), .val (.int p2), .val (.int p3), .val (.int p4), .val (.int p5), .val (.int p6), .val (.int i8), .val (.long j14), .second, .val (.int i30), .val (.int i39), .val (.int i45), .val (.int i57), .val (.double co), .second, .val (.ref b_1), .val (.double pp), .second, .val (.long j110), .second, .val (.int (1 : Int32)), .val (.int i144), .val (.int i150), .unset, .unset, .unset, .unset, .unset, .unset, .unset, .unset, .unset, .unset, .unset, .unset, .unset] [(.int i150), (.int i157), (.int (1 : Int32))]))
  have f157 := c_iushr p5 (4 : Int32) 4 rfl (by decide); rw [hi157] at f157
  have b157 : 0 ≤ i157.toInt := by omega
  have nz150 : ¬ i150 = 0 := fun q => by rw [q] at b150; have : (0 : Int32).toInt = 0 := rfl; omega
  obtain ⟨i160, hi160⟩ : ∃ z : Int32, i157 % i150 = z := ⟨_, rfl⟩
  refine Go.step (fun t k => irem_v X_3.here hx rfl (hb hby at_160) rfl nz150 hi160 k) ?_
  show Go p.tables e below P (T_3.setTop (mkF m 161 #[.val (.int p1), .val (.int p2), .val (.int p3), .val (.int p4), .val (.int p5), .val (.int p6), .val (.int i8), .val (.long j14), .second, .val (.int i30), .val (.int i39), .val (.int i45), .val (.int i57), .val (.double co), .second, .val (.ref b_1), .val (.double pp), .second, .val (.long j110), .second, .val (.int (1 : Int32)), .val (.int i144), .val (.int i150), .unset, .unset, .unset, .unset, .unset, .unset, .unset, .unset, .unset, .unset, .unset, .unset, .unset] [(.int i160), (.int (1 : Int32))]))
  have f160 := (c_irem i157 i150 i150.toInt rfl).1 b157; rw [hi160] at f160
  have l160 := Int.emod_nonneg i157.toInt (show i150.toInt ≠ 0 by omega)
  have u160 := Int.emod_lt_of_pos i157.toInt (show 0 < i150.toInt by omega)
  obtain ⟨i161, hi161⟩ : ∃ z : Int32, (1 : Int32) + i160 = z := ⟨_, rfl⟩
  refine Go.step (fun t k => iadd_v X_3.here hx rfl (hb hby at_161) rfl  hi161 k) ?_
  show Go p.tables e below P (T_3.setTop (mkF m 162 #[.val (.int p1), .val (.int p2), .val (.int p3), .val (.int p4), .val (.int p5), .val (.int p6), .val (.int i8), .val (.long j14), .second, .val (.int i30), .val (.int i39), .val (.int i45), .val (.int i57), .val (.double co), .second, .val (.ref b_1), .val (.double pp), .second, .val (.long j110), .second, .val (.int (1 : Int32)), .val (.int i144), .val (.int i150), .unset, .unset, .unset, .unset, .unset, .unset, .unset, .unset, .unset, .unset, .unset, .unset, .unset] [(.int i161)]))
  have f161 := c_iadd (1 : Int32) i160; rw [hi161, e1] at f161
  have g161 := rng32 i161
  have b161 : 1 ≤ i161.toInt ∧ i161.toInt ≤ i150.toInt := by omega
  clear f157 f160 l160 u160 f161
  refine Go.step (fun t k => XS.istore X_3.here hx rfl (hb hby at_162) rfl (l' := #[.val (.int p1), .val (.int p2), .val (.int p3), .val (.int p4), .val (.int p5), .val (.int p6), .val (.int i8), .val (.long j14), .second, .val (.int i30), .val (.int i39), .val (.int i45), .val (.int i57), .val (.double co), .second, .val (.ref b_1), .val (.double pp), .second, .val (.long j110), .second, .val (.int (1 : Int32)), .val (.int i144), .val (.int i150), .val (.int i161), .unset, .unset, .unset, .unset, .unset, .unset, .unset, .unset, .unset, .unset, .unset, .unset]) rfl k) ?_
  show Go p.tables e below P (T_3.setTop (mkF m 164 #[.val (.int p1), .val (.int p2), .val (.int p3), .val (.int p4), .val (.int p5), .val (.int p6), .val (.int i8), .val (.long j14), .second, .val (.int i30), .val (.int i39), .val (.int i45), .val (.int i57), .val (.double co), .second, .val (.ref b_1), .val (.double pp), .second, .val (.long j110), .second, .val (.int (1 : Int32)), .val (.int i144), .val (.int i150), .val (.int i161), .unset, .unset, .unset, .unset, .unset, .unset, .unset, .unset, .unset, .unset, .unset, .unset] []))
  refine Go.step (fun t k => XS.iconst X_3.here hx rfl (hb hby at_164) k) ?_
  show Go p.tables e below P (T_3.setTop (mkF m 165 #[.val (.int p1), .val (.int p2), .val (.int p3), .val (.int p4), .val (.int p5), .val (.int p6), .val (.int i8), .val (.long j14), .second, .val (.int i30), .val (.int i39), .val (.int i45), .val (.int i57), .val (.double co), .second, .val (.ref b_1), .val (.double pp), .second, .val (.long j110), .second, .val (.int (1 : Int32)), .val (.int i144), .val (.int i150), .val (.int i161), .unset, .unset, .unset, .unset, .unset, .unset, .unset, .unset, .unset, .unset, .unset, .unset] [(.int (1 : Int32))]))
  refine Go.step (fun t k => XS.iloadN X_3.here hx rfl (hb hby at_165) rfl  k) ?_
  show Go p.tables e below P (T_3.setTop (mkF m 166 #[.val (.int p1), .val (.int p2), .val (.int p3), .val (.int p4), .val (.int p5), .val (.int p6), .val (.int i8), .val (.long j14), .second, .val (.int i30), .val (.int i39), .val (.int i45), .val (.int i57), .val (.double co), .second, .val (.ref b_1), .val (.double pp), .second, .val (.long j110), .second, .val (.int (1 : Int32)), .val (.int i144), .val (.int i150), .val (.int i161), .unset, .unset, .unset, .unset, .unset, .unset, .unset, .unset, .unset, .unset, .unset, .unset] [(.int p1), (.int (1 : Int32))]))
  refine Go.step (fun t k => XS.bipush X_3.here hx rfl (hb hby at_166) k) ?_
  show Go p.tables e below P (T_3.setTop (mkF m 168 #[.val (.int p1), .val (.int p2), .val (.int p3), .val (.int p4), .val (.int p5), .val (.int p6), .val (.int i8), .val (.long j14), .second, .val (.int i30), .val (.int i39), .val (.int i45), .val (.int i57), .val (.double co), .second, .val (.ref b_1), .val (.double pp), .second, .val (.long j110), .second, .val (.int (1 : Int32)), .val (.int i144), .val (.int i150), .val (.int i161), .unset, .unset, .unset, .unset, .unset, .unset, .unset, .unset, .unset, .unset, .unset, .unset] [(.int (11 : Int32)), (.int p1), (.int (1 : Int32))]))
  obtain ⟨i168, hi168⟩ : ∃ z : Int32, ((p1.toUInt32 >>> ((11 : Int32) &&& 31).toUInt32).toInt32) = z := ⟨_, rfl⟩
  refine Go.step (fun t k => iushr_v X_3.here hx rfl (hb hby at_168) rfl  hi168 k) ?_
  show Go p.tables e below P (T_3.setTop (mkF m 169 #[.val (.int p1), .val (.int p2), .val (.int p3), .val (.int p4), .val (.int p5), .val (.int p6), .val (.int i8), .val (.long j14), .second, .val (.int i30), .val (.int i39), .val (.int i45), .val (.int i57), .val (.double co), .second, .val (.ref b_1), .val (.double pp), .second, .val (.long j110), .second, .val (.int (1 : Int32)), .val (.int i144), .val (.int i150), .val (.int i161), .unset, .unset, .unset, .unset, .unset, .unset, .unset, .unset, .unset, .unset, .unset, .unset] [(.int i168), (.int (1 : Int32))]))
  refine Go.step (fun t k => X_3.ldcInt hx hown (mvT hZ (hw _ (List.mem_of_getElem? (i := 26) rfl))) (g := (mkF m 169 #[.val (.int p1), .val (.int p2), .val (.int p3), .val (.int p4), .val (.int p5), .val (.int p6), .val (.int i8), .val (.long j14), .second, .val (.int i30), .val (.int i39), .val (.int i45), .val (.int i57), .val (.double co), .second, .val (.ref b_1), .val (.double pp), .second, .val (.long j110), .second, .val (.int (1 : Int32)), .val (.int i144), .val (.int i150), .val (.int i161), .unset, .unset, .unset, .unset, .unset, .unset, .unset, .unset, .unset, .unset, .unset, .unset] [(.int i168), (.int (1 : Int32))])) rfl (hb hby at_169) t k) ?_
  show Go p.tables e below P (T_3.setTop (mkF m 171 #[.val (.int p1), .val (.int p2), .val (.int p3), .val (.int p4), .val (.int p5), .val (.int p6), .val (.int i8), .val (.long j14), .second, .val (.int i30), .val (.int i39), .val (.int i45), .val (.int i57), .val (.double co), .second, .val (.ref b_1), .val (.double pp), .second, .val (.long j110), .second, .val (.int (1 : Int32)), .val (.int i144), .val (.int i150), .val (.int i161), .unset, .unset, .unset, .unset, .unset, .unset, .unset, .unset, .unset, .unset, .unset, .unset] [(.int (1048575 : Int32)), (.int i168), (.int (1 : Int32))]))
  obtain ⟨i171, hi171⟩ : ∃ z : Int32, i168 &&& (1048575 : Int32) = z := ⟨_, rfl⟩
  refine Go.step (fun t k => iand_v X_3.here hx rfl (hb hby at_171) rfl  hi171 k) ?_
  show Go p.tables e below P (T_3.setTop (mkF m 172 #[.val (.int p1), .val (.int p2), .val (.int p3), .val (.int p4), .val (.int p5), .val (.int p6), .val (.int i8), .val (.long j14), .second, .val (.int i30), .val (.int i39), .val (.int i45), .val (.int i57), .val (.double co), .second, .val (.ref b_1), .val (.double pp), .second, .val (.long j110), .second, .val (.int (1 : Int32)), .val (.int i144), .val (.int i150), .val (.int i161), .unset, .unset, .unset, .unset, .unset, .unset, .unset, .unset, .unset, .unset, .unset, .unset] [(.int i171), (.int (1 : Int32))]))
  obtain ⟨i172, hi172⟩ : ∃ z : Int32, (1 : Int32) + i171 = z := ⟨_, rfl⟩
  refine Go.step (fun t k => iadd_v X_3.here hx rfl (hb hby at_172) rfl  hi172 k) ?_
  show Go p.tables e below P (T_3.setTop (mkF m 173 #[.val (.int p1), .val (.int p2), .val (.int p3), .val (.int p4), .val (.int p5), .val (.int p6), .val (.int i8), .val (.long j14), .second, .val (.int i30), .val (.int i39), .val (.int i45), .val (.int i57), .val (.double co), .second, .val (.ref b_1), .val (.double pp), .second, .val (.long j110), .second, .val (.int (1 : Int32)), .val (.int i144), .val (.int i150), .val (.int i161), .unset, .unset, .unset, .unset, .unset, .unset, .unset, .unset, .unset, .unset, .unset, .unset] [(.int i172)]))
  have f171 := c_mask i168 (1048575 : Int32) 20 (by decide) rfl; rw [hi171] at f171
  have f172 := c_iadd (1 : Int32) i171; rw [hi172, e1] at f172
  have g172 := rng32 i172
  have b172 : 1 ≤ i172.toInt ∧ i172.toInt ≤ 1048576 := by omega
  clear f171 f172
  refine Go.step (fun t k => XS.istore X_3.here hx rfl (hb hby at_173) rfl (l' := #[.val (.int p1), .val (.int p2), .val (.int p3), .val (.int p4), .val (.int p5), .val (.int p6), .val (.int i8), .val (.long j14), .second, .val (.int i30), .val (.int i39), .val (.int i45), .val (.int i57), .val (.double co), .second, .val (.ref b_1), .val (.double pp), .second, .val (.long j110), .second, .val (.int (1 : Int32)), .val (.int i144), .val (.int i150), .val (.int i161), .val (.int i172), .unset, .unset, .unset, .unset, .unset, .unset, .unset, .unset, .unset, .unset, .unset]) rfl k) ?_
  show Go p.tables e below P (T_3.setTop (mkF m 175 #[.val (.int p1), .val (.int p2), .val (.int p3), .val (.int p4), .val (.int p5), .val (.int p6), .val (.int i8), .val (.long j14), .second, .val (.int i30), .val (.int i39), .val (.int i45), .val (.int i57), .val (.double co), .second, .val (.ref b_1), .val (.double pp), .second, .val (.long j110), .second, .val (.int (1 : Int32)), .val (.int i144), .val (.int i150), .val (.int i161), .val (.int i172), .unset, .unset, .unset, .unset, .unset, .unset, .unset, .unset, .unset, .unset, .unset] []))
  refine Go.step (fun t k => XS.iload X_3.here hx rfl (hb hby at_175) rfl  k) ?_
  show Go p.tables e below P (T_3.setTop (mkF m 177 #[.val (.int p1), .val (.int p2), .val (.int p3), .val (.int p4), .val (.int p5), .val (.int p6), .val (.int i8), .val (.long j14), .second, .val (.int i30), .val (.int i39), .val (.int i45), .val (.int i57), .val (.double co), .second, .val (.ref b_1), .val (.double pp), .second, .val (.long j110), .second, .val (.int (1 : Int32)), .val (.int i144), .val (.int i150), .val (.int i161), .val (.int i172), .unset, .unset, .unset, .unset, .unset, .unset, .unset, .unset, .unset, .unset, .unset] [(.int i172)]))
  refine Go.step (fun t k => XS.iload X_3.here hx rfl (hb hby at_177) rfl  k) ?_
  show Go p.tables e below P (T_3.setTop (mkF m 179 #[.val (.int p1), .val (.int p2), .val (.int p3), .val (.int p4), .val (.int p5), .val (.int p6), .val (.int i8), .val (.long j14), .second, .val (.int i30), .val (.int i39), .val (.int i45), .val (.int i57), .val (.double co), .second, .val (.ref b_1), .val (.double pp), .second, .val (.long j110), .second, .val (.int (1 : Int32)), .val (.int i144), .val (.int i150), .val (.int i161), .val (.int i172), .unset, .unset, .unset, .unset, .unset, .unset, .unset, .unset, .unset, .unset, .unset] [(.int i150), (.int i172)]))
  obtain ⟨i179, hi179⟩ : ∃ z : Int32, i172 * i150 = z := ⟨_, rfl⟩
  refine Go.step (fun t k => imul_v X_3.here hx rfl (hb hby at_179) rfl  hi179 k) ?_
  show Go p.tables e below P (T_3.setTop (mkF m 180 #[.val (.int p1), .val (.int p2), .val (.int p3), .val (.int p4), .val (.int p5), .val (.int p6), .val (.int i8), .val (.long j14), .second, .val (.int i30), .val (.int i39), .val (.int i45), .val (.int i57), .val (.double co), .second, .val (.ref b_1), .val (.double pp), .second, .val (.long j110), .second, .val (.int (1 : Int32)), .val (.int i144), .val (.int i150), .val (.int i161), .val (.int i172), .unset, .unset, .unset, .unset, .unset, .unset, .unset, .unset, .unset, .unset, .unset] [(.int i179)]))
  refine Go.step (fun t k => XS.istore X_3.here hx rfl (hb hby at_180) rfl (l' := #[.val (.int p1), .val (.int p2), .val (.int p3), .val (.int p4), .val (.int p5), .val (.int p6), .val (.int i8), .val (.long j14), .second, .val (.int i30), .val (.int i39), .val (.int i45), .val (.int i57), .val (.double co), .second, .val (.ref b_1), .val (.double pp), .second, .val (.long j110), .second, .val (.int (1 : Int32)), .val (.int i144), .val (.int i150), .val (.int i161), .val (.int i172), .val (.int i179), .unset, .unset, .unset, .unset, .unset, .unset, .unset, .unset, .unset, .unset]) rfl k) ?_
  show Go p.tables e below P (T_3.setTop (mkF m 182 #[.val (.int p1), .val (.int p2), .val (.int p3), .val (.int p4), .val (.int p5), .val (.int p6), .val (.int i8), .val (.long j14), .second, .val (.int i30), .val (.int i39), .val (.int i45), .val (.int i57), .val (.double co), .second, .val (.ref b_1), .val (.double pp), .second, .val (.long j110), .second, .val (.int (1 : Int32)), .val (.int i144), .val (.int i150), .val (.int i161), .val (.int i172), .val (.int i179), .unset, .unset, .unset, .unset, .unset, .unset, .unset, .unset, .unset, .unset] []))
  refine Go.step (fun t k => XS.iload X_3.here hx rfl (hb hby at_182) rfl  k) ?_
  show Go p.tables e below P (T_3.setTop (mkF m 184 #[.val (.int p1), .val (.int p2), .val (.int p3), .val (.int p4), .val (.int p5), .val (.int p6), .val (.int i8), .val (.long j14), .second, .val (.int i30), .val (.int i39), .val (.int i45), .val (.int i57), .val (.double co), .second, .val (.ref b_1), .val (.double pp), .second, .val (.long j110), .second, .val (.int (1 : Int32)), .val (.int i144), .val (.int i150), .val (.int i161), .val (.int i172), .val (.int i179), .unset, .unset, .unset, .unset, .unset, .unset, .unset, .unset, .unset, .unset] [(.int i161)]))
  refine Go.step (fun t k => XS.iload X_3.here hx rfl (hb hby at_184) rfl  k) ?_
  show Go p.tables e below P (T_3.setTop (mkF m 186 #[.val (.int p1), .val (.int p2), .val (.int p3), .val (.int p4), .val (.int p5), .val (.int p6), .val (.int i8), .val (.long j14), .second, .val (.int i30), .val (.int i39), .val (.int i45), .val (.int i57), .val (.double co), .second, .val (.ref b_1), .val (.double pp), .second, .val (.long j110), .second, .val (.int (1 : Int32)), .val (.int i144), .val (.int i150), .val (.int i161), .val (.int i172), .val (.int i179), .unset, .unset, .unset, .unset, .unset, .unset, .unset, .unset, .unset, .unset] [(.int i172), (.int i161)]))
  obtain ⟨i186, hi186⟩ : ∃ z : Int32, i161 * i172 = z := ⟨_, rfl⟩
  refine Go.step (fun t k => imul_v X_3.here hx rfl (hb hby at_186) rfl  hi186 k) ?_
  show Go p.tables e below P (T_3.setTop (mkF m 187 #[.val (.int p1), .val (.int p2), .val (.int p3), .val (.int p4), .val (.int p5), .val (.int p6), .val (.int i8), .val (.long j14), .second, .val (.int i30), .val (.int i39), .val (.int i45), .val (.int i57), .val (.double co), .second, .val (.ref b_1), .val (.double pp), .second, .val (.long j110), .second, .val (.int (1 : Int32)), .val (.int i144), .val (.int i150), .val (.int i161), .val (.int i172), .val (.int i179), .unset, .unset, .unset, .unset, .unset, .unset, .unset, .unset, .unset, .unset] [(.int i186)]))
  refine Go.step (fun t k => XS.istore X_3.here hx rfl (hb hby at_187) rfl (l' := #[.val (.int p1), .val (.int p2), .val (.int p3), .val (.int p4), .val (.int p5), .val (.int p6), .val (.int i8), .val (.long j14), .second, .val (.int i30), .val (.int i39), .val (.int i45), .val (.int i57), .val (.double co), .second, .val (.ref b_1), .val (.double pp), .second, .val (.long j110), .second, .val (.int (1 : Int32)), .val (.int i144), .val (.int i150), .val (.int i161), .val (.int i172), .val (.int i179), .val (.int i186), .unset, .unset, .unset, .unset, .unset, .unset, .unset, .unset, .unset]) rfl k) ?_
  show Go p.tables e below P (T_3.setTop (mkF m 189 #[.val (.int p1), .val (.int p2), .val (.int p3), .val (.int p4), .val (.int p5), .val (.int p6), .val (.int i8), .val (.long j14), .second, .val (.int i30), .val (.int i39), .val (.int i45), .val (.int i57), .val (.double co), .second, .val (.ref b_1), .val (.double pp), .second, .val (.long j110), .second, .val (.int (1 : Int32)), .val (.int i144), .val (.int i150), .val (.int i161), .val (.int i172), .val (.int i179), .val (.int i186), .unset, .unset, .unset, .unset, .unset, .unset, .unset, .unset, .unset] []))
  have m2 := nmul (show i172.toInt.natAbs ≤ 1048576 by omega) (show i150.toInt.natAbs ≤ 1024 by omega)
  have m3 := nmul (show i161.toInt.natAbs ≤ 1024 by omega) (show i172.toInt.natAbs ≤ 1048576 by omega)
  have m2' := Int.mul_nonneg (show 0 ≤ i172.toInt by omega) (show 0 ≤ i150.toInt by omega)
  have m3' := Int.mul_nonneg (show 0 ≤ i161.toInt by omega) (show 0 ≤ i172.toInt by omega)
  have f179 := c_imul i172 i150; rw [hi179] at f179
  have g179 := rng32 i179
  have v179 : i179.toInt = i172.toInt * i150.toInt := by omega
  have f186 := c_imul i161 i172; rw [hi186] at f186
  have g186 := rng32 i186
  have v186 : i186.toInt = i161.toInt * i172.toInt := by omega
  clear f179 f186
  refine Go.step (fun t k => XS.iconst X_3.here hx rfl (hb hby at_189) k) ?_
  show Go p.tables e below P (T_3.setTop (mkF m 190 #[.val (.int p1), .val (.int p2), .val (.int p3), .val (.int p4), .val (.int p5), .val (.int p6), .val (.int i8), .val (.long j14), .second, .val (.int i30), .val (.int i39), .val (.int i45), .val (.int i57), .val (.double co), .second, .val (.ref b_1), .val (.double pp), .second, .val (.long j110), .second, .val (.int (1 : Int32)), .val (.int i144), .val (.int i150), .val (.int i161), .val (.int i172), .val (.int i179), .val (.int i186), .unset, .unset, .unset, .unset, .unset, .unset, .unset, .unset, .unset] [(.int (1 : Int32))]))
  refine Go.step (fun t k => XS.iloadN X_3.here hx rfl (hb hby at_190) rfl  k) ?_
  show Go p.tables e below P (T_3.setTop (mkF m 191 #[.val (.int p1), .val (.int p2), .val (.int p3), .val (.int p4), .val (.int p5), .val (.int p6), .val (.int i8), .val (.long j14), .second, .val (.int i30), .val (.int i39), .val (.int i45), .val (.int i57), .val (.double co), .second, .val (.ref b_1), .val (.double pp), .second, .val (.long j110), .second, .val (.int (1 : Int32)), .val (.int i144), .val (.int i150), .val (.int i161), .val (.int i172), .val (.int i179), .val (.int i186), .unset, .unset, .unset, .unset, .unset, .unset, .unset, .unset, .unset] [(.int p3), (.int (1 : Int32))]))
  refine Go.step (fun t k => X_3.ldcInt hx hown (mvT hZ (hw _ (List.mem_of_getElem? (i := 27) rfl))) (g := (mkF m 191 #[.val (.int p1), .val (.int p2), .val (.int p3), .val (.int p4), .val (.int p5), .val (.int p6), .val (.int i8), .val (.long j14), .second, .val (.int i30), .val (.int i39), .val (.int i45), .val (.int i57), .val (.double co), .second, .val (.ref b_1), .val (.double pp), .second, .val (.long j110), .second, .val (.int (1 : Int32)), .val (.int i144), .val (.int i150), .val (.int i161), .val (.int i172), .val (.int i179), .val (.int i186), .unset, .unset, .unset, .unset, .unset, .unset, .unset, .unset, .unset] [(.int p3), (.int (1 : Int32))])) rfl (hb hby at_191) t k) ?_
  show Go p.tables e below P (T_3.setTop (mkF m 193 #[.val (.int p1), .val (.int p2), .val (.int p3), .val (.int p4), .val (.int p5), .val (.int p6), .val (.int i8), .val (.long j14), .second, .val (.int i30), .val (.int i39), .val (.int i45), .val (.int i57), .val (.double co), .second, .val (.ref b_1), .val (.double pp), .second, .val (.long j110), .second, .val (.int (1 : Int32)), .val (.int i144), .val (.int i150), .val (.int i161), .val (.int i172), .val (.int i179), .val (.int i186), .unset, .unset, .unset, .unset, .unset, .unset, .unset, .unset, .unset] [(.int (1073741823 : Int32)), (.int p3), (.int (1 : Int32))]))
  obtain ⟨i193, hi193⟩ : ∃ z : Int32, p3 &&& (1073741823 : Int32) = z := ⟨_, rfl⟩
  refine Go.step (fun t k => iand_v X_3.here hx rfl (hb hby at_193) rfl  hi193 k) ?_
  show Go p.tables e below P (T_3.setTop (mkF m 194 #[.val (.int p1), .val (.int p2), .val (.int p3), .val (.int p4), .val (.int p5), .val (.int p6), .val (.int i8), .val (.long j14), .second, .val (.int i30), .val (.int i39), .val (.int i45), .val (.int i57), .val (.double co), .second, .val (.ref b_1), .val (.double pp), .second, .val (.long j110), .second, .val (.int (1 : Int32)), .val (.int i144), .val (.int i150), .val (.int i161), .val (.int i172), .val (.int i179), .val (.int i186), .unset, .unset, .unset, .unset, .unset, .unset, .unset, .unset, .unset] [(.int i193), (.int (1 : Int32))]))
  obtain ⟨i194, hi194⟩ : ∃ z : Int32, (1 : Int32) + i193 = z := ⟨_, rfl⟩
  refine Go.step (fun t k => iadd_v X_3.here hx rfl (hb hby at_194) rfl  hi194 k) ?_
  show Go p.tables e below P (T_3.setTop (mkF m 195 #[.val (.int p1), .val (.int p2), .val (.int p3), .val (.int p4), .val (.int p5), .val (.int p6), .val (.int i8), .val (.long j14), .second, .val (.int i30), .val (.int i39), .val (.int i45), .val (.int i57), .val (.double co), .second, .val (.ref b_1), .val (.double pp), .second, .val (.long j110), .second, .val (.int (1 : Int32)), .val (.int i144), .val (.int i150), .val (.int i161), .val (.int i172), .val (.int i179), .val (.int i186), .unset, .unset, .unset, .unset, .unset, .unset, .unset, .unset, .unset] [(.int i194)]))
  refine Go.step (fun t k => XS.istore X_3.here hx rfl (hb hby at_195) rfl (l' := #[.val (.int p1), .val (.int p2), .val (.int p3), .val (.int p4), .val (.int p5), .val (.int p6), .val (.int i8), .val (.long j14), .second, .val (.int i30), .val (.int i39), .val (.int i45), .val (.int i57), .val (.double co), .second, .val (.ref b_1), .val (.double pp), .second, .val (.long j110), .second, .val (.int (1 : Int32)), .val (.int i144), .val (.int i150), .val (.int i161), .val (.int i172), .val (.int i179), .val (.int i186), .val (.int i194), .unset, .unset, .unset, .unset, .unset, .unset, .unset, .unset]) rfl k) ?_
  show Go p.tables e below P (T_3.setTop (mkF m 197 #[.val (.int p1), .val (.int p2), .val (.int p3), .val (.int p4), .val (.int p5), .val (.int p6), .val (.int i8), .val (.long j14), .second, .val (.int i30), .val (.int i39), .val (.int i45), .val (.int i57), .val (.double co), .second, .val (.ref b_1), .val (.double pp), .second, .val (.long j110), .second, .val (.int (1 : Int32)), .val (.int i144), .val (.int i150), .val (.int i161), .val (.int i172), .val (.int i179), .val (.int i186), .val (.int i194), .unset, .unset, .unset, .unset, .unset, .unset, .unset, .unset] []))
  have f193 := c_mask p3 (1073741823 : Int32) 30 (by decide) rfl; rw [hi193] at f193
  have f194 := c_iadd (1 : Int32) i193; rw [hi194, e1] at f194
  have g194 := rng32 i194
  have b194 : 1 ≤ i194.toInt ∧ i194.toInt ≤ 1073741824 := by omega
  clear f193 f194
  refine Go.step (fun t k => XS.iload X_3.here hx rfl (hb hby at_197) rfl  k) ?_
  show Go p.tables e below P (T_3.setTop (mkF m 199 #[.val (.int p1), .val (.int p2), .val (.int p3), .val (.int p4), .val (.int p5), .val (.int p6), .val (.int i8), .val (.long j14), .second, .val (.int i30), .val (.int i39), .val (.int i45), .val (.int i57), .val (.double co), .second, .val (.ref b_1), .val (.double pp), .second, .val (.long j110), .second, .val (.int (1 : Int32)), .val (.int i144), .val (.int i150), .val (.int i161), .val (.int i172), .val (.int i179), .val (.int i186), .val (.int i194), .unset, .unset, .unset, .unset, .unset, .unset, .unset, .unset] [(.int i194)]))
  obtain ⟨dm2, hdm2⟩ : ∃ z : UInt64, FP.i2d i194 = z := ⟨_, rfl⟩
  refine Go.step (fun t k => XS.i2dS X_3.here hx rfl (hb hby at_199) rfl hdm2 k) ?_
  show Go p.tables e below P (T_3.setTop (mkF m 200 #[.val (.int p1), .val (.int p2), .val (.int p3), .val (.int p4), .val (.int p5), .val (.int p6), .val (.int i8), .val (.long j14), .second, .val (.int i30), .val (.int i39), .val (.int i45), .val (.int i57), .val (.double co), .second, .val (.ref b_1), .val (.double pp), .second, .val (.long j110), .second, .val (.int (1 : Int32)), .val (.int i144), .val (.int i150), .val (.int i161), .val (.int i172), .val (.int i179), .val (.int i186), .val (.int i194), .unset, .unset, .unset, .unset, .unset, .unset, .unset, .unset] [(.double dm2)]))
  have qm2 := i2d_e i194; rw [hdm2] at qm2
  have q256 : DE 1082 1 (4643211215818981376 : UInt64) := DE.of ⟨_, _, _, rfl⟩ (by decide +kernel)
  refine Go.step (fun t k => X_3.ldc2DoubleC hx hown (mvT hZ (hw _ (List.mem_of_getElem? (i := 28) rfl))) (g := (mkF m 200 #[.val (.int p1), .val (.int p2), .val (.int p3), .val (.int p4), .val (.int p5), .val (.int p6), .val (.int i8), .val (.long j14), .second, .val (.int i30), .val (.int i39), .val (.int i45), .val (.int i57), .val (.double co), .second, .val (.ref b_1), .val (.double pp), .second, .val (.long j110), .second, .val (.int (1 : Int32)), .val (.int i144), .val (.int i150), .val (.int i161), .val (.int i172), .val (.int i179), .val (.int i186), .val (.int i194), .unset, .unset, .unset, .unset, .unset, .unset, .unset, .unset] [(.double dm2)])) rfl (hb hby at_200) t k) ?_
  show Go p.tables e below P (T_3.setTop (mkF m 203 #[.val (.int p1), .val (.int p2), .val (.int p3), .val (.int p4), .val (.int p5), .val (.int p6), .val (.int i8), .val (.long j14), .second, .val (.int i30), .val (.int i39), .val (.int i45), .val (.int i57), .val (.double co), .second, .val (.ref b_1), .val (.double pp), .second, .val (.long j110), .second, .val (.int (1 : Int32)), .val (.int i144), .val (.int i150), .val (.int i161), .val (.int i172), .val (.int i179), .val (.int i186), .val (.int i194), .unset, .unset, .unset, .unset, .unset, .unset, .unset, .unset] [(.double (4643211215818981376 : UInt64)), (.double dm2)]))
  obtain ⟨mu2, hmu2⟩ : ∃ z : UInt64, FP.ddiv dm2 (4643211215818981376 : UInt64) = z := ⟨_, rfl⟩
  have qmu2 := div_e (k := 1066) (n := i194.toInt) qm2 q256 (by decide) rfl (Int.mul_one _) (by omega) (by decide)
  rw [hmu2] at qmu2
  refine Go.step (fun t k => XS.ddivS X_3.here hx rfl (hb hby at_203) rfl (hmu2 ▸ qmu2.nn) hmu2 k) ?_
  show Go p.tables e below P (T_3.setTop (mkF m 204 #[.val (.int p1), .val (.int p2), .val (.int p3), .val (.int p4), .val (.int p5), .val (.int p6), .val (.int i8), .val (.long j14), .second, .val (.int i30), .val (.int i39), .val (.int i45), .val (.int i57), .val (.double co), .second, .val (.ref b_1), .val (.double pp), .second, .val (.long j110), .second, .val (.int (1 : Int32)), .val (.int i144), .val (.int i150), .val (.int i161), .val (.int i172), .val (.int i179), .val (.int i186), .val (.int i194), .unset, .unset, .unset, .unset, .unset, .unset, .unset, .unset] [(.double mu2)]))
  refine Go.step (fun t k => XS.dstore X_3.here hx rfl (hb hby at_204) rfl (l' := #[.val (.int p1), .val (.int p2), .val (.int p3), .val (.int p4), .val (.int p5), .val (.int p6), .val (.int i8), .val (.long j14), .second, .val (.int i30), .val (.int i39), .val (.int i45), .val (.int i57), .val (.double co), .second, .val (.ref b_1), .val (.double pp), .second, .val (.long j110), .second, .val (.int (1 : Int32)), .val (.int i144), .val (.int i150), .val (.int i161), .val (.int i172), .val (.int i179), .val (.int i186), .val (.int i194), .val (.double mu2), .second, .unset, .unset, .unset, .unset, .unset, .unset]) rfl k) ?_
  show Go p.tables e below P (T_3.setTop (mkF m 206 #[.val (.int p1), .val (.int p2), .val (.int p3), .val (.int p4), .val (.int p5), .val (.int p6), .val (.int i8), .val (.long j14), .second, .val (.int i30), .val (.int i39), .val (.int i45), .val (.int i57), .val (.double co), .second, .val (.ref b_1), .val (.double pp), .second, .val (.long j110), .second, .val (.int (1 : Int32)), .val (.int i144), .val (.int i150), .val (.int i161), .val (.int i172), .val (.int i179), .val (.int i186), .val (.int i194), .val (.double mu2), .second, .unset, .unset, .unset, .unset, .unset, .unset] []))
  refine Go.step (fun t k => XS.iload X_3.here hx rfl (hb hby at_206) rfl  k) ?_
  show Go p.tables e below P (T_3.setTop (mkF m 208 #[.val (.int p1), .val (.int p2), .val (.int p3), .val (.int p4), .val (.int p5), .val (.int p6), .val (.int i8), .val (.long j14), .second, .val (.int i30), .val (.int i39), .val (.int i45), .val (.int i57), .val (.double co), .second, .val (.ref b_1), .val (.double pp), .second, .val (.long j110), .second, .val (.int (1 : Int32)), .val (.int i144), .val (.int i150), .val (.int i161), .val (.int i172), .val (.int i179), .val (.int i186), .val (.int i194), .val (.double mu2), .second, .unset, .unset, .unset, .unset, .unset, .unset] [(.int i161)]))
  obtain ⟨dt, hdt⟩ : ∃ z : UInt64, FP.i2d i161 = z := ⟨_, rfl⟩
  refine Go.step (fun t k => XS.i2dS X_3.here hx rfl (hb hby at_208) rfl hdt k) ?_
  show Go p.tables e below P (T_3.setTop (mkF m 209 #[.val (.int p1), .val (.int p2), .val (.int p3), .val (.int p4), .val (.int p5), .val (.int p6), .val (.int i8), .val (.long j14), .second, .val (.int i30), .val (.int i39), .val (.int i45), .val (.int i57), .val (.double co), .second, .val (.ref b_1), .val (.double pp), .second, .val (.long j110), .second, .val (.int (1 : Int32)), .val (.int i144), .val (.int i150), .val (.int i161), .val (.int i172), .val (.int i179), .val (.int i186), .val (.int i194), .val (.double mu2), .second, .unset, .unset, .unset, .unset, .unset, .unset] [(.double dt)]))
  have qt := i2d_e i161; rw [hdt] at qt
  refine Go.step (fun t k => XS.iload X_3.here hx rfl (hb hby at_209) rfl  k) ?_
  show Go p.tables e below P (T_3.setTop (mkF m 211 #[.val (.int p1), .val (.int p2), .val (.int p3), .val (.int p4), .val (.int p5), .val (.int p6), .val (.int i8), .val (.long j14), .second, .val (.int i30), .val (.int i39), .val (.int i45), .val (.int i57), .val (.double co), .second, .val (.ref b_1), .val (.double pp), .second, .val (.long j110), .second, .val (.int (1 : Int32)), .val (.int i144), .val (.int i150), .val (.int i161), .val (.int i172), .val (.int i179), .val (.int i186), .val (.int i194), .val (.double mu2), .second, .unset, .unset, .unset, .unset, .unset, .unset] [(.int i150), (.double dt)]))
  obtain ⟨dj, hdj⟩ : ∃ z : UInt64, FP.i2d i150 = z := ⟨_, rfl⟩
  refine Go.step (fun t k => XS.i2dS X_3.here hx rfl (hb hby at_211) rfl hdj k) ?_
  show Go p.tables e below P (T_3.setTop (mkF m 212 #[.val (.int p1), .val (.int p2), .val (.int p3), .val (.int p4), .val (.int p5), .val (.int p6), .val (.int i8), .val (.long j14), .second, .val (.int i30), .val (.int i39), .val (.int i45), .val (.int i57), .val (.double co), .second, .val (.ref b_1), .val (.double pp), .second, .val (.long j110), .second, .val (.int (1 : Int32)), .val (.int i144), .val (.int i150), .val (.int i161), .val (.int i172), .val (.int i179), .val (.int i186), .val (.int i194), .val (.double mu2), .second, .unset, .unset, .unset, .unset, .unset, .unset] [(.double dj), (.double dt)]))
  have qj := i2d_e i150; rw [hdj, v150] at qj
  have qj' : DE (1074 + j_) 1 dj := DB.up (by rw [Int.one_mul]; exact qj)
  obtain ⟨co2, hco2⟩ : ∃ z : UInt64, FP.ddiv dt dj = z := ⟨_, rfl⟩
  have qco2 := div_e (k := 1074 - j_) (n := i161.toInt) qt qj' (by decide) (by omega) (Int.mul_one _) (by omega) (by omega)
  rw [hco2] at qco2
  refine Go.step (fun t k => XS.ddivS X_3.here hx rfl (hb hby at_212) rfl (hco2 ▸ qco2.nn) hco2 k) ?_
  show Go p.tables e below P (T_3.setTop (mkF m 213 #[.val (.int p1), .val (.int p2), .val (.int p3), .val (.int p4), .val (.int p5), .val (.int p6), .val (.int i8), .val (.long j14), .second, .val (.int i30), .val (.int i39), .val (.int i45), .val (.int i57), .val (.double co), .second, .val (.ref b_1), .val (.double pp), .second, .val (.long j110), .second, .val (.int (1 : Int32)), .val (.int i144), .val (.int i150), .val (.int i161), .val (.int i172), .val (.int i179), .val (.int i186), .val (.int i194), .val (.double mu2), .second, .unset, .unset, .unset, .unset, .unset, .unset] [(.double co2)]))
  refine Go.step (fun t k => XS.dstore X_3.here hx rfl (hb hby at_213) rfl (l' := #[.val (.int p1), .val (.int p2), .val (.int p3), .val (.int p4), .val (.int p5), .val (.int p6), .val (.int i8), .val (.long j14), .second, .val (.int i30), .val (.int i39), .val (.int i45), .val (.int i57), .val (.double co), .second, .val (.ref b_1), .val (.double pp), .second, .val (.long j110), .second, .val (.int (1 : Int32)), .val (.int i144), .val (.int i150), .val (.int i161), .val (.int i172), .val (.int i179), .val (.int i186), .val (.int i194), .val (.double mu2), .second, .val (.double co2), .second, .unset, .unset, .unset, .unset]) rfl k) ?_
  show Go p.tables e below P (T_3.setTop (mkF m 215 #[.val (.int p1), .val (.int p2), .val (.int p3), .val (.int p4), .val (.int p5), .val (.int p6), .val (.int i8), .val (.long j14), .second, .val (.int i30), .val (.int i39), .val (.int i45), .val (.int i57), .val (.double co), .second, .val (.ref b_1), .val (.double pp), .second, .val (.long j110), .second, .val (.int (1 : Int32)), .val (.int i144), .val (.int i150), .val (.int i161), .val (.int i172), .val (.int i179), .val (.int i186), .val (.int i194), .val (.double mu2), .second, .val (.double co2), .second, .unset, .unset, .unset, .unset] []))
  obtain ⟨T_4, h_4, X_4, e_4, E_4, A_4, D_4, -, st_4⟩ := newO X_3 hx hZ hown (hw _ (List.mem_of_getElem? (i := 3) rfl)) (hw _ (List.mem_of_getElem? (i := 4) rfl)) (hw _ (List.mem_of_getElem? (i := 5) rfl)) eh_3 (g := (mkF m 215 #[.val (.int p1), .val (.int p2), .val (.int p3), .val (.int p4), .val (.int p5), .val (.int p6), .val (.int i8), .val (.long j14), .second, .val (.int i30), .val (.int i39), .val (.int i45), .val (.int i57), .val (.double co), .second, .val (.ref b_1), .val (.double pp), .second, .val (.long j110), .second, .val (.int (1 : Int32)), .val (.int i144), .val (.int i150), .val (.int i161), .val (.int i172), .val (.int i179), .val (.int i186), .val (.int i194), .val (.double mu2), .second, .val (.double co2), .second, .unset, .unset, .unset, .unset] [])) rfl (hb hby at_215) (by decide) (by decide)
  obtain ⟨b_4, g_4⟩ : ∃ z, z = T_2.heap.size := ⟨_, rfl⟩
  rw [← g_4] at A_4 D_4 st_4
  have g_b_4 : n0 ≤ b_4 := Nat.le_trans Z_2 (Nat.le_of_eq g_4.symm)
  have sz_b_4 : h0.size ≤ b_4 := Nat.le_trans K_2.1 (Nat.le_of_eq g_4.symm)
  have ne_b_1_b_4 : b_1 ≠ b_4 := Nat.ne_of_lt (Nat.lt_of_lt_of_le (A_1.keep Kc_2).lt (Nat.le_of_eq g_4.symm))
  have F_mu_b_4 : Fld Z h_4 b_4 "com/example/eliteness/eliteness/ranking/Smoothing$Dirichlet" "mu" "D" (.double (0 : UInt64)) := D_4 (Or.inr (hw _ (List.mem_of_getElem? (i := 19) rfl))) (ty := .double) (by decide)
  have K_4 : Keep h0 h_4 [] := K_2.ext E_4
  have Z_4 : n0 ≤ h_4.size := Nat.le_trans Z_2 E_4.1
  refine Go.step (fun t k => st_4 t k) ?_
  show Go p.tables e below P (T_4.setTop (mkF m 218 #[.val (.int p1), .val (.int p2), .val (.int p3), .val (.int p4), .val (.int p5), .val (.int p6), .val (.int i8), .val (.long j14), .second, .val (.int i30), .val (.int i39), .val (.int i45), .val (.int i57), .val (.double co), .second, .val (.ref b_1), .val (.double pp), .second, .val (.long j110), .second, .val (.int (1 : Int32)), .val (.int i144), .val (.int i150), .val (.int i161), .val (.int i172), .val (.int i179), .val (.int i186), .val (.int i194), .val (.double mu2), .second, .val (.double co2), .second, .unset, .unset, .unset, .unset] [(.ref b_4)]))
  refine Go.step (fun t k => XS.dup X_4.here hx rfl (hb hby at_218) rfl rfl k) ?_
  show Go p.tables e below P (T_4.setTop (mkF m 219 #[.val (.int p1), .val (.int p2), .val (.int p3), .val (.int p4), .val (.int p5), .val (.int p6), .val (.int i8), .val (.long j14), .second, .val (.int i30), .val (.int i39), .val (.int i45), .val (.int i57), .val (.double co), .second, .val (.ref b_1), .val (.double pp), .second, .val (.long j110), .second, .val (.int (1 : Int32)), .val (.int i144), .val (.int i150), .val (.int i161), .val (.int i172), .val (.int i179), .val (.int i186), .val (.int i194), .val (.double mu2), .second, .val (.double co2), .second, .unset, .unset, .unset, .unset] [(.ref b_4), (.ref b_4)]))
  refine Go.step (fun t k => XS.dload X_4.here hx rfl (hb hby at_219) rfl  k) ?_
  show Go p.tables e below P (T_4.setTop (mkF m 221 #[.val (.int p1), .val (.int p2), .val (.int p3), .val (.int p4), .val (.int p5), .val (.int p6), .val (.int i8), .val (.long j14), .second, .val (.int i30), .val (.int i39), .val (.int i45), .val (.int i57), .val (.double co), .second, .val (.ref b_1), .val (.double pp), .second, .val (.long j110), .second, .val (.int (1 : Int32)), .val (.int i144), .val (.int i150), .val (.int i161), .val (.int i172), .val (.int i179), .val (.int i186), .val (.int i194), .val (.double mu2), .second, .val (.double co2), .second, .unset, .unset, .unset, .unset] [(.double mu2), (.ref b_4), (.ref b_4)]))
  obtain ⟨_, _, ⟨T_5, L_5, k_5, n_5⟩, -, X_5, ⟨Lc_5, hQ_5, l_5, y_5, z_5⟩, st_5⟩ := X_4.specialBack hx (y := (⟨"com/example/eliteness/eliteness/ranking/Smoothing$Dirichlet", "<init>", "(D)V"⟩ : MethodName)) rfl hown (mvT hZ (hw _ (List.mem_of_getElem? (i := 6) rfl))) (mvT hZ (hw _ (List.mem_of_getElem? (i := 7) rfl))) (mvT hZ (hw _ (List.mem_of_getElem? (i := 8) rfl))) (by decide) (backOf (W := 1) (rm2 l Z a0 hw [] b_4 mu2 h_4 n0 Z_4 A_4 F_mu_b_4 g_b_4 1066 i194.toInt qmu2 (by omega)) hZ (hw _ (List.mem_of_getElem? (i := 8) rfl)) (hw _ (List.mem_of_getElem? (i := 5) rfl)) (by decide) (by decide)) (g := (mkF m 221 #[.val (.int p1), .val (.int p2), .val (.int p3), .val (.int p4), .val (.int p5), .val (.int p6), .val (.int i8), .val (.long j14), .second, .val (.int i30), .val (.int i39), .val (.int i45), .val (.int i57), .val (.double co), .second, .val (.ref b_1), .val (.double pp), .second, .val (.long j110), .second, .val (.int (1 : Int32)), .val (.int i144), .val (.int i150), .val (.int i161), .val (.int i172), .val (.int i179), .val (.int i186), .val (.int i194), .val (.double mu2), .second, .val (.double co2), .second, .unset, .unset, .unset, .unset] [(.double mu2), (.ref b_4), (.ref b_4)])) rfl (by rw [hml]; rfl) (Steps.refl _) (a := b_4) (argsL := [(.double mu2)]) (rest := [(.ref b_4)]) (lenOf pd_1 rfl) rfl (by show 2 * 0 + _ ≤ _; exact Nat.le_of_eq rfl) (hb hby at_221) (fun _ _ => ⟨rfl, e_4, (by decide : 2 + 0 ≤ _), (by decide : 2 + 0 ≤ _)⟩)
  dsimp only [Pt.U, Pt.locs, Pt.cells, Pt.slots] at X_5 l_5 y_5 z_5 st_5 hQ_5
  subst l_5 y_5 z_5
  obtain ⟨rfl, N_5q, Kc_5, Ee_5, Ff_mu__5⟩ := hQ_5
  have N_5 := Fr.app N_3 N_5q
  have K_5 : Keep h0 T_5.heap [] := K_4.trans Kc_5 (allS (Or.inr sz_b_4) all0)
  have Z_5 : n0 ≤ T_5.heap.size := Nat.le_trans Z_4 Kc_5.1
  refine Go.tr st_5 ?_
  show Go p.tables e below P (T_5.setTop (mkF m 224 #[.val (.int p1), .val (.int p2), .val (.int p3), .val (.int p4), .val (.int p5), .val (.int p6), .val (.int i8), .val (.long j14), .second, .val (.int i30), .val (.int i39), .val (.int i45), .val (.int i57), .val (.double co), .second, .val (.ref b_1), .val (.double pp), .second, .val (.long j110), .second, .val (.int (1 : Int32)), .val (.int i144), .val (.int i150), .val (.int i161), .val (.int i172), .val (.int i179), .val (.int i186), .val (.int i194), .val (.double mu2), .second, .val (.double co2), .second, .unset, .unset, .unset, .unset] [(.ref b_4)]))
  have m4 := nmul (show i194.toInt.natAbs ≤ 1073741824 by omega) (show i161.toInt.natAbs ≤ 1024 by omega)
  have m5 := nmul m3 (show i150.toInt.natAbs ≤ 1024 by omega)
  have p8 : ((2 ^ (8 + j_) : Nat) : Int) = 256 * i150.toInt := by rw [pw_add, ← v150]; rfl
  have eN : i186.toInt * ((2 ^ (8 + j_) : Nat) : Int) + i194.toInt * i161.toInt = i161.toInt * (i179.toInt * 256 + i194.toInt) := by
    rw [p8, v186, v179, Int.mul_add]; simp only [Int.mul_comm, Int.mul_left_comm, Int.mul_assoc]
  have eM : i186.toInt * ((2 ^ (8 + j_) : Nat) : Int) = i161.toInt * i172.toInt * i150.toInt * 256 := by rw [p8, v186]; simp only [Int.mul_comm, Int.mul_left_comm, Int.mul_assoc]
  have bN : (i161.toInt * (i179.toInt * 256 + i194.toInt)).natAbs ≤ 2 ^ 53 := by rw [← eN, eM]; omega
  refine Go.step (fun t k => XS.astore X_5.here hx rfl (hb hby at_224) rfl rfl (l' := #[.val (.int p1), .val (.int p2), .val (.int p3), .val (.int p4), .val (.int p5), .val (.int p6), .val (.int i8), .val (.long j14), .second, .val (.int i30), .val (.int i39), .val (.int i45), .val (.int i57), .val (.double co), .second, .val (.ref b_1), .val (.double pp), .second, .val (.long j110), .second, .val (.int (1 : Int32)), .val (.int i144), .val (.int i150), .val (.int i161), .val (.int i172), .val (.int i179), .val (.int i186), .val (.int i194), .val (.double mu2), .second, .val (.double co2), .second, .val (.ref b_4), .unset, .unset, .unset]) rfl k) ?_
  show Go p.tables e below P (T_5.setTop (mkF m 226 #[.val (.int p1), .val (.int p2), .val (.int p3), .val (.int p4), .val (.int p5), .val (.int p6), .val (.int i8), .val (.long j14), .second, .val (.int i30), .val (.int i39), .val (.int i45), .val (.int i57), .val (.double co), .second, .val (.ref b_1), .val (.double pp), .second, .val (.long j110), .second, .val (.int (1 : Int32)), .val (.int i144), .val (.int i150), .val (.int i161), .val (.int i172), .val (.int i179), .val (.int i186), .val (.int i194), .val (.double mu2), .second, .val (.double co2), .second, .val (.ref b_4), .unset, .unset, .unset] []))
  refine Go.step (fun t k => XS.aload X_5.here hx rfl (hb hby at_226) rfl rfl k) ?_
  show Go p.tables e below P (T_5.setTop (mkF m 228 #[.val (.int p1), .val (.int p2), .val (.int p3), .val (.int p4), .val (.int p5), .val (.int p6), .val (.int i8), .val (.long j14), .second, .val (.int i30), .val (.int i39), .val (.int i45), .val (.int i57), .val (.double co), .second, .val (.ref b_1), .val (.double pp), .second, .val (.long j110), .second, .val (.int (1 : Int32)), .val (.int i144), .val (.int i150), .val (.int i161), .val (.int i172), .val (.int i179), .val (.int i186), .val (.int i194), .val (.double mu2), .second, .val (.double co2), .second, .val (.ref b_4), .unset, .unset, .unset] [(.ref b_4)]))
  refine Go.step (fun t k => XS.iload X_5.here hx rfl (hb hby at_228) rfl  k) ?_
  show Go p.tables e below P (T_5.setTop (mkF m 230 #[.val (.int p1), .val (.int p2), .val (.int p3), .val (.int p4), .val (.int p5), .val (.int p6), .val (.int i8), .val (.long j14), .second, .val (.int i30), .val (.int i39), .val (.int i45), .val (.int i57), .val (.double co), .second, .val (.ref b_1), .val (.double pp), .second, .val (.long j110), .second, .val (.int (1 : Int32)), .val (.int i144), .val (.int i150), .val (.int i161), .val (.int i172), .val (.int i179), .val (.int i186), .val (.int i194), .val (.double mu2), .second, .val (.double co2), .second, .val (.ref b_4), .unset, .unset, .unset] [(.int i186), (.ref b_4)]))
  refine Go.step (fun t k => XS.iload X_5.here hx rfl (hb hby at_230) rfl  k) ?_
  show Go p.tables e below P (T_5.setTop (mkF m 232 #[.val (.int p1), .val (.int p2), .val (.int p3), .val (.int p4), .val (.int p5), .val (.int p6), .val (.int i8), .val (.long j14), .second, .val (.int i30), .val (.int i39), .val (.int i45), .val (.int i57), .val (.double co), .second, .val (.ref b_1), .val (.double pp), .second, .val (.long j110), .second, .val (.int (1 : Int32)), .val (.int i144), .val (.int i150), .val (.int i161), .val (.int i172), .val (.int i179), .val (.int i186), .val (.int i194), .val (.double mu2), .second, .val (.double co2), .second, .val (.ref b_4), .unset, .unset, .unset] [(.int i179), (.int i186), (.ref b_4)]))
  refine Go.step (fun t k => XS.dload X_5.here hx rfl (hb hby at_232) rfl  k) ?_
  show Go p.tables e below P (T_5.setTop (mkF m 234 #[.val (.int p1), .val (.int p2), .val (.int p3), .val (.int p4), .val (.int p5), .val (.int p6), .val (.int i8), .val (.long j14), .second, .val (.int i30), .val (.int i39), .val (.int i45), .val (.int i57), .val (.double co), .second, .val (.ref b_1), .val (.double pp), .second, .val (.long j110), .second, .val (.int (1 : Int32)), .val (.int i144), .val (.int i150), .val (.int i161), .val (.int i172), .val (.int i179), .val (.int i186), .val (.int i194), .val (.double mu2), .second, .val (.double co2), .second, .val (.ref b_4), .unset, .unset, .unset] [(.double co2), (.int i179), (.int i186), (.ref b_4)]))
  refine Go.step (fun t k => XS.iload X_5.here hx rfl (hb hby at_234) rfl  k) ?_
  show Go p.tables e below P (T_5.setTop (mkF m 236 #[.val (.int p1), .val (.int p2), .val (.int p3), .val (.int p4), .val (.int p5), .val (.int p6), .val (.int i8), .val (.long j14), .second, .val (.int i30), .val (.int i39), .val (.int i45), .val (.int i57), .val (.double co), .second, .val (.ref b_1), .val (.double pp), .second, .val (.long j110), .second, .val (.int (1 : Int32)), .val (.int i144), .val (.int i150), .val (.int i161), .val (.int i172), .val (.int i179), .val (.int i186), .val (.int i194), .val (.double mu2), .second, .val (.double co2), .second, .val (.ref b_4), .unset, .unset, .unset] [(.int p6), (.double co2), (.int i179), (.int i186), (.ref b_4)]))
  obtain ⟨cq_6, kq_6, q_6a, q_6b, q_6c⟩ := isOf hZ rfl (A_4.keep Kc_5)
  obtain ⟨_, _, ⟨T_6, L_6, k_6, n_6⟩, -, X_6, ⟨Lc_6, hQ_6, l_6, y_6, z_6⟩, st_6⟩ := X_5.virtualBack hx (y := (⟨"com/example/eliteness/eliteness/ranking/Smoothing$Dirichlet", "probability", "(IIDI)D"⟩ : MethodName)) (z := (⟨"com/example/eliteness/eliteness/ranking/Smoothing$Dirichlet", "probability", "(IIDI)D"⟩ : MethodName)) hown (mvT hZ (hw _ (List.mem_of_getElem? (i := 20) rfl))) (mvT hZ (hw _ (List.mem_of_getElem? (i := 21) rfl))) (notFace_of_selects (args := #[]) (mvT hZ (hw _ (List.mem_of_getElem? (i := 23) rfl)))) (mvT hZ (hw _ (List.mem_of_getElem? (i := 23) rfl))) (mvT hZ (hw _ (List.mem_of_getElem? (i := 22) rfl))) (by decide) (backOf (W := 0) (rm3 l Z a0 hw [] b_4 i186 i179 co2 p6 mu2 1066 (1074 - j_) (1066 - j_) (1074 - j_) (8 + j_) 8 0 i194.toInt i161.toInt (i161.toInt * (i179.toInt * 256 + i194.toInt)) (i179.toInt * 256 + i194.toInt) i161.toInt T_5.heap n0 Z_5 Ff_mu__5 qmu2 qco2 (by omega) (by omega) (by omega) eN bN rfl (by omega) (by omega) (by omega) (by omega) rfl (by omega) (by omega)) hZ (hw _ (List.mem_of_getElem? (i := 24) rfl)) (hw _ (List.mem_of_getElem? (i := 5) rfl)) (by decide) (by decide)) q_6a q_6c (g := (mkF m 236 #[.val (.int p1), .val (.int p2), .val (.int p3), .val (.int p4), .val (.int p5), .val (.int p6), .val (.int i8), .val (.long j14), .second, .val (.int i30), .val (.int i39), .val (.int i45), .val (.int i57), .val (.double co), .second, .val (.ref b_1), .val (.double pp), .second, .val (.long j110), .second, .val (.int (1 : Int32)), .val (.int i144), .val (.int i150), .val (.int i161), .val (.int i172), .val (.int i179), .val (.int i186), .val (.int i194), .val (.double mu2), .second, .val (.double co2), .second, .val (.ref b_4), .unset, .unset, .unset] [(.int p6), (.double co2), (.int i179), (.int i186), (.ref b_4)])) rfl (by rw [hml]; rfl) (Steps.refl _) (argsL := [(.int i186), (.int i179), (.double co2), (.int p6)]) (rest := []) (lenOf pd_2 rfl) rfl (by show 2 * 0 + _ ≤ _; exact Nat.le_of_eq rfl) (hb hby at_236) (fun _ _ => ⟨rfl, rfl, (by decide : 2 + 0 ≤ _), (by decide : 2 + 0 ≤ _)⟩)
  dsimp only [Pt.U, Pt.locs, Pt.cells, Pt.slots] at X_6 l_6 y_6 z_6 st_6 hQ_6
  subst l_6 y_6 z_6
  obtain ⟨pp2, rfl, qp2, N_6q, eh_6⟩ := hQ_6
  have N_6 := Fr.app N_5 N_6q
  refine Go.tr st_6 ?_
  show Go p.tables e below P (T_6.setTop (mkF m 239 #[.val (.int p1), .val (.int p2), .val (.int p3), .val (.int p4), .val (.int p5), .val (.int p6), .val (.int i8), .val (.long j14), .second, .val (.int i30), .val (.int i39), .val (.int i45), .val (.int i57), .val (.double co), .second, .val (.ref b_1), .val (.double pp), .second, .val (.long j110), .second, .val (.int (1 : Int32)), .val (.int i144), .val (.int i150), .val (.int i161), .val (.int i172), .val (.int i179), .val (.int i186), .val (.int i194), .val (.double mu2), .second, .val (.double co2), .second, .val (.ref b_4), .unset, .unset, .unset] [(.double pp2)]))
  refine Go.step (fun t k => XS.dstore X_6.here hx rfl (hb hby at_239) rfl (l' := #[.val (.int p1), .val (.int p2), .val (.int p3), .val (.int p4), .val (.int p5), .val (.int p6), .val (.int i8), .val (.long j14), .second, .val (.int i30), .val (.int i39), .val (.int i45), .val (.int i57), .val (.double co), .second, .val (.ref b_1), .val (.double pp), .second, .val (.long j110), .second, .val (.int (1 : Int32)), .val (.int i144), .val (.int i150), .val (.int i161), .val (.int i172), .val (.int i179), .val (.int i186), .val (.int i194), .val (.double mu2), .second, .val (.double co2), .second, .val (.ref b_4), .val (.double pp2), .second, .unset]) rfl k) ?_
  show Go p.tables e below P (T_6.setTop (mkF m 241 #[.val (.int p1), .val (.int p2), .val (.int p3), .val (.int p4), .val (.int p5), .val (.int p6), .val (.int i8), .val (.long j14), .second, .val (.int i30), .val (.int i39), .val (.int i45), .val (.int i57), .val (.double co), .second, .val (.ref b_1), .val (.double pp), .second, .val (.long j110), .second, .val (.int (1 : Int32)), .val (.int i144), .val (.int i150), .val (.int i161), .val (.int i172), .val (.int i179), .val (.int i186), .val (.int i194), .val (.double mu2), .second, .val (.double co2), .second, .val (.ref b_4), .val (.double pp2), .second, .unset] []))
  refine Go.step (fun t k => XS.dload X_6.here hx rfl (hb hby at_241) rfl  k) ?_
  show Go p.tables e below P (T_6.setTop (mkF m 243 #[.val (.int p1), .val (.int p2), .val (.int p3), .val (.int p4), .val (.int p5), .val (.int p6), .val (.int i8), .val (.long j14), .second, .val (.int i30), .val (.int i39), .val (.int i45), .val (.int i57), .val (.double co), .second, .val (.ref b_1), .val (.double pp), .second, .val (.long j110), .second, .val (.int (1 : Int32)), .val (.int i144), .val (.int i150), .val (.int i161), .val (.int i172), .val (.int i179), .val (.int i186), .val (.int i194), .val (.double mu2), .second, .val (.double co2), .second, .val (.ref b_4), .val (.double pp2), .second, .unset] [(.double pp2)]))
  refine Go.step (fun t k => XS.dload X_6.here hx rfl (hb hby at_243) rfl  k) ?_
  show Go p.tables e below P (T_6.setTop (mkF m 245 #[.val (.int p1), .val (.int p2), .val (.int p3), .val (.int p4), .val (.int p5), .val (.int p6), .val (.int i8), .val (.long j14), .second, .val (.int i30), .val (.int i39), .val (.int i45), .val (.int i57), .val (.double co), .second, .val (.ref b_1), .val (.double pp), .second, .val (.long j110), .second, .val (.int (1 : Int32)), .val (.int i144), .val (.int i150), .val (.int i161), .val (.int i172), .val (.int i179), .val (.int i186), .val (.int i194), .val (.double mu2), .second, .val (.double co2), .second, .val (.ref b_4), .val (.double pp2), .second, .unset] [(.double co2), (.double pp2)]))
  refine Go.step (fun t k => XS.dcmpS X_6.here hx rfl (hb hby at_245) rfl rfl k) ?_
  show Go p.tables e below P (T_6.setTop (mkF m 246 #[.val (.int p1), .val (.int p2), .val (.int p3), .val (.int p4), .val (.int p5), .val (.int p6), .val (.int i8), .val (.long j14), .second, .val (.int i30), .val (.int i39), .val (.int i45), .val (.int i57), .val (.double co), .second, .val (.ref b_1), .val (.double pp), .second, .val (.long j110), .second, .val (.int (1 : Int32)), .val (.int i144), .val (.int i150), .val (.int i161), .val (.int i172), .val (.int i179), .val (.int i186), .val (.int i194), .val (.double mu2), .second, .val (.double co2), .second, .val (.ref b_4), .val (.double pp2), .second, .unset] [(.int (cmpValue (FP.dcmp pp2 co2) .l))]))
  refine Go.step (fun t k => XS.ifNo X_6.here hx rfl (hb hby at_246) rfl (dcN (cd := .ne) (DE.cmp qp2 qco2) (fun q => q rfl)) k) ?_
  show Go p.tables e below P (T_6.setTop (mkF m 249 #[.val (.int p1), .val (.int p2), .val (.int p3), .val (.int p4), .val (.int p5), .val (.int p6), .val (.int i8), .val (.long j14), .second, .val (.int i30), .val (.int i39), .val (.int i45), .val (.int i57), .val (.double co), .second, .val (.ref b_1), .val (.double pp), .second, .val (.long j110), .second, .val (.int (1 : Int32)), .val (.int i144), .val (.int i150), .val (.int i161), .val (.int i172), .val (.int i179), .val (.int i186), .val (.int i194), .val (.double mu2), .second, .val (.double co2), .second, .val (.ref b_4), .val (.double pp2), .second, .unset] []))
  refine Go.step (fun t k => XS.iconst X_6.here hx rfl (hb hby at_249) k) ?_
  show Go p.tables e below P (T_6.setTop (mkF m 250 #[.val (.int p1), .val (.int p2), .val (.int p3), .val (.int p4), .val (.int p5), .val (.int p6), .val (.int i8), .val (.long j14), .second, .val (.int i30), .val (.int i39), .val (.int i45), .val (.int i57), .val (.double co), .second, .val (.ref b_1), .val (.double pp), .second, .val (.long j110), .second, .val (.int (1 : Int32)), .val (.int i144), .val (.int i150), .val (.int i161), .val (.int i172), .val (.int i179), .val (.int i186), .val (.int i194), .val (.double mu2), .second, .val (.double co2), .second, .val (.ref b_4), .val (.double pp2), .second, .unset] [(.int (1 : Int32))]))
  refine Go.step (fun t k => XS.goto X_6.here hx rfl (pc0 := 250) (pc' := 254) rfl (hb hby at_250) (by decide) (by decide) k) ?_
  show Go p.tables e below P (T_6.setTop (mkF m 254 #[.val (.int p1), .val (.int p2), .val (.int p3), .val (.int p4), .val (.int p5), .val (.int p6), .val (.int i8), .val (.long j14), .second, .val (.int i30), .val (.int i39), .val (.int i45), .val (.int i57), .val (.double co), .second, .val (.ref b_1), .val (.double pp), .second, .val (.long j110), .second, .val (.int (1 : Int32)), .val (.int i144), .val (.int i150), .val (.int i161), .val (.int i172), .val (.int i179), .val (.int i186), .val (.int i194), .val (.double mu2), .second, .val (.double co2), .second, .val (.ref b_4), .val (.double pp2), .second, .unset] [(.int (1 : Int32))]))
  refine Go.step (fun t k => XS.istore X_6.here hx rfl (hb hby at_254) rfl (l' := #[.val (.int p1), .val (.int p2), .val (.int p3), .val (.int p4), .val (.int p5), .val (.int p6), .val (.int i8), .val (.long j14), .second, .val (.int i30), .val (.int i39), .val (.int i45), .val (.int i57), .val (.double co), .second, .val (.ref b_1), .val (.double pp), .second, .val (.long j110), .second, .val (.int (1 : Int32)), .val (.int i144), .val (.int i150), .val (.int i161), .val (.int i172), .val (.int i179), .val (.int i186), .val (.int i194), .val (.double mu2), .second, .val (.double co2), .second, .val (.ref b_4), .val (.double pp2), .second, .val (.int (1 : Int32))]) rfl k) ?_
  show Go p.tables e below P (T_6.setTop (mkF m 256 #[.val (.int p1), .val (.int p2), .val (.int p3), .val (.int p4), .val (.int p5), .val (.int p6), .val (.int i8), .val (.long j14), .second, .val (.int i30), .val (.int i39), .val (.int i45), .val (.int i57), .val (.double co), .second, .val (.ref b_1), .val (.double pp), .second, .val (.long j110), .second, .val (.int (1 : Int32)), .val (.int i144), .val (.int i150), .val (.int i161), .val (.int i172), .val (.int i179), .val (.int i186), .val (.int i194), .val (.double mu2), .second, .val (.double co2), .second, .val (.ref b_4), .val (.double pp2), .second, .val (.int (1 : Int32))] []))
  refine Go.step (fun t k => XS.iload X_6.here hx rfl (hb hby at_256) rfl  k) ?_
  show Go p.tables e below P (T_6.setTop (mkF m 258 #[.val (.int p1), .val (.int p2), .val (.int p3), .val (.int p4), .val (.int p5), .val (.int p6), .val (.int i8), .val (.long j14), .second, .val (.int i30), .val (.int i39), .val (.int i45), .val (.int i57), .val (.double co), .second, .val (.ref b_1), .val (.double pp), .second, .val (.long j110), .second, .val (.int (1 : Int32)), .val (.int i144), .val (.int i150), .val (.int i161), .val (.int i172), .val (.int i179), .val (.int i186), .val (.int i194), .val (.double mu2), .second, .val (.double co2), .second, .val (.ref b_4), .val (.double pp2), .second, .val (.int (1 : Int32))] [(.int (1 : Int32))]))
  refine Go.step (fun t k => XS.ifNo X_6.here hx rfl (hb hby at_258) rfl (ifN (cd := .eq) (by omega : ¬ ((1 : Int) = 0))) k) ?_
  show Go p.tables e below P (T_6.setTop (mkF m 261 #[.val (.int p1), .val (.int p2), .val (.int p3), .val (.int p4), .val (.int p5), .val (.int p6), .val (.int i8), .val (.long j14), .second, .val (.int i30), .val (.int i39), .val (.int i45), .val (.int i57), .val (.double co), .second, .val (.ref b_1), .val (.double pp), .second, .val (.long j110), .second, .val (.int (1 : Int32)), .val (.int i144), .val (.int i150), .val (.int i161), .val (.int i172), .val (.int i179), .val (.int i186), .val (.int i194), .val (.double mu2), .second, .val (.double co2), .second, .val (.ref b_4), .val (.double pp2), .second, .val (.int (1 : Int32))] []))
  refine Go.step (fun t k => XS.iload X_6.here hx rfl (hb hby at_261) rfl  k) ?_
  show Go p.tables e below P (T_6.setTop (mkF m 263 #[.val (.int p1), .val (.int p2), .val (.int p3), .val (.int p4), .val (.int p5), .val (.int p6), .val (.int i8), .val (.long j14), .second, .val (.int i30), .val (.int i39), .val (.int i45), .val (.int i57), .val (.double co), .second, .val (.ref b_1), .val (.double pp), .second, .val (.long j110), .second, .val (.int (1 : Int32)), .val (.int i144), .val (.int i150), .val (.int i161), .val (.int i172), .val (.int i179), .val (.int i186), .val (.int i194), .val (.double mu2), .second, .val (.double co2), .second, .val (.ref b_4), .val (.double pp2), .second, .val (.int (1 : Int32))] [(.int (1 : Int32))]))
  refine Go.step (fun t k => XS.ifNo X_6.here hx rfl (hb hby at_263) rfl (ifN (cd := .eq) (by omega : ¬ ((1 : Int) = 0))) k) ?_
  show Go p.tables e below P (T_6.setTop (mkF m 266 #[.val (.int p1), .val (.int p2), .val (.int p3), .val (.int p4), .val (.int p5), .val (.int p6), .val (.int i8), .val (.long j14), .second, .val (.int i30), .val (.int i39), .val (.int i45), .val (.int i57), .val (.double co), .second, .val (.ref b_1), .val (.double pp), .second, .val (.long j110), .second, .val (.int (1 : Int32)), .val (.int i144), .val (.int i150), .val (.int i161), .val (.int i172), .val (.int i179), .val (.int i186), .val (.int i194), .val (.double mu2), .second, .val (.double co2), .second, .val (.ref b_4), .val (.double pp2), .second, .val (.int (1 : Int32))] []))
  refine Go.step (fun t k => XS.iconst X_6.here hx rfl (hb hby at_266) k) ?_
  show Go p.tables e below P (T_6.setTop (mkF m 267 #[.val (.int p1), .val (.int p2), .val (.int p3), .val (.int p4), .val (.int p5), .val (.int p6), .val (.int i8), .val (.long j14), .second, .val (.int i30), .val (.int i39), .val (.int i45), .val (.int i57), .val (.double co), .second, .val (.ref b_1), .val (.double pp), .second, .val (.long j110), .second, .val (.int (1 : Int32)), .val (.int i144), .val (.int i150), .val (.int i161), .val (.int i172), .val (.int i179), .val (.int i186), .val (.int i194), .val (.double mu2), .second, .val (.double co2), .second, .val (.ref b_4), .val (.double pp2), .second, .val (.int (1 : Int32))] [(.int (1 : Int32))]))
  refine Go.step (fun t k => XS.goto X_6.here hx rfl (pc0 := 267) (pc' := 271) rfl (hb hby at_267) (by decide) (by decide) k) ?_
  show Go p.tables e below P (T_6.setTop (mkF m 271 #[.val (.int p1), .val (.int p2), .val (.int p3), .val (.int p4), .val (.int p5), .val (.int p6), .val (.int i8), .val (.long j14), .second, .val (.int i30), .val (.int i39), .val (.int i45), .val (.int i57), .val (.double co), .second, .val (.ref b_1), .val (.double pp), .second, .val (.long j110), .second, .val (.int (1 : Int32)), .val (.int i144), .val (.int i150), .val (.int i161), .val (.int i172), .val (.int i179), .val (.int i186), .val (.int i194), .val (.double mu2), .second, .val (.double co2), .second, .val (.ref b_4), .val (.double pp2), .second, .val (.int (1 : Int32))] [(.int (1 : Int32))]))
  exact retGo X_6 hx hP Bd.returns hlk rfl (Or.inl ⟨rfl, Or.inr (Or.inl rfl), _, rfl⟩) (hb hby at_271) (by decide) (by decide) (by rw [eh_6]; exact ⟨rfl, N_6⟩)
set_option maxRecDepth 65536 in
set_option maxHeartbeats 40000000 in
theorem comes_1 {Post : Tables → Env → Array Value → State → Outcome → State → Prop} (hpost : ∀ tb e args s v u, (limb_1_1.after args s (.returned v) u = true ∧ limb_1_2.after args s (.returned v) u = true ∧ True) → FrameEnd s (.returned v) u (Jvm.fieldLocs frame_1_writes args s ++ Jvm.arrayLocs frame_1_arrays args s ++ Jvm.staticLocs frame_1_statics s) 16 128 → Post tb e args s (.returned v) u) :
    ArmFor flags0 classFile x code maxLocals ret World_1 tables_1 room_1 Calls_1 rest_1 Pre_1 Post := by
  intro l hfl _ _ p e ha hc hk s m args below hf hA hF happ hP
  obtain ⟨hcalls, hrest, hpre⟩ := hP
  obtain ⟨-, -, -, hnamed, -, -, -, hat⟩ := (Spec.applies_iff hf).mp happ
  obtain ⟨hg, hn⟩ := and_e (Cond.before_iff.mp (show (Jvm.Cond.and given_1 narrow_1).before args s = true from hpre))
  obtain ⟨gc, hg0⟩ := and_e hg
  obtain ⟨ga0, hg1⟩ := and_e hg0
  obtain ⟨ga1, hg2⟩ := and_e hg1
  obtain ⟨ga2, hg3⟩ := and_e hg2
  obtain ⟨ga3, hg4⟩ := and_e hg3
  obtain ⟨ga4, hg5⟩ := and_e hg4
  have ga5 := hg5
  obtain ⟨w0, w1, w2, w3, w4, w5, rfl⟩ : ∃ w0 w1 w2 w3 w4 w5 : Value, args = #[w0, w1, w2, w3, w4, w5] := by
    have hs : args.size = 6 := by simpa [Cond.value, given_1] using gc
    obtain ⟨L⟩ := args
    match L, hs with
    | [w0, w1, w2, w3, w4, w5], _ => exact ⟨w0, w1, w2, w3, w4, w5, rfl⟩
  have hw := fun d (hd : d ∈ tables_1) => atoms_spec (ws := Jvm.Cond.code x code maxLocals ret :: tables_1) hat d (List.mem_cons_of_mem _ hd)
  obtain ⟨i0, ei0⟩ := is_v ga0
  obtain rfl : w0 = (.int i0) := Option.some.inj ei0
  obtain ⟨i1, ei1⟩ := is_v ga1
  obtain rfl : w1 = (.int i1) := Option.some.inj ei1
  obtain ⟨i2, ei2⟩ := is_v ga2
  obtain rfl : w2 = (.int i2) := Option.some.inj ei2
  obtain ⟨i3, ei3⟩ := is_v ga3
  obtain rfl : w3 = (.int i3) := Option.some.inj ei3
  obtain ⟨i4, ei4⟩ := is_v ga4
  obtain rfl : w4 = (.int i4) := Option.some.inj ei4
  obtain ⟨i5, ei5⟩ := is_v ga5
  obtain rfl : w5 = (.int i5) := Option.some.inj ei5
  obtain ⟨n, o, h1, h2, h3, _, L, rfl, ⟨rfl, N⟩, hq⟩ := rm0 l s _ hw tables_1 i0 i1 i2 i3 i4 i5 s.heap s.heap.size (Nat.le_refl _) p e ha hc hk s m _ below hf ((Spec.applies_iff_loose hf).mp happ).1 ⟨rfl, State.Warmed39.refl s, rfl⟩ trivial
  refine ⟨n, _, h1, h2, h3, hpost _ _ _ _ _ _ ⟨Cond.after_iff.mpr rfl, Cond.after_iff.mpr (eq_i res_at (Term.int_eval (1)) rfl), trivial⟩ ⟨hq.1, hq.2.1, (hq.2.2.sift fun y hy => Or.inr (N y hy)).mono (by decide) (by decide)⟩⟩
theorem main_1_1 : Claimed_1_1 := comes_1 fun _ _ _ _ _ _ h hF => ⟨h.1, hF⟩
theorem main_1_2 : Claimed_1_2 := comes_1 fun _ _ _ _ _ _ h hF => ⟨h.2.1, hF⟩
end Jvm.Pilot.@@N@@
namespace Jvm.Pilot.@@N@@
open Jvm Jvm.ClassFile Sem Op Lib Jvm.Free Jvm.Stand Jvm.Pilot.@@N@@.Jvm.D
/-! MADE BY PROGRAM (witnessworld.py) out of the Statement's table words and the real class files: 11 classes; the members and pool entries that the words name. The judged class is class 1, her method 1. -/
namespace start1
open Jvm.ClassFile
def u (s : String) : CpInfo := .utf8 (stringToUtf16 s)
/-- a pool by its gaps: so many unusable entries, then the entry; so many at the end -/
def gap : Nat → List CpInfo → List CpInfo
  | 0, r => r
  | n + 1, r => .unusable :: gap n r
def poolList (es : List (Nat × CpInfo)) (last : Nat) : List CpInfo := es.foldr (fun e r => gap e.1 (e.2 :: r)) (gap last [])
def pool (es : List (Nat × CpInfo)) (last : Nat) : Array CpInfo := ⟨poolList es last⟩
def fileOf (pool : Array CpInfo) (this : Nat) (attrs : Array Attribute := #[]) (ms : Array MethodInfo := #[]) (fl : Nat := 33) (sup : Nat := 0) (ifs : Array Nat := #[]) (fds : Array FieldInfo := #[]) : ClassFile where
  minorVersion := 0
  majorVersion := 65
  constantPool := pool
  accessFlags := fl
  thisClass := this
  superClass := sup
  interfaces := ifs
  fields := fds
  methods := ms
  attributes := attrs
def plain (name : String) (sup : Option ClassId) : Class where
  name := name
  kind := .ordinary
  loader := none
  accessFlags := 33
  super := sup
  interfaces := #[]
  cf := none
  fields := #[]
  methods := #[]
  instanceTypes := #[]
  staticTypes := #[]
  resolved := #[]
  callSites := []
  init := .initialized
  statics := none
  mirror := none

def pool0 : Array CpInfo := pool [(5, u "<init>"), (0, u "()V"), (1, .class_ 10), (1, u "java/lang/Object")] 113

def k0c0 : Code := { maxStack := 0, maxLocals := 1, code := object_method_1_code, exceptionTable := #[], attributes := #[] }
def k0m0 : Method := { name := "<init>", desc := "()V", sig := { parameters := [], returnType := none }, accessFlags := 1, code := some k0c0 }
/-- java/lang/Object -/
def k0 : Class := { plain "java/lang/Object" none with
  accessFlags := 33
  interfaces := #[]
  cf := some (fileOf pool0 8 #[] #[{ accessFlags := 1, nameIndex := 5, descriptorIndex := 6, attributes := #[] }] 33 0 #[] #[])
  fields := #[]
  methods := #[k0m0]
  instanceTypes := #[]
  staticTypes := #[]
  resolved := Array.replicate 124 none
  statics := none }

def pool1 : Array CpInfo := pool [(2, .class_ 4), (1, u "java/lang/Object"), (0, u "<init>"), (0, u "()V"), (0, .integer 2147483647), (0, .long 2147483647), (1, .double 4652218415073722368), (1, .class_ 13), (0, u "com/example/eliteness/eliteness/ranking/Smoothing$Dirichlet"), (0, .methodref 12 15), (0, .nameAndType 5 16), (0, u "(D)V"), (0, .methodref 12 18), (0, .nameAndType 19 20), (0, u "probability"), (0, u "(IIDI)D"), (0, .long 1024), (1, .integer 1048575), (0, .integer 1073741823), (0, .double 4643211215818981376), (1, .class_ 28), (0, u "com/example/eliteness/eliteness/ranking/DirichletProbabilityPinLaw"), (2, u "law"), (0, u "(IIIIII)Z")] 7

def k1m0 : Method := { name := "<init>", desc := "()V", sig := { parameters := [], returnType := none }, accessFlags := 1, code := none }
def k1c1 : Code := { maxStack := 7, maxLocals := 36, code := code, exceptionTable := #[], attributes := #[] }
def k1m1 : Method := { name := "law", desc := "(IIIIII)Z", sig := { parameters := [.int, .int, .int, .int, .int, .int], returnType := some .boolean }, accessFlags := 9, code := some k1c1 }
/-- com/example/eliteness/eliteness/ranking/DirichletProbabilityPinLaw -/
def k1 : Class := { plain "com/example/eliteness/eliteness/ranking/DirichletProbabilityPinLaw" (some 0) with
  accessFlags := 49
  interfaces := #[]
  cf := some (fileOf pool1 27 #[] #[{ accessFlags := 1, nameIndex := 5, descriptorIndex := 6, attributes := #[] }, { accessFlags := 9, nameIndex := 31, descriptorIndex := 32, attributes := #[] }] 49 2 #[] #[])
  fields := #[]
  methods := #[k1m0, k1m1]
  instanceTypes := #[]
  staticTypes := #[]
  resolved := Array.replicate 40 none
  statics := none }

def pool2 : Array CpInfo := pool [(1, .methodref 2 3), (0, .class_ 4), (0, .nameAndType 5 6), (0, u "java/lang/Object"), (0, u "<init>"), (0, u "()V"), (0, .class_ 8), (0, u "java/lang/Record")] 13

def k2c0 : Code := { maxStack := 1, maxLocals := 1, code := jdk_30_method_1_code, exceptionTable := #[], attributes := #[] }
def k2m0 : Method := { name := "<init>", desc := "()V", sig := { parameters := [], returnType := none }, accessFlags := 4, code := some k2c0 }
/-- java/lang/Record -/
def k2 : Class := { plain "java/lang/Record" (some 0) with
  accessFlags := 1057
  interfaces := #[]
  cf := some (fileOf pool2 7 #[] #[{ accessFlags := 4, nameIndex := 5, descriptorIndex := 6, attributes := #[] }] 1057 2 #[] #[])
  fields := #[]
  methods := #[k2m0]
  instanceTypes := #[]
  staticTypes := #[]
  resolved := Array.replicate 22 none
  statics := none }

def pool3 : Array CpInfo := pool [(1, .class_ 2), (0, u "com/example/eliteness/eliteness/ranking/Smoothing"), (0, .class_ 4), (0, u "java/lang/Object"), (5, .class_ 11), (0, u "com/example/eliteness/eliteness/ranking/Smoothing$Dirichlet"), (0, .class_ 13), (0, u "com/example/eliteness/eliteness/ranking/Smoothing$JelinekMercer"), (0, .class_ 15), (0, u "com/example/eliteness/eliteness/ranking/Smoothing$Laplace"), (0, .class_ 17), (0, u "com/example/eliteness/eliteness/ranking/Smoothing$MaximumLikelihood")] 6

/-- com/example/eliteness/eliteness/ranking/Smoothing -/
def k3 : Class := { plain "com/example/eliteness/eliteness/ranking/Smoothing" (some 0) with
  accessFlags := 1537
  interfaces := #[]
  cf := some (fileOf pool3 1 #[.nestMembers #[10, 12, 14, 16]] #[] 1537 3 #[] #[])
  fields := #[]
  methods := #[]
  instanceTypes := #[]
  staticTypes := #[]
  resolved := Array.replicate 24 none
  statics := none }

def pool4 : Array CpInfo := pool [(1, .methodref 2 3), (0, .class_ 4), (0, .nameAndType 5 6), (0, u "java/lang/Record"), (0, u "<init>"), (0, u "()V"), (2, .double 9218868437227405312), (10, .fieldref 21 22), (0, .class_ 23), (0, .nameAndType 24 25), (0, u "com/example/eliteness/eliteness/ranking/Smoothing$Dirichlet"), (0, u "mu"), (0, u "D"), (12, .class_ 39), (0, u "com/example/eliteness/eliteness/ranking/Smoothing"), (0, u "(D)V"), (4, u "probability"), (0, u "(IIDI)D")] 33

def k4c0 : Code := { maxStack := 4, maxLocals := 3, code := prog_54_method_1_code, exceptionTable := #[], attributes := #[] }
def k4m0 : Method := { name := "<init>", desc := "(D)V", sig := { parameters := [.double], returnType := none }, accessFlags := 1, code := some k4c0 }
def k4c1 : Code := { maxStack := 6, maxLocals := 6, code := prog_54_method_2_code, exceptionTable := #[], attributes := #[] }
def k4m1 : Method := { name := "probability", desc := "(IIDI)D", sig := { parameters := [.int, .int, .double, .int], returnType := some .double }, accessFlags := 1, code := some k4c1 }
/-- com/example/eliteness/eliteness/ranking/Smoothing$Dirichlet -/
def k4 : Class := { plain "com/example/eliteness/eliteness/ranking/Smoothing$Dirichlet" (some 2) with
  accessFlags := 49
  interfaces := #[3]
  cf := some (fileOf pool4 21 #[.nestHost 38] #[{ accessFlags := 1, nameIndex := 5, descriptorIndex := 40, attributes := #[] }, { accessFlags := 1, nameIndex := 45, descriptorIndex := 46, attributes := #[] }] 49 2 #[38] #[{ accessFlags := 18, nameIndex := 24, descriptorIndex := 25, attributes := #[] }])
  fields := #[{ name := "mu", type := .double, accessFlags := 18, slot := 0, constantValue := 0 }]
  methods := #[k4m0, k4m1]
  instanceTypes := #[.double]
  staticTypes := #[]
  resolved := Array.replicate 80 none
  statics := none }

def pool5 : Array CpInfo := pool [(1, u "java/lang/Cloneable"), (0, .class_ 1), (0, u "java/lang/Object"), (0, .class_ 3)] 3

/-- java/lang/Cloneable -/
def k5 : Class := { plain "java/lang/Cloneable" (some 0) with
  accessFlags := 1537
  interfaces := #[]
  cf := some (fileOf pool5 2 #[] #[] 1537 4 #[] #[])
  fields := #[]
  methods := #[]
  instanceTypes := #[]
  staticTypes := #[]
  resolved := Array.replicate 8 none
  statics := none }

def pool6 : Array CpInfo := pool [(1, u "java/io/Serializable"), (0, .class_ 1), (0, u "java/lang/Object"), (0, .class_ 3)] 3

/-- java/io/Serializable -/
def k6 : Class := { plain "java/io/Serializable" (some 0) with
  accessFlags := 1537
  interfaces := #[]
  cf := some (fileOf pool6 2 #[] #[] 1537 4 #[] #[])
  fields := #[]
  methods := #[]
  instanceTypes := #[]
  staticTypes := #[]
  resolved := Array.replicate 8 none
  statics := none }

/-- the primitive byte -/
def k7 : Class := { plain "byte" none with kind := .primitive 'B', accessFlags := 0x411 }
/-- [B -/
def k8 : Class := { plain "[B" (some 0) with kind := .array 7 .byte, interfaces := #[5, 6], accessFlags := 1041 }

/-- the primitive int -/
def k9 : Class := { plain "int" none with kind := .primitive 'I', accessFlags := 0x411 }
/-- [I -/
def k10 : Class := { plain "[I" (some 0) with kind := .array 9 .int, interfaces := #[5, 6], accessFlags := 1041 }

def heap : Heap := #[]
def classes : Array Class := #[k0, k1, k2, k3, k4, k5, k6, k7, k8, k9, k10]
def interned : List (Array UInt16 × Addr) := []
def slotsUsed : Nat := 0
def theMethod : MethodId := ⟨1, 1⟩
def args0 : Array Value := #[.int 3, .int 8, .int 5, .int 7, .int 9, .int 11]
def aboutOver (below : List Frame) : State where
  vm := { classes := classes, interned := interned.toArray }
  heap := heap
  slotsUsed := slotsUsed
  threads := #[{ frames := .invoking theMethod args0 :: below }]
def below0 : List Frame := [.native { method := ⟨0, 0⟩, args := #[] }]
def about1 : State := aboutOver below0
def p0 : Program := .bare "" "" ""
def e0 : Env := launch0.env 0 0 0
theorem w_frames : about1.frames = Frame.invoking theMethod args0 :: below0 := rfl
set_option maxRecDepth 65536 in
theorem w_args : argsFit about1.vm theMethod args0 = true := by decide +kernel
set_option maxRecDepth 65536 in
theorem w_heap : heapFits about1 = true := by decide +kernel
set_option maxRecDepth 65536 in
theorem w_runnable : about1.curStatus? = some .runnable := by decide +kernel
set_option maxRecDepth 65536 in
theorem w_alone : about1.alone = true := by decide +kernel
set_option maxRecDepth 65536 in
theorem w_named : about1.methodNamed? x = some theMethod := by decide +kernel
set_option maxRecDepth 65536 in
theorem w_hears : about1.hears theMethod below0 = true := by decide +kernel
set_option maxRecDepth 65536 in
theorem w_ripe : about1.ripe theMethod args0 below0 = true := by decide +kernel
theorem w_running : about1.status = .running := rfl
set_option maxRecDepth 65536 in
theorem w_room : about1.hasRoom e0.platform room_1 = true :=
  launch0.hasRoom_least _ room_1 (by decide +kernel) (by decide +kernel) (by decide +kernel) (by decide +kernel) (by decide +kernel) (by decide +kernel)
theorem allAtoms_all (ts : List Jvm.Cond) (a : Array Jvm.Value) (st : Jvm.State) : (allAtoms ts).before a st = ts.all (fun c => c.before a st) := by
  induction ts with
  | nil => rfl
  | cons c t ih =>
    show (Jvm.Cond.and c (allAtoms t)).before a st = _
    rw [Jvm.Cond.before_and, ih, List.all_cons]
def words1 : List Jvm.Cond := Jvm.Cond.code x code maxLocals ret :: tables_1
/-- a 'code' word, met by the world's own term for the bytes: nothing is compared byte by byte -/
theorem code_word {y : MethodName} {bytes : ByteArray} {mx : Nat} {rt : Option FieldType} {a : Array Value} {s : State} {m : MethodId} {meth : Method} {c : Code} (h1 : s.methodNamed? y = some m) (h2 : s.vm.method? m = some meth) (h3 : meth.code = some c) (h4 : c.code = bytes)
    (h5 : (c.maxLocals == mx && c.exceptionTable.isEmpty && decide (c.maxStack ≤ mostOperands) && decide (meth.sig.returnType = rt) && !meth.locks && decide (parseMethodDescriptor y.desc = some meth.sig)) = true) : (Jvm.Cond.code y bytes mx rt).before a s = true := by
  simp only [Bool.and_eq_true, beq_iff_eq, Bool.not_eq_true', decide_eq_true_eq] at h5
  obtain ⟨⟨⟨⟨⟨g1, g2⟩, g3⟩, g4⟩, g5⟩, g6⟩ := h5
  simp [Cond.before, Cond.holds, Cond.value, h1, h2, h3, h4, g1, g2, g3, g4, g5, g6]
def isCode : Jvm.Cond → Bool
  | .code _ _ _ _ => true
  | _ => false
theorem all_split {L : List Jvm.Cond} {P : Jvm.Cond → Bool} (h1 : L.all (fun c => isCode c || P c) = true) (h2 : ∀ c ∈ L.filter isCode, P c = true) : L.all P = true := by
  refine List.all_eq_true.mpr fun c hc => ?_
  have h := List.all_eq_true.mp h1 c hc
  rcases Bool.eq_false_or_eq_true (isCode c) with hi | hi
  · exact h2 c (List.mem_filter.mpr ⟨hc, hi⟩)
  · simpa [hi] using h
set_option maxRecDepth 65536 in
theorem w_c0 : (Jvm.Cond.code x code maxLocals ret).before args0 about1 = true := code_word (m := ⟨1, 1⟩) (meth := k1m1) (c := k1c1) (by decide +kernel) rfl rfl rfl (by decide +kernel)
set_option maxRecDepth 65536 in
theorem w_c1 : (Jvm.Cond.code ({ cls := "com/example/eliteness/eliteness/ranking/Smoothing$Dirichlet", name := "<init>", desc := "(D)V" } : Jvm.MethodName) prog_54_method_1_code (3 : Nat) (Option.none : Option Jvm.ClassFile.FieldType)).before args0 about1 = true := code_word (m := ⟨4, 0⟩) (meth := k4m0) (c := k4c0) (by decide +kernel) rfl rfl rfl (by decide +kernel)
set_option maxRecDepth 65536 in
theorem w_c2 : (Jvm.Cond.code ({ cls := "java/lang/Record", name := "<init>", desc := "()V" } : Jvm.MethodName) jdk_30_method_1_code (1 : Nat) (Option.none : Option Jvm.ClassFile.FieldType)).before args0 about1 = true := code_word (m := ⟨2, 0⟩) (meth := k2m0) (c := k2c0) (by decide +kernel) rfl rfl rfl (by decide +kernel)
set_option maxRecDepth 65536 in
theorem w_c3 : (Jvm.Cond.code ({ cls := "java/lang/Object", name := "<init>", desc := "()V" } : Jvm.MethodName) object_method_1_code (1 : Nat) (Option.none : Option Jvm.ClassFile.FieldType)).before args0 about1 = true := code_word (m := ⟨0, 0⟩) (meth := k0m0) (c := k0c0) (by decide +kernel) rfl rfl rfl (by decide +kernel)
set_option maxRecDepth 65536 in
theorem w_c4 : (Jvm.Cond.code ({ cls := "com/example/eliteness/eliteness/ranking/Smoothing$Dirichlet", name := "probability", desc := "(IIDI)D" } : Jvm.MethodName) prog_54_method_2_code (6 : Nat) (Option.some Jvm.ClassFile.FieldType.double)).before args0 about1 = true := code_word (m := ⟨4, 1⟩) (meth := k4m1) (c := k4c1) (by decide +kernel) rfl rfl rfl (by decide +kernel)
def codes1 : List Jvm.Cond := [Jvm.Cond.code x code maxLocals ret, Jvm.Cond.code ({ cls := "com/example/eliteness/eliteness/ranking/Smoothing$Dirichlet", name := "<init>", desc := "(D)V" } : Jvm.MethodName) prog_54_method_1_code (3 : Nat) (Option.none : Option Jvm.ClassFile.FieldType), Jvm.Cond.code ({ cls := "java/lang/Record", name := "<init>", desc := "()V" } : Jvm.MethodName) jdk_30_method_1_code (1 : Nat) (Option.none : Option Jvm.ClassFile.FieldType), Jvm.Cond.code ({ cls := "java/lang/Object", name := "<init>", desc := "()V" } : Jvm.MethodName) object_method_1_code (1 : Nat) (Option.none : Option Jvm.ClassFile.FieldType), Jvm.Cond.code ({ cls := "com/example/eliteness/eliteness/ranking/Smoothing$Dirichlet", name := "probability", desc := "(IIDI)D" } : Jvm.MethodName) prog_54_method_2_code (6 : Nat) (Option.some Jvm.ClassFile.FieldType.double)]
set_option maxRecDepth 65536 in
theorem codes_eq : words1.filter isCode = codes1 := rfl
theorem w_codes : ∀ c ∈ words1.filter isCode, c.before args0 about1 = true := by
  rw [codes_eq]
  intro c hc
  simp only [codes1, List.mem_cons, List.not_mem_nil, or_false] at hc
  rcases hc with rfl | rfl | rfl | rfl | rfl
  · exact w_c0
  · exact w_c1
  · exact w_c2
  · exact w_c3
  · exact w_c4
set_option maxRecDepth 65536 in
theorem w_t1 : (words1.take 24).all (fun c => isCode c || c.before args0 about1) = true := by decide +kernel
set_option maxRecDepth 65536 in
theorem w_t2 : (words1.drop 24).all (fun c => isCode c || c.before args0 about1) = true := by decide +kernel
theorem w_tables : (allAtoms (Jvm.Cond.code x code maxLocals ret :: tables_1)).before args0 about1 = true := by
  rw [allAtoms_all]
  show words1.all (fun c => c.before args0 about1) = true
  refine all_split ?_ w_codes
  rw [← List.take_append_drop 24 words1, List.all_append, w_t1, w_t2]
  rfl
set_option maxRecDepth 65536 in
theorem w_case : (Jvm.Cond.and given_1 narrow_1).before args0 about1 = true := by decide +kernel
theorem w_applies : (headSpec (Jvm.Cond.code x code maxLocals ret :: tables_1) room_1).applies x e0.platform about1 = true :=
  (Spec.applies_iff w_frames).mpr ⟨w_running, w_runnable, w_alone, w_named, w_hears, w_ripe, w_room, w_tables⟩
theorem atStart : AtStart classFile x code maxLocals ret World_1 tables_1 room_1 Calls_1 rest_1 Pre_1 launch0 p0 e0 about1 theMethod args0 below0 :=
  ⟨lists_1, trivial, launch0.admits_env _ _ _, launch0.least_env, fairChoices_fair.cas, fairChoices_fair.clock, w_frames, w_args, w_heap, w_applies, trivial, trivial, w_case⟩
end start1
theorem witness_1 : WitnessClaimed_1 := ⟨start1.p0, start1.e0, start1.about1, start1.theMethod, start1.args0, start1.below0, start1.atStart⟩
end Jvm.Pilot.@@N@@
