import JvmDerived
import JvmDerived.Pilot.@@N@@Statement
import JvmDerived.Pilot.@@N@@Code
set_option linter.unusedVariables false
set_option linter.unusedSimpArgs false
namespace Jvm.Pilot.@@N@@.Own
open Jvm Jvm.ClassFile Sem Op Lib Jvm.Free Jvm.Stand Jvm.LawKit Jvm.RoadKit
/-- from S the run comes to an end of which P holds -/
def Go (tb : Tables) (e : Env) (below : List Frame) (P : State → Outcome → Prop) (S : State) : Prop :=
  ∃ s₂ o, Steps tb e below S s₂ ∧ s₂.status = .running ∧ Ended s₂ below o ∧ P s₂ o
theorem Go.step {tb : Tables} {e : Env} {below : List Frame} {P : State → Outcome → Prop} {S S' : State}
    (h : ∀ t, Steps tb e below S' t → Steps tb e below S t) (g : Go tb e below P S') : Go tb e below P S := by
  obtain ⟨t, o, h1, h2⟩ := g; exact ⟨t, o, h t h1, h2⟩
theorem Go.tr {tb : Tables} {e : Env} {below : List Frame} {P : State → Outcome → Prop} {S S' : State}
    (h : Steps tb e below S S') (g : Go tb e below P S') : Go tb e below P S := by
  obtain ⟨t, o, h1, h2⟩ := g; exact ⟨t, o, h.trans h1, h2⟩
theorem Go.start {tb : Tables} {e : Env} {below : List Frame} {P₀ : State → Outcome → Prop} {S S' : State} (q : S = S')
    (h : ∀ P : State → Outcome → Prop, (∀ s₂ o, P₀ s₂ o → P s₂ o) → Go tb e below P S') : Go tb e below P₀ S := by
  subst q; exact h P₀ fun _ _ h => h
/-- a value gets a name -/
theorem nm {α : Type} (F : α → Prop) (x : α) (H : ∀ z, z = x → F z) : F x := H x rfl
section Ends
variable {p : Program} {l : Launch} {e : Env} {R : Room} {s : State} {m : MethodId} {args : Array Value} {below : List Frame} {meth : Method} {c : Code} {T : State} {locs : List Loc} {cells slots : Nat}
theorem retGo (X : Stand p l e R s m args below meth c T locs cells slots) (hx : p.tables.exec = Jvm.exec) {P : State → Outcome → Prop} {Q : Option Value → Heap → List Loc → Prop} {kc ks : Nat}
    (hP : ∀ s₂ o, (∃ v L, o = .returned v ∧ Q v s₂.heap L ∧ FrameEnd s o s₂ L kc ks) → P s₂ o) {pc : Nat} {Ls : Array Slot} {w : Value} {t : FieldType} {i : Instr} {rest : List Value} (hret : meth.sig.returnType = some t) (hlk : meth.locks = false) (hn : narrow t w = w)
    (hi : (i = .ireturn ∧ (t = .int ∨ t = .boolean ∨ t = .byte ∨ t = .char ∨ t = .short) ∧ ∃ z, w = .int z) ∨ (i = .lreturn ∧ t = .long ∧ ∃ z, w = .long z) ∨ (i = .dreturn ∧ t = .double ∧ ∃ z, w = .double z) ∨ (i = .freturn ∧ t = .float ∧ ∃ z, w = .float z) ∨ (i = .areturn ∧ t.isReference = true ∧ w.isRef = true))
    (hd : decode c.code pc = .ok (i, 1)) (hc : cells ≤ kc) (hs : slots ≤ ks) (hQ : Q (some w) T.heap locs) : Go p.tables e below P (T.setTop (mkF m pc Ls (w :: rest))) := by
  obtain ⟨fs, hr, hrun, hended, hW, hsame⟩ := X.leave (v := some w) (fun h => by rw [hret] at h; cases h) hlk
  exact ⟨_, _, retOut X hx hret hn hi hd hr, hrun, hended, hP _ _ ⟨_, _, rfl, hQ, ⟨_, rfl⟩, hW, hsame.mono hc hs⟩⟩
theorem voidGo (X : Stand p l e R s m args below meth c T locs cells slots) (hx : p.tables.exec = Jvm.exec) {P : State → Outcome → Prop} {Q : Option Value → Heap → List Loc → Prop} {kc ks : Nat}
    (hP : ∀ s₂ o, (∃ v L, o = .returned v ∧ Q v s₂.heap L ∧ FrameEnd s o s₂ L kc ks) → P s₂ o) {pc : Nat} {Ls : Array Slot} (hret : meth.sig.returnType = none) (hlk : meth.locks = false)
    (hd : decode c.code pc = .ok (.return_, 1)) (hc : cells ≤ kc) (hs : slots ≤ ks) (hQ : Q none T.heap locs) : Go p.tables e below P (T.setTop (mkF m pc Ls [])) := by
  obtain ⟨fs, hr, hrun, hended, hW, hsame⟩ := X.leave (v := none) (fun _ => rfl) hlk
  exact ⟨_, _, X.returnOut hx hret hd hr, hrun, hended, hP _ _ ⟨_, _, rfl, hQ, ⟨_, rfl⟩, hW, hsame.mono hc hs⟩⟩
end Ends
/-! branches: what is compared, as whole numbers -/
def rel : ClassFile.Cond → Int → Int → Prop
  | .eq, a, b => a = b
  | .ne, a, b => ¬ a = b
  | .lt, a, b => a < b
  | .ge, a, b => b ≤ a
  | .gt, a, b => b < a
  | .le, a, b => a ≤ b
theorem icY {cd : ClassFile.Cond} {x y : Int32} (h : rel cd x.toInt y.toInt) : if_icmp.holds cd x y = true := by
  cases cd <;> simp only [rel] at h <;> simp [if_icmp.holds, Int32.lt_iff_toInt_lt, Int32.le_iff_toInt_le, ← Int32.toInt_inj] <;> omega
theorem icN {cd : ClassFile.Cond} {x y : Int32} (h : ¬ rel cd x.toInt y.toInt) : if_icmp.holds cd x y = false := by
  cases cd <;> simp only [rel] at h <;> simp [if_icmp.holds, Int32.lt_iff_toInt_lt, Int32.le_iff_toInt_le, ← Int32.toInt_inj] <;> omega
theorem ifY {cd : ClassFile.Cond} {x : Int32} (h : rel cd x.toInt 0) : ifCond.holds cd x = true := (if0 cd x).trans (icY h)
theorem ifN {cd : ClassFile.Cond} {x : Int32} (h : ¬ rel cd x.toInt 0) : ifCond.holds cd x = false := (if0 cd x).trans (icN h)
theorem lcmp_rel {cd : ClassFile.Cond} {x y : Int64} : rel cd (lcmpW x y).toInt 0 ↔ rel cd x.toInt y.toInt := by
  have h1 : x < y ↔ x.toInt < y.toInt := Int64.lt_iff_toInt_lt
  have h2 : y < x ↔ y.toInt < x.toInt := Int64.lt_iff_toInt_lt
  have h3 : x = y ↔ x.toInt = y.toInt := Int64.toInt_inj.symm
  have e1 : (1 : Int32).toInt = 1 := rfl
  have e2 : (-1 : Int32).toInt = -1 := rfl
  have e3 : (0 : Int32).toInt = 0 := rfl
  unfold lcmpW
  by_cases c1 : x > y
  · rw [if_pos c1, e1]; have := h2.mp c1; cases cd <;> simp only [rel] <;> omega
  · rw [if_neg c1]
    have n1 : ¬ y.toInt < x.toInt := fun q => c1 (h2.mpr q)
    by_cases c2 : x = y
    · rw [if_pos c2, e3]; have q := h3.mp c2; cases cd <;> simp only [rel] <;> first | omega | simp [q]
    · rw [if_neg c2, e2]
      have n2 : ¬ x.toInt = y.toInt := fun q => c2 (h3.mpr q)
      cases cd <;> simp only [rel] <;> omega
theorem lcY {cd : ClassFile.Cond} {x y : Int64} (h : rel cd x.toInt y.toInt) : ifCond.holds cd (lcmpW x y) = true := ifY (lcmp_rel.mpr h)
theorem lcN {cd : ClassFile.Cond} {x y : Int64} (h : ¬ rel cd x.toInt y.toInt) : ifCond.holds cd (lcmpW x y) = false := ifN fun q => h (lcmp_rel.mp q)
theorem cmpV_rel {cd : ClassFile.Cond} {op : CmpOp} {i j : Int} : rel cd (cmpValue (some (compare i j)) op).toInt 0 ↔ rel cd i j := by
  have e1 : (1 : Int32).toInt = 1 := rfl
  have e2 : (-1 : Int32).toInt = -1 := rfl
  have e3 : (0 : Int32).toInt = 0 := rfl
  cases h : compare i j with
  | lt => have := (FP.Core.compare_lt_iff i j).mp h; show rel cd (-1 : Int32).toInt 0 ↔ _; rw [e2]; cases cd <;> simp only [rel] <;> omega
  | eq => have := (FP.Core.compare_eq_iff i j).mp h; show rel cd (0 : Int32).toInt 0 ↔ _; rw [e3]; cases cd <;> simp only [rel] <;> first | omega | simp [this]
  | gt => have := (FP.Core.compare_gt_iff i j).mp h; show rel cd (1 : Int32).toInt 0 ↔ _; rw [e1]; cases cd <;> simp only [rel] <;> omega
theorem dcY {cd : ClassFile.Cond} {op : CmpOp} {r : Option Ordering} {i j : Int} (q : r = some (compare i j)) (h : rel cd i j) : ifCond.holds cd (cmpValue r op) = true := by subst q; exact ifY (cmpV_rel.mpr h)
theorem dcN {cd : ClassFile.Cond} {op : CmpOp} {r : Option Ordering} {i j : Int} (q : r = some (compare i j)) (h : ¬ rel cd i j) : ifCond.holds cd (cmpValue r op) = false := by subst q; exact ifN fun z => h (cmpV_rel.mp z)
end Jvm.Pilot.@@N@@.Own
namespace Jvm.Pilot.@@N@@.Own
open Jvm Jvm.FP Jvm.FP.Core
/-! ## doubles as whole numbers of 2^-1074: what rounding leaves -/
/-- a double's value in units of 2^-1074 -/
def zv (a : UInt64) : Int := zval b64 (val64 a)
/-- a is finite and lies between lo * 2^k and hi * 2^k units -/
def DB (k : Nat) (lo hi : Int) (a : UInt64) : Prop := DFin a ∧ lo * ((2 ^ k : Nat) : Int) ≤ zv a ∧ zv a ≤ hi * ((2 ^ k : Nat) : Int)
/-- a is finite and is i * 2^k units -/
abbrev DE (k : Nat) (i : Int) (a : UInt64) : Prop := DB k i i a
theorem DE.eq {k : Nat} {i : Int} {a : UInt64} (h : DE k i a) : zv a = i * ((2 ^ k : Nat) : Int) := Int.le_antisymm h.2.2 h.2.1
theorem DE.of {k : Nat} {i : Int} {a : UInt64} (hf : DFin a) (h : zv a = i * ((2 ^ k : Nat) : Int)) : DE k i a := ⟨hf, Int.le_of_eq h.symm, Int.le_of_eq h⟩
theorem tn32 {q : Int32} (h0 : 0 ≤ q.toInt) : (q.toBitVec.toNat : Int) = q.toInt := by
  have l := q.toBitVec.isLt
  have e : q.toInt = q.toBitVec.toInt := rfl
  rw [e] at h0 ⊢
  rw [BitVec.toInt_eq_toNat_cond] at h0 ⊢
  split at h0 <;> split <;> omega
theorem nmul {a b : Int} {A B : Nat} (ha : a.natAbs ≤ A) (hb : b.natAbs ≤ B) : (a * b).natAbs ≤ A * B := by rw [Int.natAbs_mul]; exact Nat.mul_le_mul ha hb
theorem le_mul1 {a b : Int} (ha : 0 ≤ a) (hb : 1 ≤ b) : a ≤ a * b := by have := Int.mul_le_mul_of_nonneg_left hb ha; rwa [Int.mul_one] at this
theorem pw_pos (k : Nat) : (0 : Int) < ((2 ^ k : Nat) : Int) := Int.natCast_pos.mpr (Nat.two_pow_pos k)
theorem DB.nn {k : Nat} {lo hi : Int} {a : UInt64} (h : DB k lo hi a) : Jvm.Free.Fl.NoNaN64 a := Jvm.Free.Fl.noNaN64_no.mpr h.1.notNaN
theorem DB.ne {k : Nat} {lo hi : Int} {a : UInt64} (h : DB k lo hi a) : val64 a ≠ .nan := h.1.ne_nan
/-- a number of 53 digits is a double -/
theorem rep {n : Int} {k : Nat} (hn : n.natAbs ≤ 2 ^ 53) (hk : k ≤ 2044) : ∃ s c q, FP.Core.fits b64 (.fin s c q) ∧ zval b64 (.fin s c q) = n * ((2 ^ k : Nat) : Int) := by
  have key : ∀ (n : Int) (k : Nat), n.natAbs < 2 ^ 53 → k ≤ 2045 → ∃ s c q, FP.Core.fits b64 (.fin s c q) ∧ zval b64 (.fin s c q) = n * ((2 ^ k : Nat) : Int) := by
    intro n k hn hk
    have q1 : b64.qmin = -1074 := by decide
    have q2 : b64.qmax = 971 := by decide
    obtain ⟨c', q', h1, h2⟩ := round_exact good_b64 (decide (n < 0)) (c := n.natAbs) (q := b64.qmin + (k : Int)) (show n.natAbs < 2 ^ b64.p from hn) (by omega) (by omega)
    refine ⟨_, c', q', h1 ▸ round_fits good_b64 _, ?_⟩
    show signed (decide (n < 0)) (inUnits c' q' b64.qmin) = _
    rw [h2]
    unfold inUnits
    rw [signed_mul, show (b64.qmin + (k : Int) - b64.qmin).toNat = k by omega]
    congr 1
    unfold signed
    by_cases h : n < 0 <;> simp [h] <;> omega
  by_cases h : n.natAbs < 2 ^ 53
  · exact key n k h (by omega)
  · have e : n.natAbs = 2 ^ 53 := by omega
    have : ∃ m : Int, n = m * 2 ∧ m.natAbs < 2 ^ 53 := by
      rcases Int.natAbs_eq n with q | q
      · exact ⟨2 ^ 52, by rw [q, e]; decide, by decide⟩
      · exact ⟨-2 ^ 52, by rw [q, e]; decide, by decide⟩
    obtain ⟨m, rfl, hm⟩ := this
    obtain ⟨s, c, q, h1, h2⟩ := key m (k + 1) hm (by omega)
    refine ⟨s, c, q, h1, ?_⟩
    rw [h2, Nat.pow_succ, Int.natCast_mul, Int.mul_assoc]
    congr 1
    rw [Int.mul_comm]; rfl
/-- a number between two finite ones is finite -/
theorem fin_between {a : UInt64} {lo hi : Int} {k : Nat} (hl : lo.natAbs ≤ 2 ^ 53) (hh : hi.natAbs ≤ 2 ^ 53) (hk : k ≤ 2044) (hn : val64 a ≠ .nan) (h1 : lo * ((2 ^ k : Nat) : Int) ≤ zv a) (h2 : zv a ≤ hi * ((2 ^ k : Nat) : Int)) : DB k lo hi a := by
  refine ⟨?_, h1, h2⟩
  obtain ⟨s1, c1, q1, f1, e1⟩ := rep hl hk
  obtain ⟨s2, c2, q2, f2, e2⟩ := rep hh hk
  have t1 : zmag b64 (.fin s1 c1 q1) < b64.tails * 2 ^ (b64.exps - 2) := zmag_lt_top good_b64 f1
  have t2 : zmag b64 (.fin s2 c2 q2) < b64.tails * 2 ^ (b64.exps - 2) := zmag_lt_top good_b64 f2
  rw [← e1] at h1
  rw [← e2] at h2
  unfold zv at h1 h2
  cases hv : val64 a with
  | nan => exact absurd hv hn
  | fin s c q => exact ⟨s, c, q, hv⟩
  | inf s =>
    exfalso
    rw [hv] at h1 h2
    have z : zmag b64 (.inf s) = b64.tails * 2 ^ (b64.exps - 2) := rfl
    unfold zval at h1 h2
    rw [z] at h1 h2
    generalize b64.tails * 2 ^ (b64.exps - 2) = top at *
    generalize zmag b64 (.fin s1 c1 q1) = m1 at *
    generalize zmag b64 (.fin s2 c2 q2) = m2 at *
    simp only [sgn] at h1 h2
    cases s <;> cases s1 <;> cases s2 <;> simp only [signed, if_true, Bool.false_eq_true, if_false] at h1 h2 <;> omega
theorem qmin_sub : ((2 ^ (b64.qmin - b64.qmin).toNat : Nat) : Int) = 1 := by rw [Int.sub_self]; rfl
/-- what lies between two numbers of 53 digits is rounded to something between them -/
theorem round_between {s : Bool} {c : Nat} {q : Int} {lo hi : Int} {k : Nat} {a : UInt64} (ha : val64 a = round b64 (.fin s c q)) (hl : lo.natAbs ≤ 2 ^ 53) (hh : hi.natAbs ≤ 2 ^ 53) (hk : k ≤ 2044) {e0 : Int} (h0 : e0 ≤ b64.qmin) (h0e : e0 ≤ q)
    (h1 : lo * ((2 ^ k : Nat) : Int) * ((2 ^ (b64.qmin - e0).toNat : Nat) : Int) ≤ signed s (inUnits c q e0)) (h2 : signed s (inUnits c q e0) ≤ hi * ((2 ^ k : Nat) : Int) * ((2 ^ (b64.qmin - e0).toNat : Nat) : Int)) : DB k lo hi a := by
  obtain ⟨s1, c1, q1, f1, e1⟩ := rep hl hk
  obtain ⟨s2, c2, q2, f2, e2⟩ := rep hh hk
  have hn : val64 a ≠ .nan := by rw [ha]; exact roundRatio_ne_nan _ _ _ _ _
  refine fin_between hl hh hk hn ?_ ?_
  · unfold zv; rw [ha, ← e1]; exact zval_round_ge good_b64 f1 (by simp) h0 h0e (by rw [e1]; exact h1)
  · unfold zv; rw [ha, ← e2]; exact zval_round_le good_b64 f2 (by simp) h0 h0e (by rw [e2]; exact h2)
theorem add_b {a b : UInt64} {k : Nat} {l1 h1 l2 h2 lo hi : Int} (ha : DB k l1 h1 a) (hb : DB k l2 h2 b) (hlo : lo ≤ l1 + l2) (hhi : h1 + h2 ≤ hi) (hl : lo.natAbs ≤ 2 ^ 53) (hh : hi.natAbs ≤ 2 ^ 53) (hk : k ≤ 2044) : DB k lo hi (FP.dadd a b) := by
  obtain ⟨⟨s, c, q, va⟩, a1, a2⟩ := ha
  obtain ⟨⟨t, d, r, vb⟩, b1, b2⟩ := hb
  have hv := val64_dadd a b
  have fa := val64_fits a
  have fb := val64_fits b
  unfold zv at a1 a2 b1 b2
  rw [va] at hv fa a1 a2
  rw [vb] at hv fb b1 b2
  obtain ⟨sg, n, e, h3, h4, h5⟩ := sum_units fa fb
  rw [h3] at hv
  have hp := pw_pos k
  refine round_between hv hl hh hk (e0 := b64.qmin) (Int.le_refl _) h4 ?_ ?_
  · rw [h5, qmin_sub, Int.mul_one]
    have := Int.mul_le_mul_of_nonneg_right hlo (Int.le_of_lt hp)
    rw [Int.add_mul] at this
    omega
  · rw [h5, qmin_sub, Int.mul_one]
    have := Int.mul_le_mul_of_nonneg_right hhi (Int.le_of_lt hp)
    rw [Int.add_mul] at this
    omega
theorem zv_dneg {a : UInt64} : zv (FP.dneg a) = -zv a := by unfold zv; rw [FP.val64_dneg, zval_negate]
theorem neg_b {a : UInt64} {k : Nat} {lo hi : Int} (ha : DB k lo hi a) : DB k (-hi) (-lo) (FP.dneg a) := by
  refine ⟨?_, ?_, ?_⟩
  · obtain ⟨s, c, q, va⟩ := ha.1
    exact ⟨!s, c, q, by rw [FP.val64_dneg, va]; rfl⟩
  · rw [zv_dneg, Int.neg_mul]; have := ha.2.2; omega
  · rw [zv_dneg, Int.neg_mul]; have := ha.2.1; omega
theorem sub_b {a b : UInt64} {k : Nat} {l1 h1 l2 h2 lo hi : Int} (ha : DB k l1 h1 a) (hb : DB k l2 h2 b) (hlo : lo ≤ l1 - h2) (hhi : h1 - l2 ≤ hi) (hl : lo.natAbs ≤ 2 ^ 53) (hh : hi.natAbs ≤ 2 ^ 53) (hk : k ≤ 2044) : DB k lo hi (FP.dsub a b) := by
  have e : FP.dsub a b = FP.dadd a (FP.dneg b) := by
    rw [FP.dneg_core hb.1.notNaN]; exact dsub_eq a b
  rw [e]
  exact add_b ha (neg_b hb) (by omega) (by omega) hl hh hk
theorem pw_1074 : ((2 ^ (b64.qmin - 2 * b64.qmin).toNat : Nat) : Int) = ((2 ^ 1074 : Nat) : Int) := by
  rw [show (b64.qmin - 2 * b64.qmin).toNat = 1074 by decide]
/-- the exact product of the two lies between -/
theorem mul_z {a b : UInt64} {k : Nat} {lo hi : Int} (fa : DFin a) (fb : DFin b) (h1 : lo * ((2 ^ k : Nat) : Int) * ((2 ^ 1074 : Nat) : Int) ≤ zv a * zv b) (h2 : zv a * zv b ≤ hi * ((2 ^ k : Nat) : Int) * ((2 ^ 1074 : Nat) : Int)) (hl : lo.natAbs ≤ 2 ^ 53) (hh : hi.natAbs ≤ 2 ^ 53) (hk : k ≤ 2044) : DB k lo hi (FP.dmul a b) := by
  obtain ⟨s, c, q, va⟩ := fa
  obtain ⟨t, d, r, vb⟩ := fb
  have hv := val64_dmul a b
  have fa := val64_fits a
  have fb := val64_fits b
  unfold zv at h1 h2
  rw [va] at hv fa h1 h2
  rw [vb] at hv fb h1 h2
  obtain ⟨g1, g2, g3⟩ := product_units fa fb
  rw [g1] at hv
  have e : signed (s != t) (inUnits (c * d) (q + r) (2 * b64.qmin)) = zval b64 (.fin s c q) * zval b64 (.fin t d r) := by
    rw [g3, signed_xor]; rfl
  refine round_between hv hl hh hk (e0 := 2 * b64.qmin) (by decide) g2 ?_ ?_
  · rw [e, pw_1074]; exact h1
  · rw [e, pw_1074]; exact h2
theorem pw_add (a b : Nat) : ((2 ^ (a + b) : Nat) : Int) = ((2 ^ a : Nat) : Int) * ((2 ^ b : Nat) : Int) := by rw [Nat.pow_add, Int.natCast_mul]
theorem mul_e {a b : UInt64} {k k1 k2 : Nat} {i j n : Int} (ha : DE k1 i a) (hb : DE k2 j b) (hk : k1 + k2 = k + 1074) (hn : i * j = n) (hh : n.natAbs ≤ 2 ^ 53) (hk' : k ≤ 2044) : DE k n (FP.dmul a b) := by
  have e : zv a * zv b = n * ((2 ^ k : Nat) : Int) * ((2 ^ 1074 : Nat) : Int) := by
    rw [ha.eq, hb.eq, ← hn, Int.mul_assoc (i * j), ← pw_add, ← hk, pw_add]
    simp only [Int.mul_assoc, Int.mul_left_comm]
  exact mul_z ha.1 hb.1 (Int.le_of_eq e.symm) (Int.le_of_eq e) hh hh hk'
/-- a bounded one times a known one that isn't negative -/
theorem mul_b {a b : UInt64} {k k1 k2 : Nat} {l1 h1 j lo hi : Int} (ha : DB k1 l1 h1 a) (hb : DE k2 j b) (hj : 0 ≤ j) (hk : k1 + k2 = k + 1074) (hlo : lo ≤ l1 * j) (hhi : h1 * j ≤ hi) (hl : lo.natAbs ≤ 2 ^ 53) (hh : hi.natAbs ≤ 2 ^ 53) (hk' : k ≤ 2044) : DB k lo hi (FP.dmul a b) := by
  have p1 := pw_pos k1
  have p2 := pw_pos k2
  have hz : 0 ≤ zv b := by rw [hb.eq]; exact Int.mul_nonneg hj (Int.le_of_lt p2)
  have e : ∀ x : Int, x * j * ((2 ^ k : Nat) : Int) * ((2 ^ 1074 : Nat) : Int) = x * ((2 ^ k1 : Nat) : Int) * zv b := fun x => by
    rw [hb.eq, Int.mul_assoc (x * j), ← pw_add, ← hk, pw_add]
    simp only [Int.mul_assoc, Int.mul_left_comm]
  have up : ∀ {x y : Int}, x ≤ y → x * ((2 ^ k : Nat) : Int) * ((2 ^ 1074 : Nat) : Int) ≤ y * ((2 ^ k : Nat) : Int) * ((2 ^ 1074 : Nat) : Int) := fun h =>
    Int.mul_le_mul_of_nonneg_right (Int.mul_le_mul_of_nonneg_right h (Int.le_of_lt (pw_pos _))) (Int.le_of_lt (pw_pos _))
  refine mul_z ha.1 hb.1 ?_ ?_ hl hh hk'
  · refine Int.le_trans (up hlo) ?_
    rw [e]; exact Int.mul_le_mul_of_nonneg_right ha.2.1 hz
  · refine Int.le_trans ?_ (up hhi)
    rw [e]; exact Int.mul_le_mul_of_nonneg_right ha.2.2 hz
theorem pw3 {A B C D E : Nat} (c : Nat) (h : A + B = C + D + E) : c * 2 ^ A * 2 ^ B = c * 2 ^ C * 2 ^ D * 2 ^ E := by
  rw [Nat.mul_assoc, ← Nat.pow_add, h, Nat.pow_add, Nat.pow_add, ← Nat.mul_assoc, ← Nat.mul_assoc]
theorem ev_aux (V : Int) (n d y : Nat) : V * ((2 ^ n * d : Nat) : Int) * ((2 ^ y : Nat) : Int) = V * ((d * 2 ^ y : Nat) : Int) * ((2 ^ n : Nat) : Int) := by
  rw [Int.natCast_mul, Int.natCast_mul]
  generalize ((2 ^ n : Nat) : Int) = x
  generalize ((2 ^ y : Nat) : Int) = z
  simp only [Int.mul_assoc, Int.mul_comm, Int.mul_left_comm]
/-- the quotient, with signs -/
theorem ratio_le {s : Bool} {A B : Nat} {e e0 : Int} {V : Datum} (hB : 0 < B) (hV : FP.Core.fits b64 V) (hn : V ≠ .nan) (h0 : e0 ≤ b64.qmin) (h0e : e0 ≤ e)
    (h : signed s (inUnits A e e0) ≤ zval b64 V * ((2 ^ (b64.qmin - e0).toNat * B : Nat) : Int)) : zval b64 (roundRatio b64 s A B e) ≤ zval b64 V := by
  have hle := zmag_roundRatio_le good_b64 (s := s) (A := A) hB hV hn h0 h0e
  have hge := zmag_roundRatio_ge good_b64 (s := s) (A := A) hB hV h0 h0e
  rw [Nat.mul_assoc] at hle hge
  have hP : 0 < 2 ^ (b64.qmin - e0).toNat * B := Nat.mul_pos (Nat.two_pow_pos _) hB
  unfold zval at h ⊢
  rw [sgn_roundRatio]
  rw [← signed_mul] at h
  have hz : zmag b64 V * (2 ^ (b64.qmin - e0).toNat * B) = 0 → zmag b64 V = 0 := by
    intro h
    rcases Nat.mul_eq_zero.mp h with h | h <;> omega
  generalize zmag b64 V * (2 ^ (b64.qmin - e0).toNat * B) = vP at *
  generalize sgn V = t at *
  cases s <;> cases t <;> simp only [signed, if_true, Bool.false_eq_true, if_false] at h ⊢
  · have := hle (by omega); omega
  · have := hle (by omega); have := hz (by omega); omega
  · omega
  · have := hge (by omega); omega
theorem ratio_ge {s : Bool} {A B : Nat} {e e0 : Int} {V : Datum} (hB : 0 < B) (hV : FP.Core.fits b64 V) (hn : V ≠ .nan) (h0 : e0 ≤ b64.qmin) (h0e : e0 ≤ e)
    (h : zval b64 V * ((2 ^ (b64.qmin - e0).toNat * B : Nat) : Int) ≤ signed s (inUnits A e e0)) : zval b64 V ≤ zval b64 (roundRatio b64 s A B e) := by
  have h1 := ratio_le (s := !s) (A := A) (B := B) (e := e) (V := negate V) hB (negate_fits hV) (negate_ne_nan hn) h0 h0e (by
    rw [zval_negate, Int.neg_mul]
    have : signed (!s) (inUnits A e e0) = -signed s (inUnits A e e0) := by cases s <;> simp [signed]
    rw [this]; omega)
  rw [zval_negate, ← negate_roundRatio, zval_negate] at h1
  omega
/-- the quotient by a positive number: no NaN, and at the least, at the most, what is so when multiplied back -/
theorem div_zz {a b : UInt64} (fa : DFin a) (fb : DFin b) (hb : 0 < zv b) : val64 (FP.ddiv a b) ≠ .nan ∧
    (∀ {k : Nat} {lo : Int}, lo.natAbs ≤ 2 ^ 53 → k ≤ 2044 → lo * ((2 ^ k : Nat) : Int) * zv b ≤ zv a * ((2 ^ 1074 : Nat) : Int) → lo * ((2 ^ k : Nat) : Int) ≤ zv (FP.ddiv a b)) ∧
    (∀ {k : Nat} {hi : Int}, hi.natAbs ≤ 2 ^ 53 → k ≤ 2044 → zv a * ((2 ^ 1074 : Nat) : Int) ≤ hi * ((2 ^ k : Nat) : Int) * zv b → zv (FP.ddiv a b) ≤ hi * ((2 ^ k : Nat) : Int)) := by
  obtain ⟨s, c, q, va⟩ := fa
  obtain ⟨t, d, r, vb⟩ := fb
  have hv := val64_ddiv a b
  have fa := val64_fits a
  have fb := val64_fits b
  have zea : zv a = zval b64 (.fin s c q) := by unfold zv; rw [va]
  have zeb : zv b = zval b64 (.fin t d r) := by unfold zv; rw [vb]
  rw [zea, zeb]
  rw [zeb] at hb
  rw [va] at hv fa
  rw [vb] at hv fb
  have qn : b64.qmin = -1074 := by decide
  have qx : b64.qmax = 971 := by decide
  have fa2 := fa.2.1
  have fb2 := fb.2.1
  have fb3 := fb.2.2.1
  have zb : zval b64 (.fin t d r) = signed t (d * 2 ^ (r - b64.qmin).toNat) := rfl
  have za : zval b64 (.fin s c q) = signed s (c * 2 ^ (q - b64.qmin).toNat) := rfl
  have hd : 0 < d := by
    refine Nat.pos_of_ne_zero fun e => ?_
    rw [zb, e, Nat.zero_mul, signed_zero] at hb
    omega
  have ht : t = false := by
    cases t with
    | false => rfl
    | true => rw [zb] at hb; simp only [signed, if_true] at hb; omega
  subst ht
  have hq : quotient b64 (.fin s c q) (.fin false d r) = roundRatio b64 s c d (q - r) := by
    show (if d = 0 then _ else roundRatio b64 (s != false) c d (q - r)) = _
    rw [if_neg (by omega)]; cases s <;> rfl
  rw [hq] at hv
  have hn : val64 (Core.ddiv a b) ≠ .nan := by rw [hv]; exact roundRatio_ne_nan _ _ _ _ _
  -- both sides times 2^(r - qmin)
  have hP := pw_pos (r - b64.qmin).toNat
  have ex : signed s (inUnits c (q - r) (2 * b64.qmin)) * ((2 ^ (r - b64.qmin).toNat : Nat) : Int) = zval b64 (.fin s c q) * ((2 ^ 1074 : Nat) : Int) * ((2 ^ 1074 : Nat) : Int) := by
    rw [za, ← signed_mul, ← signed_mul, ← signed_mul]
    exact congrArg (signed s) (pw3 (A := (q - r - 2 * b64.qmin).toNat) (D := 1074) (E := 1074) c (by omega))
  have ev : ∀ V : Int, V * ((2 ^ (b64.qmin - 2 * b64.qmin).toNat * d : Nat) : Int) * ((2 ^ (r - b64.qmin).toNat : Nat) : Int) = V * zval b64 (.fin false d r) * ((2 ^ 1074 : Nat) : Int) := fun V => by
    rw [zb, show (b64.qmin - 2 * b64.qmin).toNat = 1074 by decide]
    exact ev_aux V 1074 d _
  have p1074 := pw_pos 1074
  refine ⟨hn, fun {k lo} hl hk h1 => ?_, fun {k hi} hh hk h2 => ?_⟩
  · obtain ⟨s1, c1, q1, f1, e1⟩ := rep hl hk
    unfold zv; rw [hv, ← e1]
    refine ratio_ge hd f1 (by simp) (e0 := 2 * b64.qmin) (by decide) (by omega) ?_
    refine Int.le_of_mul_le_mul_right ?_ hP
    rw [ev, ex, e1]
    exact Int.mul_le_mul_of_nonneg_right h1 (Int.le_of_lt p1074)
  · obtain ⟨s2, c2, q2, f2, e2⟩ := rep hh hk
    unfold zv; rw [hv, ← e2]
    refine ratio_le hd f2 (by simp) (e0 := 2 * b64.qmin) (by decide) (by omega) ?_
    refine Int.le_of_mul_le_mul_right ?_ hP
    rw [ev, ex, e2]
    exact Int.mul_le_mul_of_nonneg_right h2 (Int.le_of_lt p1074)
/-- between lo and hi -/
theorem div_z {a b : UInt64} {k : Nat} {lo hi : Int} (fa : DFin a) (fb : DFin b) (hb : 0 < zv b) (h1 : lo * ((2 ^ k : Nat) : Int) * zv b ≤ zv a * ((2 ^ 1074 : Nat) : Int)) (h2 : zv a * ((2 ^ 1074 : Nat) : Int) ≤ hi * ((2 ^ k : Nat) : Int) * zv b) (hl : lo.natAbs ≤ 2 ^ 53) (hh : hi.natAbs ≤ 2 ^ 53) (hk : k ≤ 2044) : DB k lo hi (FP.ddiv a b) := by
  obtain ⟨n, ge, le⟩ := div_zz fa fb hb
  exact fin_between hl hh hk n (ge hl hk h1) (le hh hk h2)
/-- the quotient of two known numbers, the second one positive -/
theorem div_b {a b : UInt64} {k k1 k2 : Nat} {i j lo hi : Int} (ha : DE k1 i a) (hb : DE k2 j b) (hj : 0 < j) (hk : k1 + 1074 = k + k2) (hlo : lo * j ≤ i) (hhi : i ≤ hi * j) (hl : lo.natAbs ≤ 2 ^ 53) (hh : hi.natAbs ≤ 2 ^ 53) (hk' : k ≤ 2044) : DB k lo hi (FP.ddiv a b) := by
  have p2 := pw_pos k2
  have e : ∀ x : Int, x * ((2 ^ k : Nat) : Int) * zv b = x * j * ((2 ^ (k1 + 1074) : Nat) : Int) := fun x => by
    rw [hb.eq, hk, pw_add]
    simp only [Int.mul_assoc, Int.mul_left_comm]
  have e2 : zv a * ((2 ^ 1074 : Nat) : Int) = i * ((2 ^ (k1 + 1074) : Nat) : Int) := by rw [ha.eq, pw_add, Int.mul_assoc]
  refine div_z ha.1 hb.1 (by rw [hb.eq]; exact Int.mul_pos hj p2) ?_ ?_ hl hh hk'
  · rw [e, e2]; exact Int.mul_le_mul_of_nonneg_right hlo (Int.le_of_lt (pw_pos _))
  · rw [e, e2]; exact Int.mul_le_mul_of_nonneg_right hhi (Int.le_of_lt (pw_pos _))
theorem div_e {a b : UInt64} {k k1 k2 : Nat} {i j n : Int} (ha : DE k1 i a) (hb : DE k2 j b) (hj : 0 < j) (hk : k1 + 1074 = k + k2) (hn : n * j = i) (hh : n.natAbs ≤ 2 ^ 53) (hk' : k ≤ 2044) : DE k n (FP.ddiv a b) :=
  div_b ha hb hj hk (Int.le_of_eq hn) (Int.le_of_eq hn.symm) hh hh hk'
theorem add_e {a b : UInt64} {k : Nat} {i j n : Int} (ha : DE k i a) (hb : DE k j b) (hn : i + j = n) (hh : n.natAbs ≤ 2 ^ 53) (hk : k ≤ 2044) : DE k n (FP.dadd a b) := add_b ha hb (Int.le_of_eq hn.symm) (Int.le_of_eq hn) hh hh hk
theorem sub_e {a b : UInt64} {k : Nat} {i j n : Int} (ha : DE k i a) (hb : DE k j b) (hn : i - j = n) (hh : n.natAbs ≤ 2 ^ 53) (hk : k ≤ 2044) : DE k n (FP.dsub a b) := sub_b ha hb (Int.le_of_eq hn.symm) (Int.le_of_eq hn) hh hh hk
theorem i2d_e (x : Int32) : DE 1074 x.toInt (FP.i2d x) := DE.of (Core.i2d_fin x) (DInt_zval (i2d_int x))
theorem l2d_e {x : Int64} (h : x.toInt.natAbs ≤ 2 ^ 53) : DE 1074 x.toInt (FP.l2d x) := DE.of (Core.l2d_fin x) (DInt_zval (l2d_int h))
theorem zero_e (k : Nat) : DE k 0 FP.dconst0 := DE.of ⟨_, _, _, rfl⟩ (by rw [Int.zero_mul]; exact zval64_zero)
/-- in smaller units -/
theorem DB.down {a : UInt64} {k : Nat} {lo hi : Int} (h : DB k lo hi a) {k' n : Nat} (hk : k = k' + n) : DB k' (lo * ((2 ^ n : Nat) : Int)) (hi * ((2 ^ n : Nat) : Int)) a := by
  subst hk
  refine ⟨h.1, ?_, ?_⟩
  · have := h.2.1; rw [Nat.add_comm, pw_add, ← Int.mul_assoc] at this; exact this
  · have := h.2.2; rw [Nat.add_comm, pw_add, ← Int.mul_assoc] at this; exact this
/-- the quotient from below alone -/
theorem div_ge {a b : UInt64} {k k1 k2 : Nat} {i j lo : Int} (ha : DE k1 i a) (hb : DE k2 j b) (hj : 0 < j) (hk : k1 + 1074 = k + k2) (hlo : lo * j ≤ i) (hl : lo.natAbs ≤ 2 ^ 53) (hk' : k ≤ 2044) : lo * ((2 ^ k : Nat) : Int) ≤ zv (FP.ddiv a b) := by
  have p2 := pw_pos k2
  have e : ∀ x : Int, x * ((2 ^ k : Nat) : Int) * zv b = x * j * ((2 ^ (k1 + 1074) : Nat) : Int) := fun x => by
    rw [hb.eq, hk, pw_add]
    simp only [Int.mul_assoc, Int.mul_left_comm]
  have e2 : zv a * ((2 ^ 1074 : Nat) : Int) = i * ((2 ^ (k1 + 1074) : Nat) : Int) := by rw [ha.eq, pw_add, Int.mul_assoc]
  refine (div_zz ha.1 hb.1 (by rw [hb.eq]; exact Int.mul_pos hj p2)).2.1 hl hk' ?_
  rw [e, e2]; exact Int.mul_le_mul_of_nonneg_right hlo (Int.le_of_lt (pw_pos _))
/-- in greater units -/
theorem DB.up {a : UInt64} {k : Nat} {lo hi : Int} {n : Nat} (h : DB k (lo * ((2 ^ n : Nat) : Int)) (hi * ((2 ^ n : Nat) : Int)) a) : DB (k + n) lo hi a := by
  refine ⟨h.1, ?_, ?_⟩
  · have := h.2.1; rw [Int.mul_assoc, ← pw_add, Nat.add_comm] at this; exact this
  · have := h.2.2; rw [Int.mul_assoc, ← pw_add, Nat.add_comm] at this; exact this
/-- the product of two known numbers, between two that lie on a grid 2^g times as coarse -/
theorem mul_g {a b : UInt64} {k k1 k2 g : Nat} {i j lo hi : Int} (ha : DE k1 i a) (hb : DE k2 j b) (hk : k1 + k2 + g = k + 1074) (hlo : lo * ((2 ^ g : Nat) : Int) ≤ i * j) (hhi : i * j ≤ hi * ((2 ^ g : Nat) : Int)) (hl : lo.natAbs ≤ 2 ^ 53) (hh : hi.natAbs ≤ 2 ^ 53) (hk' : k ≤ 2044) : DB k lo hi (FP.dmul a b) := by
  have e : zv a * zv b = i * j * ((2 ^ (k1 + k2) : Nat) : Int) := by
    rw [ha.eq, hb.eq, pw_add]
    simp only [Int.mul_assoc, Int.mul_left_comm]
  have e2 : ∀ x : Int, x * ((2 ^ k : Nat) : Int) * ((2 ^ 1074 : Nat) : Int) = x * ((2 ^ g : Nat) : Int) * ((2 ^ (k1 + k2) : Nat) : Int) := fun x => by
    rw [Int.mul_assoc, ← pw_add, ← hk, Nat.add_comm, pw_add, ← Int.mul_assoc]
  refine mul_z ha.1 hb.1 ?_ ?_ hl hh hk'
  · rw [e, e2]; exact Int.mul_le_mul_of_nonneg_right hlo (Int.le_of_lt (pw_pos _))
  · rw [e, e2]; exact Int.mul_le_mul_of_nonneg_right hhi (Int.le_of_lt (pw_pos _))
theorem DB.wide {a : UInt64} {k : Nat} {lo hi lo' hi' : Int} (h : DB k lo hi a) (h1 : lo' ≤ lo) (h2 : hi ≤ hi') : DB k lo' hi' a :=
  ⟨h.1, Int.le_trans (Int.mul_le_mul_of_nonneg_right h1 (Int.le_of_lt (pw_pos k))) h.2.1, Int.le_trans h.2.2 (Int.mul_le_mul_of_nonneg_right h2 (Int.le_of_lt (pw_pos k)))⟩
theorem DE.cmp {a b : UInt64} {k : Nat} {i j : Int} (ha : DE k i a) (hb : DE k j b) : FP.dcmp a b = some (compare i j) := by
  rw [show FP.dcmp a b = some (compare (zv a) (zv b)) from dcmp_zval ha.ne hb.ne, ha.eq, hb.eq, compare_mul_pos _ _ _ (pw_pos k)]
theorem DB.lt {a b : UInt64} {k : Nat} {l1 h1 l2 h2 : Int} (ha : DB k l1 h1 a) (hb : DB k l2 h2 b) (h : h1 < l2) : FP.dcmp a b = some .lt := by
  rw [show FP.dcmp a b = some (compare (zv a) (zv b)) from dcmp_zval ha.ne hb.ne]
  congr 1
  rw [compare_lt_iff]
  have := Int.mul_lt_mul_of_pos_right h (pw_pos k)
  have := ha.2.2; have := hb.2.1
  omega
theorem DB.gt {a b : UInt64} {k : Nat} {l1 h1 l2 h2 : Int} (ha : DB k l1 h1 a) (hb : DB k l2 h2 b) (h : h2 < l1) : FP.dcmp a b = some .gt := by
  rw [show FP.dcmp a b = some (compare (zv a) (zv b)) from dcmp_zval ha.ne hb.ne]
  congr 1
  rw [compare_gt_iff]
  have := Int.mul_lt_mul_of_pos_right h (pw_pos k)
  have := ha.2.1; have := hb.2.2
  omega
/-- two doubles of one value that isn't nought are one -/
theorem DE.uniq {a b : UInt64} {k : Nat} {i : Int} (ha : DE k i a) (hb : DE k i b) (hi : i ≠ 0) : a = b := by
  have h1 := dcmp_key ha.ne hb.ne
  rw [dcmp_zval ha.ne hb.ne] at h1
  have e : zval b64 (val64 a) = zval b64 (val64 b) := (ha.eq).trans hb.eq.symm
  have h2 := Option.some.inj h1
  rw [(compare_eq_iff _ _).mpr e] at h2
  have h3 := (compare_eq_iff _ _).mp h2.symm
  have nz : ∀ {c : UInt64}, DE k i c → dkey c ≠ 0 := fun {c} hc h0 => by
    have q := dcmp_key hc.ne (b := 0) (by rw [val64_zero]; simp)
    rw [dcmp_zval hc.ne (by rw [val64_zero]; simp), zval64_zero] at q
    have q2 := Option.some.inj q
    have z : dkey 0 = 0 := by decide
    rw [h0, z, (compare_eq_iff (0 : Int) 0).mpr rfl] at q2
    have q3 := (compare_eq_iff _ _).mp q2
    have q4 : zv c = 0 := q3
    rw [hc.eq] at q4
    rcases Int.mul_eq_zero.mp q4 with q5 | q5
    · exact hi q5
    · have := pw_pos k; omega
  have n1 := nz ha
  have n2 := nz hb
  unfold dkey at h3 n1 n2
  apply UInt64.toNat_inj.mp
  have l1 := a.toNat_lt; have l2 := b.toNat_lt
  split at h3 <;> split at h3 <;> simp_all <;> omega
end Jvm.Pilot.@@N@@.Own
namespace Jvm.Pilot.@@N@@.Own
open Jvm Jvm.ClassFile Sem Op Lib Jvm.Free Jvm.Stand Jvm.LawKit Jvm.RoadKit
theorem irem_v {tb : Tables} [Ours tb] {e : Env} {below : List Frame} {T target : State} {m : MethodId} {c : Code} {g : JFrame} (h : At T m c below) (hx : tb.exec = Jvm.exec) (hg : g.method = m) {x : Int32} {y : Int32} {v : Int32} {rest : List Value} (hd : decode c.code g.pc = .ok (.irem, 1)) (hs : g.stack = .int y :: .int x :: rest) (hy : ¬ y = 0) (hv : x % y = v)
    (hr : Steps tb e below (T.setTop { g with pc := g.pc + 1, stack := .int v :: rest }) target) : Steps tb e below (T.setTop g) target := by subst hv; exact XS.irem h hx hg hd hs hy (by rw [irem_eq_mod]; exact hr)
theorem i2l_v {tb : Tables} [Ours tb] {e : Env} {below : List Frame} {T target : State} {m : MethodId} {c : Code} {g : JFrame} (h : At T m c below) (hx : tb.exec = Jvm.exec) (hg : g.method = m) {x : Int32} {v : Int64} {rest : List Value} (hd : decode c.code g.pc = .ok (.i2l, 1)) (hs : g.stack = .int x :: rest) (hv : x.toInt64 = v)
    (hr : Steps tb e below (T.setTop { g with pc := g.pc + 1, stack := .long v :: rest }) target) : Steps tb e below (T.setTop g) target := by subst hv; exact XS.i2l h hx hg hd hs hr
theorem lmul_v {tb : Tables} [Ours tb] {e : Env} {below : List Frame} {T target : State} {m : MethodId} {c : Code} {g : JFrame} (h : At T m c below) (hx : tb.exec = Jvm.exec) (hg : g.method = m) {x : Int64} {y : Int64} {v : Int64} {rest : List Value} (hd : decode c.code g.pc = .ok (.lmul, 1)) (hs : g.stack = .long y :: .long x :: rest) (hv : x * y = v)
    (hr : Steps tb e below (T.setTop { g with pc := g.pc + 1, stack := .long v :: rest }) target) : Steps tb e below (T.setTop g) target := by subst hv; exact XS.lmul h hx hg hd hs hr
theorem ladd_v {tb : Tables} [Ours tb] {e : Env} {below : List Frame} {T target : State} {m : MethodId} {c : Code} {g : JFrame} (h : At T m c below) (hx : tb.exec = Jvm.exec) (hg : g.method = m) {x : Int64} {y : Int64} {v : Int64} {rest : List Value} (hd : decode c.code g.pc = .ok (.ladd, 1)) (hs : g.stack = .long y :: .long x :: rest) (hv : x + y = v)
    (hr : Steps tb e below (T.setTop { g with pc := g.pc + 1, stack := .long v :: rest }) target) : Steps tb e below (T.setTop g) target := by subst hv; exact XS.ladd h hx hg hd hs hr
end Jvm.Pilot.@@N@@.Own
namespace Jvm.Pilot.@@N@@
open Jvm Jvm.ClassFile Sem Op Lib Jvm.Free Jvm.Stand Jvm.LawKit Jvm.RoadKit Bundle Jvm.Pilot.@@N@@.Jvm.D Jvm.Pilot.@@N@@.Own
theorem pd_0 : parseMethodDescriptor "()V" = some ⟨[], none⟩ := by decide +kernel
theorem pd_1 : parseMethodDescriptor "(DDD)V" = some ⟨[.double, .double, .double], none⟩ := by decide +kernel
theorem pd_2 : parseMethodDescriptor "(D)D" = some ⟨[.double], some .double⟩ := by decide +kernel
theorem d1_0 : decode jdk_30_method_1_code 0 = .ok (.aload_n 0, 1) := by decide +kernel
theorem d1_1 : decode jdk_30_method_1_code 1 = .ok (.invokespecial 1, 3) := by decide +kernel
theorem d1_4 : decode jdk_30_method_1_code 4 = .ok (.return_, 1) := by decide +kernel
theorem pn_1 : plainName "java/lang/Record" = true := by first | (simp [plainName, overriddenIn]; done) | decide +kernel
theorem ef_1 (m : MethodId) (x0 : Addr) : entryFrame m #[(.ref x0)] 1 = mkF m 0 #[.val (.ref x0)] [] := by first | (simp [entryFrame, mkF, argsToLocals, Value.category]; done) | rfl
def Q1 (Z : State) (a : Addr) (h0 : Heap) (n0 : Nat) (v : Option Value) (h : Heap) (L : List Loc) : Prop := v = none ∧ Fr n0 L ∧ h = h0
set_option maxRecDepth 65536 in
set_option maxHeartbeats 40000000 in
theorem rm1 (l : Launch) (Z : State) (a0 : Array Value) (hw : ∀ d ∈ tables_1, d.before a0 Z = true) (ws : List Jvm.Cond) (a : Addr) (h0 : Heap) (n0 : Nat) (Z0 : n0 ≤ h0.size) :
    MetFree l (⟨"java/lang/Record", "<init>", "()V"⟩ : MethodName) (head1 (Jvm.Cond.code (⟨"java/lang/Record", "<init>", "()V"⟩ : MethodName) jdk_30_method_1_code 1 none :: ws) ({ frames := 1, cells := 0, slots := 0, locals := 12 } : Room)) (fun a_ U => a_ = #[(.ref a)] ∧ Z.Warmed39 U.vm ∧ U.heap = h0) (fun _ _ _ _ _ => True) (fun _ U o U' => ∃ v L, o = .returned v ∧ Q1 Z a h0 n0 v U'.heap L ∧ FrameEnd U o U' L (({ frames := 1, cells := 0, slots := 0, locals := 12 } : Room)).cells (({ frames := 1, cells := 0, slots := 0, locals := 12 } : Room)).slots) := by
  refine MetFree.of_bodySF (plainFor_of_name pn_1) hisR ?_
  intro p e s m args below meth c s₁ Bd hml0 hP0 hK
  obtain ⟨rfl, hZ, hh⟩ := hP0
  have hx := Bd.exec
  have hby := Bd.bytes
  have hml : c.maxLocals = 1 := hml0
  have hown : s.vm.findClass "java/lang/Record" = some m.cls := findClass_of_methodNamed Bd.named
  have hnm := (name_of_methodNamed Bd.named Bd.method).1
  have X0 : Stand p l e ({ frames := 1, cells := 0, slots := 0, locals := 12 } : Room) s m #[(.ref a)] below meth c s₁ [] 0 0 := Stand.of_body Bd
  have e0 : s₁.heap = h0 := by rw [← hh, Bd.state]; rfl
  have N0 := Fr.nil n0
  have hlk : meth.locks = false := BodyLoose.notSynchronized Bd
  refine Go.start (P₀ := fun s₂ o => ∃ v L, o = .returned v ∧ Q1 Z a h0 n0 v s₂.heap L ∧ FrameEnd s o s₂ L (({ frames := 1, cells := 0, slots := 0, locals := 12 } : Room)).cells (({ frames := 1, cells := 0, slots := 0, locals := 12 } : Room)).slots) (congrArg s₁.setTop (ef_1 m a)) ?_
  intro P hP
  show Go p.tables e below P (s₁.setTop (mkF m 0 #[.val (.ref a)] []))
  refine Go.step (fun t k => XS.aloadN X0.here hx rfl (hb hby d1_0) rfl rfl k) ?_
  show Go p.tables e below P (s₁.setTop (mkF m 1 #[.val (.ref a)] [(.ref a)]))
  obtain ⟨T1, X1, e1, st1⟩ := initO X0 hx hZ hown (hw _ (List.mem_of_getElem? (i := 12) rfl)) (hw _ (List.mem_of_getElem? (i := 13) rfl)) (hw _ (List.mem_of_getElem? (i := 14) rfl)) e0 (g := (mkF m 1 #[.val (.ref a)] [(.ref a)])) rfl (by rw [hml]; rfl) rfl (hb hby d1_1) (by decide) (W := 0) (by show 2 * 0 + _ ≤ _; exact Nat.le_of_eq rfl) (by decide)
  refine Go.step (fun t k => st1 t k) ?_
  show Go p.tables e below P (T1.setTop (mkF m 4 #[.val (.ref a)] []))
  exact voidGo X1 hx hP Bd.returns hlk (hb hby d1_4) (by decide) (by decide) (by rw [e1]; exact ⟨rfl, N0, rfl⟩)
theorem d2_0 : decode prog_27_method_1_code 0 = .ok (.aload_n 0, 1) := by decide +kernel
theorem d2_1 : decode prog_27_method_1_code 1 = .ok (.invokespecial 1, 3) := by decide +kernel
theorem d2_4 : decode prog_27_method_1_code 4 = .ok (.aload_n 0, 1) := by decide +kernel
theorem d2_5 : decode prog_27_method_1_code 5 = .ok (.dload_n 1, 1) := by decide +kernel
theorem d2_6 : decode prog_27_method_1_code 6 = .ok (.putfield 7, 3) := by decide +kernel
theorem d2_9 : decode prog_27_method_1_code 9 = .ok (.aload_n 0, 1) := by decide +kernel
theorem d2_10 : decode prog_27_method_1_code 10 = .ok (.dload_n 3, 1) := by decide +kernel
theorem d2_11 : decode prog_27_method_1_code 11 = .ok (.putfield 13, 3) := by decide +kernel
theorem d2_14 : decode prog_27_method_1_code 14 = .ok (.aload_n 0, 1) := by decide +kernel
theorem d2_15 : decode prog_27_method_1_code 15 = .ok (.dload 5, 2) := by decide +kernel
theorem d2_17 : decode prog_27_method_1_code 17 = .ok (.putfield 16, 3) := by decide +kernel
theorem d2_20 : decode prog_27_method_1_code 20 = .ok (.return_, 1) := by decide +kernel
theorem pn_2 : plainName "com/example/gleitfahrt/gleitfahrt/engine/RunningResistance" = true := by first | (simp [plainName, overriddenIn]; done) | decide +kernel
theorem ef_2 (m : MethodId) (x0 : Addr) (x1 : UInt64) (x2 : UInt64) (x3 : UInt64) : entryFrame m #[(.ref x0), (.double x1), (.double x2), (.double x3)] 7 = mkF m 0 #[.val (.ref x0), .val (.double x1), .second, .val (.double x2), .second, .val (.double x3), .second] [] := by first | (simp [entryFrame, mkF, argsToLocals, Value.category]; done) | rfl
def Q2 (Z : State) (a : Addr) (ca : UInt64) (cb : UInt64) (cc : UInt64) (h0 : Heap) (n0 : Nat) (v : Option Value) (h : Heap) (L : List Loc) : Prop := v = none ∧ Fr n0 L ∧ Keep h0 h [a] ∧ Exa Z h a "com/example/gleitfahrt/gleitfahrt/engine/RunningResistance" ∧ Fld Z h a "com/example/gleitfahrt/gleitfahrt/engine/RunningResistance" "constantN" "D" (.double ca) ∧ Fld Z h a "com/example/gleitfahrt/gleitfahrt/engine/RunningResistance" "linearNsPerM" "D" (.double cb) ∧ Fld Z h a "com/example/gleitfahrt/gleitfahrt/engine/RunningResistance" "quadraticNs2PerM2" "D" (.double cc)
set_option maxRecDepth 65536 in
set_option maxHeartbeats 40000000 in
theorem rm2 (l : Launch) (Z : State) (a0 : Array Value) (hw : ∀ d ∈ tables_1, d.before a0 Z = true) (ws : List Jvm.Cond) (a : Addr) (ca : UInt64) (cb : UInt64) (cc : UInt64) (h0 : Heap) (n0 : Nat) (Z0 : n0 ≤ h0.size) (E_a : Exa Z h0 a "com/example/gleitfahrt/gleitfahrt/engine/RunningResistance") (F0 : Fld Z h0 a "com/example/gleitfahrt/gleitfahrt/engine/RunningResistance" "constantN" "D" (.double (0 : UInt64))) (F1 : Fld Z h0 a "com/example/gleitfahrt/gleitfahrt/engine/RunningResistance" "linearNsPerM" "D" (.double (0 : UInt64))) (F2 : Fld Z h0 a "com/example/gleitfahrt/gleitfahrt/engine/RunningResistance" "quadraticNs2PerM2" "D" (.double (0 : UInt64))) (g_a : n0 ≤ a) :
    MetFree l (⟨"com/example/gleitfahrt/gleitfahrt/engine/RunningResistance", "<init>", "(DDD)V"⟩ : MethodName) (head1 (Jvm.Cond.code (⟨"com/example/gleitfahrt/gleitfahrt/engine/RunningResistance", "<init>", "(DDD)V"⟩ : MethodName) prog_27_method_1_code 7 none :: ws) ({ frames := 2, cells := 0, slots := 0, locals := 24 } : Room)) (fun a_ U => a_ = #[(.ref a), (.double ca), (.double cb), (.double cc)] ∧ Z.Warmed39 U.vm ∧ U.heap = h0) (fun _ _ _ _ _ => True) (fun _ U o U' => ∃ v L, o = .returned v ∧ Q2 Z a ca cb cc h0 n0 v U'.heap L ∧ FrameEnd U o U' L (({ frames := 2, cells := 0, slots := 0, locals := 24 } : Room)).cells (({ frames := 2, cells := 0, slots := 0, locals := 24 } : Room)).slots) := by
  refine MetFree.of_bodySF (plainFor_of_name pn_2) hisR ?_
  intro p e s m args below meth c s₁ Bd hml0 hP0 hK
  obtain ⟨rfl, hZ, hh⟩ := hP0
  have hx := Bd.exec
  have hby := Bd.bytes
  have hml : c.maxLocals = 7 := hml0
  have hown : s.vm.findClass "com/example/gleitfahrt/gleitfahrt/engine/RunningResistance" = some m.cls := findClass_of_methodNamed Bd.named
  have hnm := (name_of_methodNamed Bd.named Bd.method).1
  have X0 : Stand p l e ({ frames := 2, cells := 0, slots := 0, locals := 24 } : Room) s m #[(.ref a), (.double ca), (.double cb), (.double cc)] below meth c s₁ [] 0 0 := Stand.of_body Bd
  have e0 : s₁.heap = h0 := by rw [← hh, Bd.state]; rfl
  have N0 := Fr.nil n0
  have hlk : meth.locks = false := BodyLoose.notSynchronized Bd
  refine Go.start (P₀ := fun s₂ o => ∃ v L, o = .returned v ∧ Q2 Z a ca cb cc h0 n0 v s₂.heap L ∧ FrameEnd s o s₂ L (({ frames := 2, cells := 0, slots := 0, locals := 24 } : Room)).cells (({ frames := 2, cells := 0, slots := 0, locals := 24 } : Room)).slots) (congrArg s₁.setTop (ef_2 m a ca cb cc)) ?_
  intro P hP
  show Go p.tables e below P (s₁.setTop (mkF m 0 #[.val (.ref a), .val (.double ca), .second, .val (.double cb), .second, .val (.double cc), .second] []))
  refine Go.step (fun t k => XS.aloadN X0.here hx rfl (hb hby d2_0) rfl rfl k) ?_
  show Go p.tables e below P (s₁.setTop (mkF m 1 #[.val (.ref a), .val (.double ca), .second, .val (.double cb), .second, .val (.double cc), .second] [(.ref a)]))
  obtain ⟨_, _, ⟨T1, L1, k1, n1⟩, -, X1, ⟨Lc1, hQ1, l1, y1, z1⟩, st1⟩ := X0.specialBack hx (y := (⟨"java/lang/Record", "<init>", "()V"⟩ : MethodName)) rfl hown (mvT hZ (hw _ (List.mem_of_getElem? (i := 7) rfl))) (mvT hZ (hw _ (List.mem_of_getElem? (i := 8) rfl))) (mvT hZ (hw _ (List.mem_of_getElem? (i := 11) rfl))) (by decide) (backOf (W := 0) (rm1 l Z a0 hw [] a h0 n0 Z0 ) hZ (hw _ (List.mem_of_getElem? (i := 11) rfl)) (hw _ (List.mem_of_getElem? (i := 10) rfl)) (by decide) (by decide)) (g := (mkF m 1 #[.val (.ref a), .val (.double ca), .second, .val (.double cb), .second, .val (.double cc), .second] [(.ref a)])) rfl (by rw [hml]; rfl) (Steps.refl _) (a := a) (argsL := []) (rest := []) (lenOf pd_0 rfl) rfl (by show 2 * 0 + _ ≤ _; exact Nat.le_of_eq rfl) (hb hby d2_1) (fun _ _ => ⟨rfl, e0, (by decide : 0 + 0 ≤ _), (by decide : 0 + 0 ≤ _)⟩)
  dsimp only [Pt.U, Pt.locs, Pt.cells, Pt.slots] at X1 l1 y1 z1 st1 hQ1
  subst l1 y1 z1
  obtain ⟨rfl, N1q, eh1⟩ := hQ1
  have N1 := Fr.app N0 N1q
  refine Go.tr st1 ?_
  show Go p.tables e below P (T1.setTop (mkF m 4 #[.val (.ref a), .val (.double ca), .second, .val (.double cb), .second, .val (.double cc), .second] []))
  refine Go.step (fun t k => XS.aloadN X1.here hx rfl (hb hby d2_4) rfl rfl k) ?_
  show Go p.tables e below P (T1.setTop (mkF m 5 #[.val (.ref a), .val (.double ca), .second, .val (.double cb), .second, .val (.double cc), .second] [(.ref a)]))
  refine Go.step (fun t k => XS.dloadN X1.here hx rfl (hb hby d2_5) rfl  k) ?_
  show Go p.tables e below P (T1.setTop (mkF m 6 #[.val (.ref a), .val (.double ca), .second, .val (.double cb), .second, .val (.double cc), .second] [(.double ca), (.ref a)]))
  obtain ⟨T2, h2, X2, e2, W2, st2⟩ := putF X1 hx hZ hown (host := "") (Or.inl (hw _ (List.mem_of_getElem? (i := 15) rfl))) Via.refl eh1 F0 E_a (Or.inr ⟨(hw _ (List.mem_of_getElem? (i := 16) rfl)), rfl, hnm⟩) (hw _ (List.mem_of_getElem? (i := 2) rfl)) (ty := .double) (by decide) rfl rfl (g := (mkF m 6 #[.val (.ref a), .val (.double ca), .second, .val (.double cb), .second, .val (.double cc), .second] [(.double ca), (.ref a)])) rfl rfl (hb hby d2_6)
  have Fw2 := F0.same W2
  have N2 := Fr.snoc X2 N1 g_a
  have K2 : Keep h0 h2 [a] := (Keep.refl h0 [a]).wr W2 (Or.inl (List.mem_of_getElem? (i := 0) rfl))
  have Z2 : n0 ≤ h2.size := Nat.le_trans Z0 (Keep.of_wr W2).1
  refine Go.step (fun t k => st2 t k) ?_
  show Go p.tables e below P (T2.setTop (mkF m 9 #[.val (.ref a), .val (.double ca), .second, .val (.double cb), .second, .val (.double cc), .second] []))
  refine Go.step (fun t k => XS.aloadN X2.here hx rfl (hb hby d2_9) rfl rfl k) ?_
  show Go p.tables e below P (T2.setTop (mkF m 10 #[.val (.ref a), .val (.double ca), .second, .val (.double cb), .second, .val (.double cc), .second] [(.ref a)]))
  refine Go.step (fun t k => XS.dloadN X2.here hx rfl (hb hby d2_10) rfl  k) ?_
  show Go p.tables e below P (T2.setTop (mkF m 11 #[.val (.ref a), .val (.double ca), .second, .val (.double cb), .second, .val (.double cc), .second] [(.double cb), (.ref a)]))
  obtain ⟨T3, h3, X3, e3, W3, st3⟩ := putF X2 hx hZ hown (host := "") (Or.inl (hw _ (List.mem_of_getElem? (i := 17) rfl))) Via.refl e2 (F1.other W2 (Or.inr (slot_ne (Or.inr (hw _ (List.mem_of_getElem? (i := 18) rfl))) (Or.inr (hw _ (List.mem_of_getElem? (i := 16) rfl))) (by decide) (t := .double) (t' := .double) (by decide) (by decide)))) (E_a.wr W2) (Or.inr ⟨(hw _ (List.mem_of_getElem? (i := 18) rfl)), rfl, hnm⟩) (hw _ (List.mem_of_getElem? (i := 2) rfl)) (ty := .double) (by decide) rfl rfl (g := (mkF m 11 #[.val (.ref a), .val (.double ca), .second, .val (.double cb), .second, .val (.double cc), .second] [(.double cb), (.ref a)])) rfl rfl (hb hby d2_11)
  have Fw3 := (F1.other W2 (Or.inr (slot_ne (Or.inr (hw _ (List.mem_of_getElem? (i := 18) rfl))) (Or.inr (hw _ (List.mem_of_getElem? (i := 16) rfl))) (by decide) (t := .double) (t' := .double) (by decide) (by decide)))).same W3
  have N3 := Fr.snoc X3 N2 g_a
  have K3 : Keep h0 h3 [a] := K2.wr W3 (Or.inl (List.mem_of_getElem? (i := 0) rfl))
  have Z3 : n0 ≤ h3.size := Nat.le_trans Z2 (Keep.of_wr W3).1
  refine Go.step (fun t k => st3 t k) ?_
  show Go p.tables e below P (T3.setTop (mkF m 14 #[.val (.ref a), .val (.double ca), .second, .val (.double cb), .second, .val (.double cc), .second] []))
  refine Go.step (fun t k => XS.aloadN X3.here hx rfl (hb hby d2_14) rfl rfl k) ?_
  show Go p.tables e below P (T3.setTop (mkF m 15 #[.val (.ref a), .val (.double ca), .second, .val (.double cb), .second, .val (.double cc), .second] [(.ref a)]))
  refine Go.step (fun t k => XS.dload X3.here hx rfl (hb hby d2_15) rfl  k) ?_
  show Go p.tables e below P (T3.setTop (mkF m 17 #[.val (.ref a), .val (.double ca), .second, .val (.double cb), .second, .val (.double cc), .second] [(.double cc), (.ref a)]))
  obtain ⟨T4, h4, X4, e4, W4, st4⟩ := putF X3 hx hZ hown (host := "") (Or.inl (hw _ (List.mem_of_getElem? (i := 19) rfl))) Via.refl e3 ((F2.other W2 (Or.inr (slot_ne (Or.inr (hw _ (List.mem_of_getElem? (i := 20) rfl))) (Or.inr (hw _ (List.mem_of_getElem? (i := 16) rfl))) (by decide) (t := .double) (t' := .double) (by decide) (by decide)))).other W3 (Or.inr (slot_ne (Or.inr (hw _ (List.mem_of_getElem? (i := 20) rfl))) (Or.inr (hw _ (List.mem_of_getElem? (i := 18) rfl))) (by decide) (t := .double) (t' := .double) (by decide) (by decide)))) ((E_a.wr W2).wr W3) (Or.inr ⟨(hw _ (List.mem_of_getElem? (i := 20) rfl)), rfl, hnm⟩) (hw _ (List.mem_of_getElem? (i := 2) rfl)) (ty := .double) (by decide) rfl rfl (g := (mkF m 17 #[.val (.ref a), .val (.double ca), .second, .val (.double cb), .second, .val (.double cc), .second] [(.double cc), (.ref a)])) rfl rfl (hb hby d2_17)
  have Fw4 := ((F2.other W2 (Or.inr (slot_ne (Or.inr (hw _ (List.mem_of_getElem? (i := 20) rfl))) (Or.inr (hw _ (List.mem_of_getElem? (i := 16) rfl))) (by decide) (t := .double) (t' := .double) (by decide) (by decide)))).other W3 (Or.inr (slot_ne (Or.inr (hw _ (List.mem_of_getElem? (i := 20) rfl))) (Or.inr (hw _ (List.mem_of_getElem? (i := 18) rfl))) (by decide) (t := .double) (t' := .double) (by decide) (by decide)))).same W4
  have N4 := Fr.snoc X4 N3 g_a
  have K4 : Keep h0 h4 [a] := K3.wr W4 (Or.inl (List.mem_of_getElem? (i := 0) rfl))
  have Z4 : n0 ≤ h4.size := Nat.le_trans Z3 (Keep.of_wr W4).1
  refine Go.step (fun t k => st4 t k) ?_
  show Go p.tables e below P (T4.setTop (mkF m 20 #[.val (.ref a), .val (.double ca), .second, .val (.double cb), .second, .val (.double cc), .second] []))
  exact voidGo X4 hx hP Bd.returns hlk (hb hby d2_20) (by decide) (by decide) (by rw [e4]; exact ⟨rfl, N4, K4, (((E_a.wr W2).wr W3).wr W4), ((Fw2.other W3 (Or.inr (slot_ne (Or.inr (hw _ (List.mem_of_getElem? (i := 16) rfl))) (Or.inr (hw _ (List.mem_of_getElem? (i := 18) rfl))) (by decide) (t := .double) (t' := .double) (by decide) (by decide)))).other W4 (Or.inr (slot_ne (Or.inr (hw _ (List.mem_of_getElem? (i := 16) rfl))) (Or.inr (hw _ (List.mem_of_getElem? (i := 20) rfl))) (by decide) (t := .double) (t' := .double) (by decide) (by decide)))), (Fw3.other W4 (Or.inr (slot_ne (Or.inr (hw _ (List.mem_of_getElem? (i := 18) rfl))) (Or.inr (hw _ (List.mem_of_getElem? (i := 20) rfl))) (by decide) (t := .double) (t' := .double) (by decide) (by decide)))), Fw4⟩)
theorem d3_0 : decode prog_27_method_2_code 0 = .ok (.aload_n 0, 1) := by decide +kernel
theorem d3_1 : decode prog_27_method_2_code 1 = .ok (.getfield 7, 3) := by decide +kernel
theorem d3_4 : decode prog_27_method_2_code 4 = .ok (.aload_n 0, 1) := by decide +kernel
theorem d3_5 : decode prog_27_method_2_code 5 = .ok (.getfield 13, 3) := by decide +kernel
theorem d3_8 : decode prog_27_method_2_code 8 = .ok (.dload_n 1, 1) := by decide +kernel
theorem d3_9 : decode prog_27_method_2_code 9 = .ok (.dmul, 1) := by decide +kernel
theorem d3_10 : decode prog_27_method_2_code 10 = .ok (.dadd, 1) := by decide +kernel
theorem d3_11 : decode prog_27_method_2_code 11 = .ok (.aload_n 0, 1) := by decide +kernel
theorem d3_12 : decode prog_27_method_2_code 12 = .ok (.getfield 16, 3) := by decide +kernel
theorem d3_15 : decode prog_27_method_2_code 15 = .ok (.dload_n 1, 1) := by decide +kernel
theorem d3_16 : decode prog_27_method_2_code 16 = .ok (.dmul, 1) := by decide +kernel
theorem d3_17 : decode prog_27_method_2_code 17 = .ok (.dload_n 1, 1) := by decide +kernel
theorem d3_18 : decode prog_27_method_2_code 18 = .ok (.dmul, 1) := by decide +kernel
theorem d3_19 : decode prog_27_method_2_code 19 = .ok (.dadd, 1) := by decide +kernel
theorem d3_20 : decode prog_27_method_2_code 20 = .ok (.dreturn, 1) := by decide +kernel
theorem pn_3 : plainName "com/example/gleitfahrt/gleitfahrt/engine/RunningResistance" = true := by first | (simp [plainName, overriddenIn]; done) | decide +kernel
theorem ef_3 (m : MethodId) (x0 : Addr) (x1 : UInt64) : entryFrame m #[(.ref x0), (.double x1)] 3 = mkF m 0 #[.val (.ref x0), .val (.double x1), .second] [] := by first | (simp [entryFrame, mkF, argsToLocals, Value.category]; done) | rfl
def Q3 (Z : State) (a : Addr) (vd : UInt64) (ca : UInt64) (cb : UInt64) (cc : UInt64) (i : Int) (j : Int) (n : Int) (kk : Int) (h0 : Heap) (n0 : Nat) (v : Option Value) (h : Heap) (L : List Loc) : Prop := ∃ r : UInt64, v = some (.double r) ∧ DE 1070 (16 * i + 4 * (j * kk) + n * kk * kk) r ∧ Fr n0 L ∧ h = h0
set_option maxRecDepth 65536 in
set_option maxHeartbeats 40000000 in
theorem rm3 (l : Launch) (Z : State) (a0 : Array Value) (hw : ∀ d ∈ tables_1, d.before a0 Z = true) (ws : List Jvm.Cond) (a : Addr) (vd : UInt64) (ca : UInt64) (cb : UInt64) (cc : UInt64) (i : Int) (j : Int) (n : Int) (kk : Int) (h0 : Heap) (n0 : Nat) (Z0 : n0 ≤ h0.size) (F0 : Fld Z h0 a "com/example/gleitfahrt/gleitfahrt/engine/RunningResistance" "constantN" "D" (.double ca)) (F1 : Fld Z h0 a "com/example/gleitfahrt/gleitfahrt/engine/RunningResistance" "linearNsPerM" "D" (.double cb)) (F2 : Fld Z h0 a "com/example/gleitfahrt/gleitfahrt/engine/RunningResistance" "quadraticNs2PerM2" "D" (.double cc)) (qa : DE 1074 i ca) (qb : DE 1074 j cb) (qc : DE 1074 n cc) (qv : DE 1072 kk vd) (bi : i.natAbs ≤ 2 ^ 31) (bj : j.natAbs ≤ 2 ^ 31) (bn : n.natAbs ≤ 2 ^ 31) (bk : kk.natAbs ≤ 2 ^ 10) :
    MetFree l (⟨"com/example/gleitfahrt/gleitfahrt/engine/RunningResistance", "atN", "(D)D"⟩ : MethodName) (head1 (Jvm.Cond.code (⟨"com/example/gleitfahrt/gleitfahrt/engine/RunningResistance", "atN", "(D)D"⟩ : MethodName) prog_27_method_2_code 3 (some .double) :: ws) ({ frames := 0, cells := 0, slots := 0, locals := 0 } : Room)) (fun a_ U => a_ = #[(.ref a), (.double vd)] ∧ Z.Warmed39 U.vm ∧ U.heap = h0) (fun _ _ _ _ _ => True) (fun _ U o U' => ∃ v L, o = .returned v ∧ Q3 Z a vd ca cb cc i j n kk h0 n0 v U'.heap L ∧ FrameEnd U o U' L (({ frames := 0, cells := 0, slots := 0, locals := 0 } : Room)).cells (({ frames := 0, cells := 0, slots := 0, locals := 0 } : Room)).slots) := by
  refine MetFree.of_bodySF (plainFor_of_name pn_3) hisR ?_
  intro p e s m args below meth c s₁ Bd hml0 hP0 hK
  obtain ⟨rfl, hZ, hh⟩ := hP0
  have hx := Bd.exec
  have hby := Bd.bytes
  have hml : c.maxLocals = 3 := hml0
  have hown : s.vm.findClass "com/example/gleitfahrt/gleitfahrt/engine/RunningResistance" = some m.cls := findClass_of_methodNamed Bd.named
  have hnm := (name_of_methodNamed Bd.named Bd.method).1
  have X0 : Stand p l e ({ frames := 0, cells := 0, slots := 0, locals := 0 } : Room) s m #[(.ref a), (.double vd)] below meth c s₁ [] 0 0 := Stand.of_body Bd
  have e0 : s₁.heap = h0 := by rw [← hh, Bd.state]; rfl
  have N0 := Fr.nil n0
  have hlk : meth.locks = false := BodyLoose.notSynchronized Bd
  refine Go.start (P₀ := fun s₂ o => ∃ v L, o = .returned v ∧ Q3 Z a vd ca cb cc i j n kk h0 n0 v s₂.heap L ∧ FrameEnd s o s₂ L (({ frames := 0, cells := 0, slots := 0, locals := 0 } : Room)).cells (({ frames := 0, cells := 0, slots := 0, locals := 0 } : Room)).slots) (congrArg s₁.setTop (ef_3 m a vd)) ?_
  intro P hP
  show Go p.tables e below P (s₁.setTop (mkF m 0 #[.val (.ref a), .val (.double vd), .second] []))
  have bjk := nmul bj bk
  have bnk := nmul bn bk
  have bnkk := nmul bnk bk
  refine Go.step (fun t k => XS.aloadN X0.here hx rfl (hb hby d3_0) rfl rfl k) ?_
  show Go p.tables e below P (s₁.setTop (mkF m 1 #[.val (.ref a), .val (.double vd), .second] [(.ref a)]))
  obtain ⟨T1, X1, e1, st1⟩ := getF X0 hx hZ hown (host := "") (Or.inl (hw _ (List.mem_of_getElem? (i := 15) rfl))) Via.refl e0 F0 (g := (mkF m 1 #[.val (.ref a), .val (.double vd), .second] [(.ref a)])) rfl rfl (hb hby d3_1)
  refine Go.step (fun t k => st1 t k) ?_
  show Go p.tables e below P (T1.setTop (mkF m 4 #[.val (.ref a), .val (.double vd), .second] [(.double ca)]))
  refine Go.step (fun t k => XS.aloadN X1.here hx rfl (hb hby d3_4) rfl rfl k) ?_
  show Go p.tables e below P (T1.setTop (mkF m 5 #[.val (.ref a), .val (.double vd), .second] [(.ref a), (.double ca)]))
  obtain ⟨T2, X2, e2, st2⟩ := getF X1 hx hZ hown (host := "") (Or.inl (hw _ (List.mem_of_getElem? (i := 17) rfl))) Via.refl e1 F1 (g := (mkF m 5 #[.val (.ref a), .val (.double vd), .second] [(.ref a), (.double ca)])) rfl rfl (hb hby d3_5)
  refine Go.step (fun t k => st2 t k) ?_
  show Go p.tables e below P (T2.setTop (mkF m 8 #[.val (.ref a), .val (.double vd), .second] [(.double cb), (.double ca)]))
  refine Go.step (fun t k => XS.dloadN X2.here hx rfl (hb hby d3_8) rfl  k) ?_
  show Go p.tables e below P (T2.setTop (mkF m 9 #[.val (.ref a), .val (.double vd), .second] [(.double vd), (.double cb), (.double ca)]))
  obtain ⟨d9, hd9⟩ : ∃ z : UInt64, FP.dmul cb vd = z := ⟨_, rfl⟩
  have q9 := mul_e (k := 1072) qb qv rfl rfl (by omega) (by decide)
  rw [hd9] at q9
  refine Go.step (fun t k => XS.dmulS X2.here hx rfl (hb hby d3_9) rfl (hd9 ▸ q9.nn) hd9 k) ?_
  show Go p.tables e below P (T2.setTop (mkF m 10 #[.val (.ref a), .val (.double vd), .second] [(.double d9), (.double ca)]))
  obtain ⟨d10, hd10⟩ : ∃ z : UInt64, FP.dadd ca d9 = z := ⟨_, rfl⟩
  have q10 := add_e (n := 4 * i + j * kk) (qa.down (k' := 1072) (n := 2) rfl) q9 (by omega) (by omega) (by decide)
  rw [hd10] at q10
  refine Go.step (fun t k => XS.daddS X2.here hx rfl (hb hby d3_10) rfl (hd10 ▸ q10.nn) hd10 k) ?_
  show Go p.tables e below P (T2.setTop (mkF m 11 #[.val (.ref a), .val (.double vd), .second] [(.double d10)]))
  refine Go.step (fun t k => XS.aloadN X2.here hx rfl (hb hby d3_11) rfl rfl k) ?_
  show Go p.tables e below P (T2.setTop (mkF m 12 #[.val (.ref a), .val (.double vd), .second] [(.ref a), (.double d10)]))
  obtain ⟨T3, X3, e3, st3⟩ := getF X2 hx hZ hown (host := "") (Or.inl (hw _ (List.mem_of_getElem? (i := 19) rfl))) Via.refl e2 F2 (g := (mkF m 12 #[.val (.ref a), .val (.double vd), .second] [(.ref a), (.double d10)])) rfl rfl (hb hby d3_12)
  refine Go.step (fun t k => st3 t k) ?_
  show Go p.tables e below P (T3.setTop (mkF m 15 #[.val (.ref a), .val (.double vd), .second] [(.double cc), (.double d10)]))
  refine Go.step (fun t k => XS.dloadN X3.here hx rfl (hb hby d3_15) rfl  k) ?_
  show Go p.tables e below P (T3.setTop (mkF m 16 #[.val (.ref a), .val (.double vd), .second] [(.double vd), (.double cc), (.double d10)]))
  obtain ⟨d16, hd16⟩ : ∃ z : UInt64, FP.dmul cc vd = z := ⟨_, rfl⟩
  have q16 := mul_e (k := 1072) qc qv rfl rfl (by omega) (by decide)
  rw [hd16] at q16
  refine Go.step (fun t k => XS.dmulS X3.here hx rfl (hb hby d3_16) rfl (hd16 ▸ q16.nn) hd16 k) ?_
  show Go p.tables e below P (T3.setTop (mkF m 17 #[.val (.ref a), .val (.double vd), .second] [(.double d16), (.double d10)]))
  refine Go.step (fun t k => XS.dloadN X3.here hx rfl (hb hby d3_17) rfl  k) ?_
  show Go p.tables e below P (T3.setTop (mkF m 18 #[.val (.ref a), .val (.double vd), .second] [(.double vd), (.double d16), (.double d10)]))
  obtain ⟨d18, hd18⟩ : ∃ z : UInt64, FP.dmul d16 vd = z := ⟨_, rfl⟩
  have q18 := mul_e (k := 1070) q16 qv rfl rfl (by omega) (by decide)
  rw [hd18] at q18
  refine Go.step (fun t k => XS.dmulS X3.here hx rfl (hb hby d3_18) rfl (hd18 ▸ q18.nn) hd18 k) ?_
  show Go p.tables e below P (T3.setTop (mkF m 19 #[.val (.ref a), .val (.double vd), .second] [(.double d18), (.double d10)]))
  obtain ⟨d19, hd19⟩ : ∃ z : UInt64, FP.dadd d10 d18 = z := ⟨_, rfl⟩
  have q19 := add_e (n := 16 * i + 4 * (j * kk) + n * kk * kk) (q10.down (k' := 1070) (n := 2) rfl) q18 (by omega) (by omega) (by decide)
  rw [hd19] at q19
  refine Go.step (fun t k => XS.daddS X3.here hx rfl (hb hby d3_19) rfl (hd19 ▸ q19.nn) hd19 k) ?_
  show Go p.tables e below P (T3.setTop (mkF m 20 #[.val (.ref a), .val (.double vd), .second] [(.double d19)]))
  exact retGo X3 hx hP Bd.returns hlk rfl (Or.inr (Or.inr (Or.inl ⟨rfl, rfl, _, rfl⟩))) (hb hby d3_20) (by decide) (by decide) (by rw [e3]; exact ⟨d19, rfl, q19, N0, rfl⟩)
theorem pn_0 : plainName "com/example/gleitfahrt/gleitfahrt/engine/RunningResistanceAtNPinLaw" = true := by first | (simp [plainName, overriddenIn]; done) | decide +kernel
theorem ef_0 (m : MethodId) (x0 : Int32) (x1 : Int32) (x2 : Int32) (x3 : Int32) : entryFrame m #[(.int x0), (.int x1), (.int x2), (.int x3)] maxLocals = mkF m 0 #[.val (.int x0), .val (.int x1), .val (.int x2), .val (.int x3), .unset, .unset, .unset, .unset, .unset, .unset, .unset, .unset] [] := by first | (simp [entryFrame, mkF, argsToLocals, Value.category, maxLocals]; done) | rfl
def Q0 (Z : State) (p1 : Int32) (p2 : Int32) (p3 : Int32) (p4 : Int32) (h0 : Heap) (n0 : Nat) (v : Option Value) (h : Heap) (L : List Loc) : Prop := v = some (.int 1) ∧ Fr n0 L
set_option maxRecDepth 65536 in
set_option maxHeartbeats 40000000 in
theorem rm0 (l : Launch) (Z : State) (a0 : Array Value) (hw : ∀ d ∈ tables_1, d.before a0 Z = true) (ws : List Jvm.Cond) (p1 : Int32) (p2 : Int32) (p3 : Int32) (p4 : Int32) (h0 : Heap) (n0 : Nat) (Z0 : n0 ≤ h0.size) :
    MetFree l x (head1 (Jvm.Cond.code x code maxLocals ret :: ws) room_1) (fun a_ U => a_ = #[(.int p1), (.int p2), (.int p3), (.int p4)] ∧ Z.Warmed39 U.vm ∧ U.heap = h0) (fun _ _ _ _ _ => True) (fun _ U o U' => ∃ v L, o = .returned v ∧ Q0 Z p1 p2 p3 p4 h0 n0 v U'.heap L ∧ FrameEnd U o U' L 16 128) := by
  refine MetFree.of_bodySF (plainFor_of_name pn_0) hisR ?_
  intro p e s m args below meth c s₁ Bd hml0 hP0 hK
  obtain ⟨rfl, hZ, hh⟩ := hP0
  have hx := Bd.exec
  have hby := Bd.bytes
  have hml : c.maxLocals = 12 := hml0
  have hown : s.vm.findClass "com/example/gleitfahrt/gleitfahrt/engine/RunningResistanceAtNPinLaw" = some m.cls := findClass_of_methodNamed Bd.named
  have hnm := (name_of_methodNamed Bd.named Bd.method).1
  have X0 : Stand p l e room_1 s m #[(.int p1), (.int p2), (.int p3), (.int p4)] below meth c s₁ [] 0 0 := Stand.of_body Bd
  have e0 : s₁.heap = h0 := by rw [← hh, Bd.state]; rfl
  have N0 := Fr.nil n0
  have hlk : meth.locks = false := BodyLoose.notSynchronized Bd
  refine Go.start (P₀ := fun s₂ o => ∃ v L, o = .returned v ∧ Q0 Z p1 p2 p3 p4 h0 n0 v s₂.heap L ∧ FrameEnd s o s₂ L 16 128) (congrArg s₁.setTop (ef_0 m p1 p2 p3 p4)) ?_
  intro P hP
  show Go p.tables e below P (s₁.setTop (mkF m 0 #[.val (.int p1), .val (.int p2), .val (.int p3), .val (.int p4), .unset, .unset, .unset, .unset, .unset, .unset, .unset, .unset] []))
  have r1 := rng32 p1
  have r2 := rng32 p2
  have r3 := rng32 p3
  have r4 := rng32 p4
  refine Go.step (fun t k => XS.iloadN X0.here hx rfl (hb hby at_0) rfl  k) ?_
  show Go p.tables e below P (s₁.setTop (mkF m 1 #[.val (.int p1), .val (.int p2), .val (.int p3), .val (.int p4), .unset, .unset, .unset, .unset, .unset, .unset, .unset, .unset] [(.int p4)]))
  refine Go.step (fun t k => XS.sipush X0.here hx rfl (hb hby at_1) k) ?_
  show Go p.tables e below P (s₁.setTop (mkF m 4 #[.val (.int p1), .val (.int p2), .val (.int p3), .val (.int p4), .unset, .unset, .unset, .unset, .unset, .unset, .unset, .unset] [(.int (1025 : Int32)), (.int p4)]))
  obtain ⟨kr, hkr⟩ : ∃ z : Int32, p4 % (1025 : Int32) = z := ⟨_, rfl⟩
  refine Go.step (fun t k => irem_v X0.here hx rfl (hb hby at_4) rfl (by decide) hkr k) ?_
  show Go p.tables e below P (s₁.setTop (mkF m 5 #[.val (.int p1), .val (.int p2), .val (.int p3), .val (.int p4), .unset, .unset, .unset, .unset, .unset, .unset, .unset, .unset] [(.int kr)]))
  have f4 := c_irem p4 (1025 : Int32) 1025 rfl; rw [hkr] at f4
  have bk : kr.toInt.natAbs ≤ 2 ^ 10 := by have := f4.1; have := f4.2; omega
  refine Go.step (fun t k => XS.istore X0.here hx rfl (hb hby at_5) rfl (l' := #[.val (.int p1), .val (.int p2), .val (.int p3), .val (.int p4), .val (.int kr), .unset, .unset, .unset, .unset, .unset, .unset, .unset]) rfl k) ?_
  show Go p.tables e below P (s₁.setTop (mkF m 7 #[.val (.int p1), .val (.int p2), .val (.int p3), .val (.int p4), .val (.int kr), .unset, .unset, .unset, .unset, .unset, .unset, .unset] []))
  refine Go.step (fun t k => XS.iload X0.here hx rfl (hb hby at_7) rfl  k) ?_
  show Go p.tables e below P (s₁.setTop (mkF m 9 #[.val (.int p1), .val (.int p2), .val (.int p3), .val (.int p4), .val (.int kr), .unset, .unset, .unset, .unset, .unset, .unset, .unset] [(.int kr)]))
  obtain ⟨dk, hdk⟩ : ∃ z : UInt64, FP.i2d kr = z := ⟨_, rfl⟩
  refine Go.step (fun t k => XS.i2dS X0.here hx rfl (hb hby at_9) rfl hdk k) ?_
  show Go p.tables e below P (s₁.setTop (mkF m 10 #[.val (.int p1), .val (.int p2), .val (.int p3), .val (.int p4), .val (.int kr), .unset, .unset, .unset, .unset, .unset, .unset, .unset] [(.double dk)]))
  have qk := i2d_e kr; rw [hdk] at qk
  refine Go.step (fun t k => X0.ldc2DoubleC hx hown (mvT hZ (hw _ (List.mem_of_getElem? (i := 0) rfl))) (g := (mkF m 10 #[.val (.int p1), .val (.int p2), .val (.int p3), .val (.int p4), .val (.int kr), .unset, .unset, .unset, .unset, .unset, .unset, .unset] [(.double dk)])) rfl (hb hby at_10) t k) ?_
  show Go p.tables e below P (s₁.setTop (mkF m 13 #[.val (.int p1), .val (.int p2), .val (.int p3), .val (.int p4), .val (.int kr), .unset, .unset, .unset, .unset, .unset, .unset, .unset] [(.double (4616189618054758400 : UInt64)), (.double dk)]))
  have q4 : DE 1076 1 (4616189618054758400 : UInt64) := DE.of ⟨_, _, _, rfl⟩ (by decide +kernel)
  obtain ⟨vd, hvd⟩ : ∃ z : UInt64, FP.ddiv dk (4616189618054758400 : UInt64) = z := ⟨_, rfl⟩
  have qv := div_e (k := 1072) (n := kr.toInt) qk q4 (by decide) (by decide) (by omega) (by omega) (by decide)
  rw [hvd] at qv
  refine Go.step (fun t k => XS.ddivS X0.here hx rfl (hb hby at_13) rfl (hvd ▸ qv.nn) hvd k) ?_
  show Go p.tables e below P (s₁.setTop (mkF m 14 #[.val (.int p1), .val (.int p2), .val (.int p3), .val (.int p4), .val (.int kr), .unset, .unset, .unset, .unset, .unset, .unset, .unset] [(.double vd)]))
  refine Go.step (fun t k => XS.dstore X0.here hx rfl (hb hby at_14) rfl (l' := #[.val (.int p1), .val (.int p2), .val (.int p3), .val (.int p4), .val (.int kr), .val (.double vd), .second, .unset, .unset, .unset, .unset, .unset]) rfl k) ?_
  show Go p.tables e below P (s₁.setTop (mkF m 16 #[.val (.int p1), .val (.int p2), .val (.int p3), .val (.int p4), .val (.int kr), .val (.double vd), .second, .unset, .unset, .unset, .unset, .unset] []))
  obtain ⟨T1, h1, X1, e1, E1, A1, D1, -, st1⟩ := newO X0 hx hZ hown (hw _ (List.mem_of_getElem? (i := 1) rfl)) (hw _ (List.mem_of_getElem? (i := 2) rfl)) (hw _ (List.mem_of_getElem? (i := 3) rfl)) e0 (g := (mkF m 16 #[.val (.int p1), .val (.int p2), .val (.int p3), .val (.int p4), .val (.int kr), .val (.double vd), .second, .unset, .unset, .unset, .unset, .unset] [])) rfl (hb hby at_16) (by decide) (by decide)
  obtain ⟨b1, g1⟩ : ∃ z, z = h0.size := ⟨_, rfl⟩
  rw [← g1] at A1 D1 st1
  have g_b1 : n0 ≤ b1 := Nat.le_trans Z0 (Nat.le_of_eq g1.symm)
  have sz_b1 : h0.size ≤ b1 := Nat.le_trans (Keep.refl h0 []).1 (Nat.le_of_eq g1.symm)
  have F_constantN_b1 : Fld Z h1 b1 "com/example/gleitfahrt/gleitfahrt/engine/RunningResistance" "constantN" "D" (.double (0 : UInt64)) := D1 (Or.inr (hw _ (List.mem_of_getElem? (i := 16) rfl))) (ty := .double) (by decide)
  have F_linearNsPerM_b1 : Fld Z h1 b1 "com/example/gleitfahrt/gleitfahrt/engine/RunningResistance" "linearNsPerM" "D" (.double (0 : UInt64)) := D1 (Or.inr (hw _ (List.mem_of_getElem? (i := 18) rfl))) (ty := .double) (by decide)
  have F_quadraticNs2PerM2_b1 : Fld Z h1 b1 "com/example/gleitfahrt/gleitfahrt/engine/RunningResistance" "quadraticNs2PerM2" "D" (.double (0 : UInt64)) := D1 (Or.inr (hw _ (List.mem_of_getElem? (i := 20) rfl))) (ty := .double) (by decide)
  have K1 : Keep h0 h1 [] := (Keep.refl h0 []).ext E1
  have Z1 : n0 ≤ h1.size := Nat.le_trans Z0 E1.1
  refine Go.step (fun t k => st1 t k) ?_
  show Go p.tables e below P (T1.setTop (mkF m 19 #[.val (.int p1), .val (.int p2), .val (.int p3), .val (.int p4), .val (.int kr), .val (.double vd), .second, .unset, .unset, .unset, .unset, .unset] [(.ref b1)]))
  refine Go.step (fun t k => XS.dup X1.here hx rfl (hb hby at_19) rfl rfl k) ?_
  show Go p.tables e below P (T1.setTop (mkF m 20 #[.val (.int p1), .val (.int p2), .val (.int p3), .val (.int p4), .val (.int kr), .val (.double vd), .second, .unset, .unset, .unset, .unset, .unset] [(.ref b1), (.ref b1)]))
  refine Go.step (fun t k => XS.iloadN X1.here hx rfl (hb hby at_20) rfl  k) ?_
  show Go p.tables e below P (T1.setTop (mkF m 21 #[.val (.int p1), .val (.int p2), .val (.int p3), .val (.int p4), .val (.int kr), .val (.double vd), .second, .unset, .unset, .unset, .unset, .unset] [(.int p1), (.ref b1), (.ref b1)]))
  obtain ⟨d21, hd21⟩ : ∃ z : UInt64, FP.i2d p1 = z := ⟨_, rfl⟩
  refine Go.step (fun t k => XS.i2dS X1.here hx rfl (hb hby at_21) rfl hd21 k) ?_
  show Go p.tables e below P (T1.setTop (mkF m 22 #[.val (.int p1), .val (.int p2), .val (.int p3), .val (.int p4), .val (.int kr), .val (.double vd), .second, .unset, .unset, .unset, .unset, .unset] [(.double d21), (.ref b1), (.ref b1)]))
  refine Go.step (fun t k => XS.iloadN X1.here hx rfl (hb hby at_22) rfl  k) ?_
  show Go p.tables e below P (T1.setTop (mkF m 23 #[.val (.int p1), .val (.int p2), .val (.int p3), .val (.int p4), .val (.int kr), .val (.double vd), .second, .unset, .unset, .unset, .unset, .unset] [(.int p2), (.double d21), (.ref b1), (.ref b1)]))
  obtain ⟨d23, hd23⟩ : ∃ z : UInt64, FP.i2d p2 = z := ⟨_, rfl⟩
  refine Go.step (fun t k => XS.i2dS X1.here hx rfl (hb hby at_23) rfl hd23 k) ?_
  show Go p.tables e below P (T1.setTop (mkF m 24 #[.val (.int p1), .val (.int p2), .val (.int p3), .val (.int p4), .val (.int kr), .val (.double vd), .second, .unset, .unset, .unset, .unset, .unset] [(.double d23), (.double d21), (.ref b1), (.ref b1)]))
  refine Go.step (fun t k => XS.iloadN X1.here hx rfl (hb hby at_24) rfl  k) ?_
  show Go p.tables e below P (T1.setTop (mkF m 25 #[.val (.int p1), .val (.int p2), .val (.int p3), .val (.int p4), .val (.int kr), .val (.double vd), .second, .unset, .unset, .unset, .unset, .unset] [(.int p3), (.double d23), (.double d21), (.ref b1), (.ref b1)]))
  obtain ⟨d25, hd25⟩ : ∃ z : UInt64, FP.i2d p3 = z := ⟨_, rfl⟩
  refine Go.step (fun t k => XS.i2dS X1.here hx rfl (hb hby at_25) rfl hd25 k) ?_
  show Go p.tables e below P (T1.setTop (mkF m 26 #[.val (.int p1), .val (.int p2), .val (.int p3), .val (.int p4), .val (.int kr), .val (.double vd), .second, .unset, .unset, .unset, .unset, .unset] [(.double d25), (.double d23), (.double d21), (.ref b1), (.ref b1)]))
  have qa := i2d_e p1; rw [hd21] at qa
  have qb := i2d_e p2; rw [hd23] at qb
  have qc := i2d_e p3; rw [hd25] at qc
  obtain ⟨_, _, ⟨T2, L2, k2, n2⟩, -, X2, ⟨Lc2, hQ2, l2, y2, z2⟩, st2⟩ := X1.specialBack hx (y := (⟨"com/example/gleitfahrt/gleitfahrt/engine/RunningResistance", "<init>", "(DDD)V"⟩ : MethodName)) rfl hown (mvT hZ (hw _ (List.mem_of_getElem? (i := 4) rfl))) (mvT hZ (hw _ (List.mem_of_getElem? (i := 5) rfl))) (mvT hZ (hw _ (List.mem_of_getElem? (i := 6) rfl))) (by decide) (backOf (W := 1) (rm2 l Z a0 hw [] b1 d21 d23 d25 h1 n0 Z1 A1 F_constantN_b1 F_linearNsPerM_b1 F_quadraticNs2PerM2_b1 g_b1 ) hZ (hw _ (List.mem_of_getElem? (i := 6) rfl)) (hw _ (List.mem_of_getElem? (i := 3) rfl)) (by decide) (by decide)) (g := (mkF m 26 #[.val (.int p1), .val (.int p2), .val (.int p3), .val (.int p4), .val (.int kr), .val (.double vd), .second, .unset, .unset, .unset, .unset, .unset] [(.double d25), (.double d23), (.double d21), (.ref b1), (.ref b1)])) rfl (by rw [hml]; rfl) (Steps.refl _) (a := b1) (argsL := [(.double d21), (.double d23), (.double d25)]) (rest := [(.ref b1)]) (lenOf pd_1 rfl) rfl (by show 2 * 0 + _ ≤ _; exact Nat.le_of_eq rfl) (hb hby at_26) (fun _ _ => ⟨rfl, e1, (by decide : 1 + 0 ≤ _), (by decide : 3 + 0 ≤ _)⟩)
  dsimp only [Pt.U, Pt.locs, Pt.cells, Pt.slots] at X2 l2 y2 z2 st2 hQ2
  subst l2 y2 z2
  obtain ⟨rfl, N2q, Kc2, Ee2, Ff_constantN_2, Ff_linearNsPerM_2, Ff_quadraticNs2PerM2_2⟩ := hQ2
  have N2 := Fr.app N0 N2q
  have K2 : Keep h0 T2.heap [] := K1.trans Kc2 (allS (Or.inr sz_b1) all0)
  have Z2 : n0 ≤ T2.heap.size := Nat.le_trans Z1 Kc2.1
  refine Go.tr st2 ?_
  show Go p.tables e below P (T2.setTop (mkF m 29 #[.val (.int p1), .val (.int p2), .val (.int p3), .val (.int p4), .val (.int kr), .val (.double vd), .second, .unset, .unset, .unset, .unset, .unset] [(.ref b1)]))
  refine Go.step (fun t k => XS.astore X2.here hx rfl (hb hby at_29) rfl rfl (l' := #[.val (.int p1), .val (.int p2), .val (.int p3), .val (.int p4), .val (.int kr), .val (.double vd), .second, .val (.ref b1), .unset, .unset, .unset, .unset]) rfl k) ?_
  show Go p.tables e below P (T2.setTop (mkF m 31 #[.val (.int p1), .val (.int p2), .val (.int p3), .val (.int p4), .val (.int kr), .val (.double vd), .second, .val (.ref b1), .unset, .unset, .unset, .unset] []))
  refine Go.step (fun t k => XS.aload X2.here hx rfl (hb hby at_31) rfl rfl k) ?_
  show Go p.tables e below P (T2.setTop (mkF m 33 #[.val (.int p1), .val (.int p2), .val (.int p3), .val (.int p4), .val (.int kr), .val (.double vd), .second, .val (.ref b1), .unset, .unset, .unset, .unset] [(.ref b1)]))
  refine Go.step (fun t k => XS.dload X2.here hx rfl (hb hby at_33) rfl  k) ?_
  show Go p.tables e below P (T2.setTop (mkF m 35 #[.val (.int p1), .val (.int p2), .val (.int p3), .val (.int p4), .val (.int kr), .val (.double vd), .second, .val (.ref b1), .unset, .unset, .unset, .unset] [(.double vd), (.ref b1)]))
  obtain ⟨cq3, kq3, q3a, q3b, q3c⟩ := isOf hZ rfl (A1.keep Kc2)
  obtain ⟨_, _, ⟨T3, L3, k3, n3⟩, -, X3, ⟨Lc3, hQ3, l3, y3, z3⟩, st3⟩ := X2.virtualBack hx (y := (⟨"com/example/gleitfahrt/gleitfahrt/engine/RunningResistance", "atN", "(D)D"⟩ : MethodName)) (z := (⟨"com/example/gleitfahrt/gleitfahrt/engine/RunningResistance", "atN", "(D)D"⟩ : MethodName)) hown (mvT hZ (hw _ (List.mem_of_getElem? (i := 21) rfl))) (mvT hZ (hw _ (List.mem_of_getElem? (i := 22) rfl))) (notFace_of_selects (args := #[]) (mvT hZ (hw _ (List.mem_of_getElem? (i := 24) rfl)))) (mvT hZ (hw _ (List.mem_of_getElem? (i := 24) rfl))) (mvT hZ (hw _ (List.mem_of_getElem? (i := 23) rfl))) (by decide) (backOf (W := 0) (rm3 l Z a0 hw [] b1 vd d21 d23 d25 p1.toInt p2.toInt p3.toInt kr.toInt T2.heap n0 Z2 Ff_constantN_2 Ff_linearNsPerM_2 Ff_quadraticNs2PerM2_2 qa qb qc qv (by omega) (by omega) (by omega) bk) hZ (hw _ (List.mem_of_getElem? (i := 25) rfl)) (hw _ (List.mem_of_getElem? (i := 3) rfl)) (by decide) (by decide)) q3a q3c (g := (mkF m 35 #[.val (.int p1), .val (.int p2), .val (.int p3), .val (.int p4), .val (.int kr), .val (.double vd), .second, .val (.ref b1), .unset, .unset, .unset, .unset] [(.double vd), (.ref b1)])) rfl (by rw [hml]; rfl) (Steps.refl _) (argsL := [(.double vd)]) (rest := []) (lenOf pd_2 rfl) rfl (by show 2 * 0 + _ ≤ _; exact Nat.le_of_eq rfl) (hb hby at_35) (fun _ _ => ⟨rfl, rfl, (by decide : 1 + 0 ≤ _), (by decide : 3 + 0 ≤ _)⟩)
  dsimp only [Pt.U, Pt.locs, Pt.cells, Pt.slots] at X3 l3 y3 z3 st3 hQ3
  subst l3 y3 z3
  obtain ⟨rd, rfl, qr, N3q, eh3⟩ := hQ3
  have N3 := Fr.app N2 N3q
  refine Go.tr st3 ?_
  show Go p.tables e below P (T3.setTop (mkF m 38 #[.val (.int p1), .val (.int p2), .val (.int p3), .val (.int p4), .val (.int kr), .val (.double vd), .second, .val (.ref b1), .unset, .unset, .unset, .unset] [(.double rd)]))
  refine Go.step (fun t k => XS.dstore X3.here hx rfl (hb hby at_38) rfl (l' := #[.val (.int p1), .val (.int p2), .val (.int p3), .val (.int p4), .val (.int kr), .val (.double vd), .second, .val (.ref b1), .val (.double rd), .second, .unset, .unset]) rfl k) ?_
  show Go p.tables e below P (T3.setTop (mkF m 40 #[.val (.int p1), .val (.int p2), .val (.int p3), .val (.int p4), .val (.int kr), .val (.double vd), .second, .val (.ref b1), .val (.double rd), .second, .unset, .unset] []))
  refine Go.step (fun t k => X3.ldc2Long hx hown (mvT hZ (hw _ (List.mem_of_getElem? (i := 26) rfl))) (g := (mkF m 40 #[.val (.int p1), .val (.int p2), .val (.int p3), .val (.int p4), .val (.int kr), .val (.double vd), .second, .val (.ref b1), .val (.double rd), .second, .unset, .unset] [])) rfl (hb hby at_40) t k) ?_
  show Go p.tables e below P (T3.setTop (mkF m 43 #[.val (.int p1), .val (.int p2), .val (.int p3), .val (.int p4), .val (.int kr), .val (.double vd), .second, .val (.ref b1), .val (.double rd), .second, .unset, .unset] [(.long (16 : Int64))]))
  refine Go.step (fun t k => XS.iloadN X3.here hx rfl (hb hby at_43) rfl  k) ?_
  show Go p.tables e below P (T3.setTop (mkF m 44 #[.val (.int p1), .val (.int p2), .val (.int p3), .val (.int p4), .val (.int kr), .val (.double vd), .second, .val (.ref b1), .val (.double rd), .second, .unset, .unset] [(.int p1), (.long (16 : Int64))]))
  obtain ⟨j44, hj44⟩ : ∃ z : Int64, p1.toInt64 = z := ⟨_, rfl⟩
  refine Go.step (fun t k => i2l_v X3.here hx rfl (hb hby at_44) rfl hj44 k) ?_
  show Go p.tables e below P (T3.setTop (mkF m 45 #[.val (.int p1), .val (.int p2), .val (.int p3), .val (.int p4), .val (.int kr), .val (.double vd), .second, .val (.ref b1), .val (.double rd), .second, .unset, .unset] [(.long j44), (.long (16 : Int64))]))
  obtain ⟨j45, hj45⟩ : ∃ z : Int64, (16 : Int64) * j44 = z := ⟨_, rfl⟩
  refine Go.step (fun t k => lmul_v X3.here hx rfl (hb hby at_45) rfl  hj45 k) ?_
  show Go p.tables e below P (T3.setTop (mkF m 46 #[.val (.int p1), .val (.int p2), .val (.int p3), .val (.int p4), .val (.int kr), .val (.double vd), .second, .val (.ref b1), .val (.double rd), .second, .unset, .unset] [(.long j45)]))
  refine Go.step (fun t k => XS.iload X3.here hx rfl (hb hby at_46) rfl  k) ?_
  show Go p.tables e below P (T3.setTop (mkF m 48 #[.val (.int p1), .val (.int p2), .val (.int p3), .val (.int p4), .val (.int kr), .val (.double vd), .second, .val (.ref b1), .val (.double rd), .second, .unset, .unset] [(.int kr), (.long j45)]))
  obtain ⟨j48, hj48⟩ : ∃ z : Int64, kr.toInt64 = z := ⟨_, rfl⟩
  refine Go.step (fun t k => i2l_v X3.here hx rfl (hb hby at_48) rfl hj48 k) ?_
  show Go p.tables e below P (T3.setTop (mkF m 49 #[.val (.int p1), .val (.int p2), .val (.int p3), .val (.int p4), .val (.int kr), .val (.double vd), .second, .val (.ref b1), .val (.double rd), .second, .unset, .unset] [(.long j48), (.long j45)]))
  refine Go.step (fun t k => X3.ldc2Long hx hown (mvT hZ (hw _ (List.mem_of_getElem? (i := 27) rfl))) (g := (mkF m 49 #[.val (.int p1), .val (.int p2), .val (.int p3), .val (.int p4), .val (.int kr), .val (.double vd), .second, .val (.ref b1), .val (.double rd), .second, .unset, .unset] [(.long j48), (.long j45)])) rfl (hb hby at_49) t k) ?_
  show Go p.tables e below P (T3.setTop (mkF m 52 #[.val (.int p1), .val (.int p2), .val (.int p3), .val (.int p4), .val (.int kr), .val (.double vd), .second, .val (.ref b1), .val (.double rd), .second, .unset, .unset] [(.long (4 : Int64)), (.long j48), (.long j45)]))
  refine Go.step (fun t k => XS.iloadN X3.here hx rfl (hb hby at_52) rfl  k) ?_
  show Go p.tables e below P (T3.setTop (mkF m 53 #[.val (.int p1), .val (.int p2), .val (.int p3), .val (.int p4), .val (.int kr), .val (.double vd), .second, .val (.ref b1), .val (.double rd), .second, .unset, .unset] [(.int p2), (.long (4 : Int64)), (.long j48), (.long j45)]))
  obtain ⟨j53, hj53⟩ : ∃ z : Int64, p2.toInt64 = z := ⟨_, rfl⟩
  refine Go.step (fun t k => i2l_v X3.here hx rfl (hb hby at_53) rfl hj53 k) ?_
  show Go p.tables e below P (T3.setTop (mkF m 54 #[.val (.int p1), .val (.int p2), .val (.int p3), .val (.int p4), .val (.int kr), .val (.double vd), .second, .val (.ref b1), .val (.double rd), .second, .unset, .unset] [(.long j53), (.long (4 : Int64)), (.long j48), (.long j45)]))
  obtain ⟨j54, hj54⟩ : ∃ z : Int64, (4 : Int64) * j53 = z := ⟨_, rfl⟩
  refine Go.step (fun t k => lmul_v X3.here hx rfl (hb hby at_54) rfl  hj54 k) ?_
  show Go p.tables e below P (T3.setTop (mkF m 55 #[.val (.int p1), .val (.int p2), .val (.int p3), .val (.int p4), .val (.int kr), .val (.double vd), .second, .val (.ref b1), .val (.double rd), .second, .unset, .unset] [(.long j54), (.long j48), (.long j45)]))
  refine Go.step (fun t k => XS.iloadN X3.here hx rfl (hb hby at_55) rfl  k) ?_
  show Go p.tables e below P (T3.setTop (mkF m 56 #[.val (.int p1), .val (.int p2), .val (.int p3), .val (.int p4), .val (.int kr), .val (.double vd), .second, .val (.ref b1), .val (.double rd), .second, .unset, .unset] [(.int p3), (.long j54), (.long j48), (.long j45)]))
  obtain ⟨j56, hj56⟩ : ∃ z : Int64, p3.toInt64 = z := ⟨_, rfl⟩
  refine Go.step (fun t k => i2l_v X3.here hx rfl (hb hby at_56) rfl hj56 k) ?_
  show Go p.tables e below P (T3.setTop (mkF m 57 #[.val (.int p1), .val (.int p2), .val (.int p3), .val (.int p4), .val (.int kr), .val (.double vd), .second, .val (.ref b1), .val (.double rd), .second, .unset, .unset] [(.long j56), (.long j54), (.long j48), (.long j45)]))
  refine Go.step (fun t k => XS.iload X3.here hx rfl (hb hby at_57) rfl  k) ?_
  show Go p.tables e below P (T3.setTop (mkF m 59 #[.val (.int p1), .val (.int p2), .val (.int p3), .val (.int p4), .val (.int kr), .val (.double vd), .second, .val (.ref b1), .val (.double rd), .second, .unset, .unset] [(.int kr), (.long j56), (.long j54), (.long j48), (.long j45)]))
  obtain ⟨j59, hj59⟩ : ∃ z : Int64, kr.toInt64 = z := ⟨_, rfl⟩
  refine Go.step (fun t k => i2l_v X3.here hx rfl (hb hby at_59) rfl hj59 k) ?_
  show Go p.tables e below P (T3.setTop (mkF m 60 #[.val (.int p1), .val (.int p2), .val (.int p3), .val (.int p4), .val (.int kr), .val (.double vd), .second, .val (.ref b1), .val (.double rd), .second, .unset, .unset] [(.long j59), (.long j56), (.long j54), (.long j48), (.long j45)]))
  obtain ⟨j60, hj60⟩ : ∃ z : Int64, j56 * j59 = z := ⟨_, rfl⟩
  refine Go.step (fun t k => lmul_v X3.here hx rfl (hb hby at_60) rfl  hj60 k) ?_
  show Go p.tables e below P (T3.setTop (mkF m 61 #[.val (.int p1), .val (.int p2), .val (.int p3), .val (.int p4), .val (.int kr), .val (.double vd), .second, .val (.ref b1), .val (.double rd), .second, .unset, .unset] [(.long j60), (.long j54), (.long j48), (.long j45)]))
  obtain ⟨j61, hj61⟩ : ∃ z : Int64, j54 + j60 = z := ⟨_, rfl⟩
  refine Go.step (fun t k => ladd_v X3.here hx rfl (hb hby at_61) rfl  hj61 k) ?_
  show Go p.tables e below P (T3.setTop (mkF m 62 #[.val (.int p1), .val (.int p2), .val (.int p3), .val (.int p4), .val (.int kr), .val (.double vd), .second, .val (.ref b1), .val (.double rd), .second, .unset, .unset] [(.long j61), (.long j48), (.long j45)]))
  obtain ⟨j62, hj62⟩ : ∃ z : Int64, j48 * j61 = z := ⟨_, rfl⟩
  refine Go.step (fun t k => lmul_v X3.here hx rfl (hb hby at_62) rfl  hj62 k) ?_
  show Go p.tables e below P (T3.setTop (mkF m 63 #[.val (.int p1), .val (.int p2), .val (.int p3), .val (.int p4), .val (.int kr), .val (.double vd), .second, .val (.ref b1), .val (.double rd), .second, .unset, .unset] [(.long j62), (.long j45)]))
  obtain ⟨j63, hj63⟩ : ∃ z : Int64, j45 + j62 = z := ⟨_, rfl⟩
  refine Go.step (fun t k => ladd_v X3.here hx rfl (hb hby at_63) rfl  hj63 k) ?_
  show Go p.tables e below P (T3.setTop (mkF m 64 #[.val (.int p1), .val (.int p2), .val (.int p3), .val (.int p4), .val (.int kr), .val (.double vd), .second, .val (.ref b1), .val (.double rd), .second, .unset, .unset] [(.long j63)]))
  have mb1 := nmul (show p2.toInt.natAbs ≤ 2 ^ 31 by omega) bk
  have mb2 := nmul (show p3.toInt.natAbs ≤ 2 ^ 31 by omega) bk
  have mb3 := nmul mb2 bk
  have e16 : (16 : Int64).toInt = 16 := rfl
  have e4 : (4 : Int64).toInt = 4 := rfl
  have f44 := c_i2l p1; rw [hj44] at f44
  have f48 := c_i2l kr; rw [hj48] at f48
  have f53 := c_i2l p2; rw [hj53] at f53
  have f56 := c_i2l p3; rw [hj56] at f56
  have f59 := c_i2l kr; rw [hj59] at f59
  have f45 := c_lmul (16 : Int64) j44; rw [hj45, e16, f44] at f45
  have g45 := rng64 j45
  have v45 : j45.toInt = 16 * p1.toInt := by omega
  have f54 := c_lmul (4 : Int64) j53; rw [hj54, e4, f53] at f54
  have g54 := rng64 j54
  have v54 : j54.toInt = 4 * p2.toInt := by omega
  have f60 := c_lmul j56 j59; rw [hj60, f56, f59] at f60
  have g60 := rng64 j60
  have v60 : j60.toInt = p3.toInt * kr.toInt := by omega
  have f61 := c_ladd j54 j60; rw [hj61, v54, v60] at f61
  have g61 := rng64 j61
  have v61 : j61.toInt = 4 * p2.toInt + p3.toInt * kr.toInt := by omega
  have f62 := c_lmul j48 j61; rw [hj62, f48, v61] at f62
  have g62 := rng64 j62
  have e62 : kr.toInt * (4 * p2.toInt + p3.toInt * kr.toInt) = 4 * (p2.toInt * kr.toInt) + p3.toInt * kr.toInt * kr.toInt := by rw [Int.mul_add]; simp only [Int.mul_comm, Int.mul_left_comm, Int.mul_assoc]
  rw [e62] at f62
  have v62 : j62.toInt = 4 * (p2.toInt * kr.toInt) + p3.toInt * kr.toInt * kr.toInt := by omega
  have f63 := c_ladd j45 j62; rw [hj63, v45, v62] at f63
  have g63 := rng64 j63
  have v63 : j63.toInt = 16 * p1.toInt + 4 * (p2.toInt * kr.toInt) + p3.toInt * kr.toInt * kr.toInt := by omega
  refine Go.step (fun t k => XS.lstore X3.here hx rfl (hb hby at_64) rfl (l' := #[.val (.int p1), .val (.int p2), .val (.int p3), .val (.int p4), .val (.int kr), .val (.double vd), .second, .val (.ref b1), .val (.double rd), .second, .val (.long j63), .second]) rfl k) ?_
  show Go p.tables e below P (T3.setTop (mkF m 66 #[.val (.int p1), .val (.int p2), .val (.int p3), .val (.int p4), .val (.int kr), .val (.double vd), .second, .val (.ref b1), .val (.double rd), .second, .val (.long j63), .second] []))
  refine Go.step (fun t k => XS.dload X3.here hx rfl (hb hby at_66) rfl  k) ?_
  show Go p.tables e below P (T3.setTop (mkF m 68 #[.val (.int p1), .val (.int p2), .val (.int p3), .val (.int p4), .val (.int kr), .val (.double vd), .second, .val (.ref b1), .val (.double rd), .second, .val (.long j63), .second] [(.double rd)]))
  refine Go.step (fun t k => X3.ldc2DoubleC hx hown (mvT hZ (hw _ (List.mem_of_getElem? (i := 28) rfl))) (g := (mkF m 68 #[.val (.int p1), .val (.int p2), .val (.int p3), .val (.int p4), .val (.int kr), .val (.double vd), .second, .val (.ref b1), .val (.double rd), .second, .val (.long j63), .second] [(.double rd)])) rfl (hb hby at_68) t k) ?_
  show Go p.tables e below P (T3.setTop (mkF m 71 #[.val (.int p1), .val (.int p2), .val (.int p3), .val (.int p4), .val (.int kr), .val (.double vd), .second, .val (.ref b1), .val (.double rd), .second, .val (.long j63), .second] [(.double (4625196817309499392 : UInt64)), (.double rd)]))
  have q16 : DE 1078 1 (4625196817309499392 : UInt64) := DE.of ⟨_, _, _, rfl⟩ (by decide +kernel)
  obtain ⟨d71, hd71⟩ : ∃ z : UInt64, FP.dmul rd (4625196817309499392 : UInt64) = z := ⟨_, rfl⟩
  have q71 := mul_e (k := 1074) (n := 16 * p1.toInt + 4 * (p2.toInt * kr.toInt) + p3.toInt * kr.toInt * kr.toInt) qr q16 rfl (Int.mul_one _) (by omega) (by decide)
  rw [hd71] at q71
  refine Go.step (fun t k => XS.dmulS X3.here hx rfl (hb hby at_71) rfl (hd71 ▸ q71.nn) hd71 k) ?_
  show Go p.tables e below P (T3.setTop (mkF m 72 #[.val (.int p1), .val (.int p2), .val (.int p3), .val (.int p4), .val (.int kr), .val (.double vd), .second, .val (.ref b1), .val (.double rd), .second, .val (.long j63), .second] [(.double d71)]))
  refine Go.step (fun t k => XS.lload X3.here hx rfl (hb hby at_72) rfl  k) ?_
  show Go p.tables e below P (T3.setTop (mkF m 74 #[.val (.int p1), .val (.int p2), .val (.int p3), .val (.int p4), .val (.int kr), .val (.double vd), .second, .val (.ref b1), .val (.double rd), .second, .val (.long j63), .second] [(.long j63), (.double d71)]))
  obtain ⟨de, hde⟩ : ∃ z : UInt64, FP.l2d j63 = z := ⟨_, rfl⟩
  refine Go.step (fun t k => XS.l2dS X3.here hx rfl (hb hby at_74) rfl hde k) ?_
  show Go p.tables e below P (T3.setTop (mkF m 75 #[.val (.int p1), .val (.int p2), .val (.int p3), .val (.int p4), .val (.int kr), .val (.double vd), .second, .val (.ref b1), .val (.double rd), .second, .val (.long j63), .second] [(.double de), (.double d71)]))
  have qe := l2d_e (x := j63) (by omega); rw [hde, v63] at qe
  refine Go.step (fun t k => XS.dcmpS X3.here hx rfl (hb hby at_75) rfl rfl k) ?_
  show Go p.tables e below P (T3.setTop (mkF m 76 #[.val (.int p1), .val (.int p2), .val (.int p3), .val (.int p4), .val (.int kr), .val (.double vd), .second, .val (.ref b1), .val (.double rd), .second, .val (.long j63), .second] [(.int (cmpValue (FP.dcmp d71 de) .l))]))
  refine Go.step (fun t k => XS.ifNo X3.here hx rfl (hb hby at_76) rfl (dcN (cd := .ne) (DE.cmp q71 qe) (fun q => q rfl)) k) ?_
  show Go p.tables e below P (T3.setTop (mkF m 79 #[.val (.int p1), .val (.int p2), .val (.int p3), .val (.int p4), .val (.int kr), .val (.double vd), .second, .val (.ref b1), .val (.double rd), .second, .val (.long j63), .second] []))
  refine Go.step (fun t k => XS.iconst X3.here hx rfl (hb hby at_79) k) ?_
  show Go p.tables e below P (T3.setTop (mkF m 80 #[.val (.int p1), .val (.int p2), .val (.int p3), .val (.int p4), .val (.int kr), .val (.double vd), .second, .val (.ref b1), .val (.double rd), .second, .val (.long j63), .second] [(.int (1 : Int32))]))
  refine Go.step (fun t k => XS.goto X3.here hx rfl (pc0 := 80) (pc' := 84) rfl (hb hby at_80) (by decide) (by decide) k) ?_
  show Go p.tables e below P (T3.setTop (mkF m 84 #[.val (.int p1), .val (.int p2), .val (.int p3), .val (.int p4), .val (.int kr), .val (.double vd), .second, .val (.ref b1), .val (.double rd), .second, .val (.long j63), .second] [(.int (1 : Int32))]))
  exact retGo X3 hx hP Bd.returns hlk rfl (Or.inl ⟨rfl, Or.inr (Or.inl rfl), _, rfl⟩) (hb hby at_84) (by decide) (by decide) (by rw [eh3]; exact ⟨rfl, N3⟩)
set_option maxRecDepth 65536 in
set_option maxHeartbeats 40000000 in
theorem comes_1 {Post : Tables → Env → Array Value → State → Outcome → State → Prop} (hpost : ∀ tb e args s v u, (limb_1_1.after args s (.returned v) u = true ∧ limb_1_2.after args s (.returned v) u = true ∧ True) → FrameEnd s (.returned v) u (Jvm.fieldLocs frame_1_writes args s ++ Jvm.arrayLocs frame_1_arrays args s ++ Jvm.staticLocs frame_1_statics s) 16 128 → Post tb e args s (.returned v) u) :
    ArmFor flags0 classFile x code maxLocals ret World_1 tables_1 room_1 Calls_1 rest_1 Pre_1 Post := by
  intro l hfl _ _ p e ha hc hk s m args below hf hA hF happ hP
  obtain ⟨hcalls, hrest, hpre⟩ := hP
  obtain ⟨-, -, -, hnamed, -, -, -, hat⟩ := (Spec.applies_iff hf).mp happ
  obtain ⟨hg, hn⟩ := and_e (Cond.before_iff.mp (show (Jvm.Cond.and given_1 narrow_1).before args s = true from hpre))
  obtain ⟨gc, hg0⟩ := and_e hg
  obtain ⟨ga0, hg1⟩ := and_e hg0
  obtain ⟨ga1, hg2⟩ := and_e hg1
  obtain ⟨ga2, hg3⟩ := and_e hg2
  have ga3 := hg3
  obtain ⟨w0, w1, w2, w3, rfl⟩ : ∃ w0 w1 w2 w3 : Value, args = #[w0, w1, w2, w3] := by
    have hs : args.size = 4 := by simpa [Cond.value, given_1] using gc
    obtain ⟨L⟩ := args
    match L, hs with
    | [w0, w1, w2, w3], _ => exact ⟨w0, w1, w2, w3, rfl⟩
  have hw := fun d (hd : d ∈ tables_1) => atoms_spec (ws := Jvm.Cond.code x code maxLocals ret :: tables_1) hat d (List.mem_cons_of_mem _ hd)
  obtain ⟨i0, ei0⟩ := is_v ga0
  obtain rfl : w0 = (.int i0) := Option.some.inj ei0
  obtain ⟨i1, ei1⟩ := is_v ga1
  obtain rfl : w1 = (.int i1) := Option.some.inj ei1
  obtain ⟨i2, ei2⟩ := is_v ga2
  obtain rfl : w2 = (.int i2) := Option.some.inj ei2
  obtain ⟨i3, ei3⟩ := is_v ga3
  obtain rfl : w3 = (.int i3) := Option.some.inj ei3
  obtain ⟨n, o, h1, h2, h3, _, L, rfl, ⟨rfl, N⟩, hq⟩ := rm0 l s _ hw tables_1 i0 i1 i2 i3 s.heap s.heap.size (Nat.le_refl _) p e ha hc hk s m _ below hf ((Spec.applies_iff_loose hf).mp happ).1 ⟨rfl, State.Warmed39.refl s, rfl⟩ trivial
  refine ⟨n, _, h1, h2, h3, hpost _ _ _ _ _ _ ⟨Cond.after_iff.mpr rfl, Cond.after_iff.mpr (eq_i res_at (Term.int_eval (1)) rfl), trivial⟩ ⟨hq.1, hq.2.1, (hq.2.2.sift fun y hy => Or.inr (N y hy)).mono (by decide) (by decide)⟩⟩
theorem main_1_1 : Claimed_1_1 := comes_1 fun _ _ _ _ _ _ h hF => ⟨h.1, hF⟩
theorem main_1_2 : Claimed_1_2 := comes_1 fun _ _ _ _ _ _ h hF => ⟨h.2.1, hF⟩
end Jvm.Pilot.@@N@@
namespace Jvm.Pilot.@@N@@
open Jvm Jvm.ClassFile Sem Op Lib Jvm.Free Jvm.Stand Jvm.Pilot.@@N@@.Jvm.D
/-! MADE BY PROGRAM (witnessworld.py) out of the Statement's table words and the real class files: 10 classes; the members and pool entries that the words name. The judged class is class 1, her method 1. -/
namespace start1
open Jvm.ClassFile
def u (s : String) : CpInfo := .utf8 (stringToUtf16 s)
/-- a pool by its gaps: so many unusable entries, then the entry; so many at the end -/
def gap : Nat → List CpInfo → List CpInfo
  | 0, r => r
  | n + 1, r => .unusable :: gap n r
def poolList (es : List (Nat × CpInfo)) (last : Nat) : List CpInfo := es.foldr (fun e r => gap e.1 (e.2 :: r)) (gap last [])
def pool (es : List (Nat × CpInfo)) (last : Nat) : Array CpInfo := ⟨poolList es last⟩
def fileOf (pool : Array CpInfo) (this : Nat) (attrs : Array Attribute := #[]) (ms : Array MethodInfo := #[]) (fl : Nat := 33) (sup : Nat := 0) (ifs : Array Nat := #[]) (fds : Array FieldInfo := #[]) : ClassFile where
  minorVersion := 0
  majorVersion := 65
  constantPool := pool
  accessFlags := fl
  thisClass := this
  superClass := sup
  interfaces := ifs
  fields := fds
  methods := ms
  attributes := attrs
def plain (name : String) (sup : Option ClassId) : Class where
  name := name
  kind := .ordinary
  loader := none
  accessFlags := 33
  super := sup
  interfaces := #[]
  cf := none
  fields := #[]
  methods := #[]
  instanceTypes := #[]
  staticTypes := #[]
  resolved := #[]
  callSites := []
  init := .initialized
  statics := none
  mirror := none

def pool0 : Array CpInfo := pool [(5, u "<init>"), (0, u "()V"), (1, .class_ 10), (1, u "java/lang/Object")] 113

def k0c0 : Code := { maxStack := 0, maxLocals := 1, code := object_method_1_code, exceptionTable := #[], attributes := #[] }
def k0m0 : Method := { name := "<init>", desc := "()V", sig := { parameters := [], returnType := none }, accessFlags := 1, code := some k0c0 }
/-- java/lang/Object -/
def k0 : Class := { plain "java/lang/Object" none with
  accessFlags := 33
  interfaces := #[]
  cf := some (fileOf pool0 8 #[] #[{ accessFlags := 1, nameIndex := 5, descriptorIndex := 6, attributes := #[] }] 33 0 #[] #[])
  fields := #[]
  methods := #[k0m0]
  instanceTypes := #[]
  staticTypes := #[]
  resolved := Array.replicate 124 none
  statics := none }

def pool1 : Array CpInfo := pool [(2, .class_ 4), (1, u "java/lang/Object"), (0, u "<init>"), (0, u "()V"), (0, .double 4616189618054758400), (1, .class_ 10), (0, u "com/example/gleitfahrt/gleitfahrt/engine/RunningResistance"), (0, .methodref 9 12), (0, .nameAndType 5 13), (0, u "(DDD)V"), (0, .methodref 9 15), (0, .nameAndType 16 17), (0, u "atN"), (0, u "(D)D"), (0, .long 16), (1, .long 4), (1, .double 4625196817309499392), (1, .class_ 25), (0, u "com/example/gleitfahrt/gleitfahrt/engine/RunningResistanceAtNPinLaw"), (2, u "law"), (0, u "(IIII)Z")] 3

def k1m0 : Method := { name := "<init>", desc := "()V", sig := { parameters := [], returnType := none }, accessFlags := 1, code := none }
def k1c1 : Code := { maxStack := 10, maxLocals := 12, code := code, exceptionTable := #[], attributes := #[] }
def k1m1 : Method := { name := "law", desc := "(IIII)Z", sig := { parameters := [.int, .int, .int, .int], returnType := some .boolean }, accessFlags := 9, code := some k1c1 }
/-- com/example/gleitfahrt/gleitfahrt/engine/RunningResistanceAtNPinLaw -/
def k1 : Class := { plain "com/example/gleitfahrt/gleitfahrt/engine/RunningResistanceAtNPinLaw" (some 0) with
  accessFlags := 49
  interfaces := #[]
  cf := some (fileOf pool1 24 #[] #[{ accessFlags := 1, nameIndex := 5, descriptorIndex := 6, attributes := #[] }, { accessFlags := 9, nameIndex := 28, descriptorIndex := 29, attributes := #[] }] 49 2 #[] #[])
  fields := #[]
  methods := #[k1m0, k1m1]
  instanceTypes := #[]
  staticTypes := #[]
  resolved := Array.replicate 33 none
  statics := none }

def pool2 : Array CpInfo := pool [(1, .methodref 2 3), (0, .class_ 4), (0, .nameAndType 5 6), (0, u "java/lang/Object"), (0, u "<init>"), (0, u "()V"), (0, .class_ 8), (0, u "java/lang/Record")] 13

def k2c0 : Code := { maxStack := 1, maxLocals := 1, code := jdk_30_method_1_code, exceptionTable := #[], attributes := #[] }
def k2m0 : Method := { name := "<init>", desc := "()V", sig := { parameters := [], returnType := none }, accessFlags := 4, code := some k2c0 }
/-- java/lang/Record -/
def k2 : Class := { plain "java/lang/Record" (some 0) with
  accessFlags := 1057
  interfaces := #[]
  cf := some (fileOf pool2 7 #[] #[{ accessFlags := 4, nameIndex := 5, descriptorIndex := 6, attributes := #[] }] 1057 2 #[] #[])
  fields := #[]
  methods := #[k2m0]
  instanceTypes := #[]
  staticTypes := #[]
  resolved := Array.replicate 22 none
  statics := none }

def pool3 : Array CpInfo := pool [(1, .methodref 2 3), (0, .class_ 4), (0, .nameAndType 5 6), (0, u "java/lang/Record"), (0, u "<init>"), (0, u "()V"), (0, .fieldref 8 9), (0, .class_ 10), (0, .nameAndType 11 12), (0, u "com/example/gleitfahrt/gleitfahrt/engine/RunningResistance"), (0, u "constantN"), (0, u "D"), (0, .fieldref 8 14), (0, .nameAndType 15 12), (0, u "linearNsPerM"), (0, .fieldref 8 17), (0, .nameAndType 18 12), (0, u "quadraticNs2PerM2"), (14, u "(DDD)V"), (3, u "atN"), (0, u "(D)D")] 27

def k3c0 : Code := { maxStack := 3, maxLocals := 7, code := prog_27_method_1_code, exceptionTable := #[], attributes := #[] }
def k3m0 : Method := { name := "<init>", desc := "(DDD)V", sig := { parameters := [.double, .double, .double], returnType := none }, accessFlags := 1, code := some k3c0 }
def k3c1 : Code := { maxStack := 6, maxLocals := 3, code := prog_27_method_2_code, exceptionTable := #[], attributes := #[] }
def k3m1 : Method := { name := "atN", desc := "(D)D", sig := { parameters := [.double], returnType := some .double }, accessFlags := 1, code := some k3c1 }
/-- com/example/gleitfahrt/gleitfahrt/engine/RunningResistance -/
def k3 : Class := { plain "com/example/gleitfahrt/gleitfahrt/engine/RunningResistance" (some 2) with
  accessFlags := 49
  interfaces := #[]
  cf := some (fileOf pool3 8 #[] #[{ accessFlags := 1, nameIndex := 5, descriptorIndex := 33, attributes := #[] }, { accessFlags := 1, nameIndex := 37, descriptorIndex := 38, attributes := #[] }] 49 2 #[] #[{ accessFlags := 18, nameIndex := 11, descriptorIndex := 12, attributes := #[] }, { accessFlags := 18, nameIndex := 15, descriptorIndex := 12, attributes := #[] }, { accessFlags := 18, nameIndex := 18, descriptorIndex := 12, attributes := #[] }])
  fields := #[{ name := "constantN", type := .double, accessFlags := 18, slot := 0, constantValue := 0 }, { name := "linearNsPerM", type := .double, accessFlags := 18, slot := 1, constantValue := 0 }, { name := "quadraticNs2PerM2", type := .double, accessFlags := 18, slot := 2, constantValue := 0 }]
  methods := #[k3m0, k3m1]
  instanceTypes := #[.double, .double, .double]
  staticTypes := #[]
  resolved := Array.replicate 66 none
  statics := none }

def pool4 : Array CpInfo := pool [(1, u "java/lang/Cloneable"), (0, .class_ 1), (0, u "java/lang/Object"), (0, .class_ 3)] 3

/-- java/lang/Cloneable -/
def k4 : Class := { plain "java/lang/Cloneable" (some 0) with
  accessFlags := 1537
  interfaces := #[]
  cf := some (fileOf pool4 2 #[] #[] 1537 4 #[] #[])
  fields := #[]
  methods := #[]
  instanceTypes := #[]
  staticTypes := #[]
  resolved := Array.replicate 8 none
  statics := none }

def pool5 : Array CpInfo := pool [(1, u "java/io/Serializable"), (0, .class_ 1), (0, u "java/lang/Object"), (0, .class_ 3)] 3

/-- java/io/Serializable -/
def k5 : Class := { plain "java/io/Serializable" (some 0) with
  accessFlags := 1537
  interfaces := #[]
  cf := some (fileOf pool5 2 #[] #[] 1537 4 #[] #[])
  fields := #[]
  methods := #[]
  instanceTypes := #[]
  staticTypes := #[]
  resolved := Array.replicate 8 none
  statics := none }

/-- the primitive byte -/
def k6 : Class := { plain "byte" none with kind := .primitive 'B', accessFlags := 0x411 }
/-- [B -/
def k7 : Class := { plain "[B" (some 0) with kind := .array 6 .byte, interfaces := #[4, 5], accessFlags := 1041 }

/-- the primitive int -/
def k8 : Class := { plain "int" none with kind := .primitive 'I', accessFlags := 0x411 }
/-- [I -/
def k9 : Class := { plain "[I" (some 0) with kind := .array 8 .int, interfaces := #[4, 5], accessFlags := 1041 }

def heap : Heap := #[]
def classes : Array Class := #[k0, k1, k2, k3, k4, k5, k6, k7, k8, k9]
def interned : List (Array UInt16 × Addr) := []
def slotsUsed : Nat := 0
def theMethod : MethodId := ⟨1, 1⟩
def args0 : Array Value := #[.int 3, .int 8, .int 5, .int 7]
def aboutOver (below : List Frame) : State where
  vm := { classes := classes, interned := interned.toArray }
  heap := heap
  slotsUsed := slotsUsed
  threads := #[{ frames := .invoking theMethod args0 :: below }]
def below0 : List Frame := [.native { method := ⟨0, 0⟩, args := #[] }]
def about1 : State := aboutOver below0
def p0 : Program := .bare "" "" ""
def e0 : Env := launch0.env 0 0 0
theorem w_frames : about1.frames = Frame.invoking theMethod args0 :: below0 := rfl
set_option maxRecDepth 65536 in
theorem w_args : argsFit about1.vm theMethod args0 = true := by decide +kernel
set_option maxRecDepth 65536 in
theorem w_heap : heapFits about1 = true := by decide +kernel
set_option maxRecDepth 65536 in
theorem w_runnable : about1.curStatus? = some .runnable := by decide +kernel
set_option maxRecDepth 65536 in
theorem w_alone : about1.alone = true := by decide +kernel
set_option maxRecDepth 65536 in
theorem w_named : about1.methodNamed? x = some theMethod := by decide +kernel
set_option maxRecDepth 65536 in
theorem w_hears : about1.hears theMethod below0 = true := by decide +kernel
set_option maxRecDepth 65536 in
theorem w_ripe : about1.ripe theMethod args0 below0 = true := by decide +kernel
theorem w_running : about1.status = .running := rfl
set_option maxRecDepth 65536 in
theorem w_room : about1.hasRoom e0.platform room_1 = true :=
  launch0.hasRoom_least _ room_1 (by decide +kernel) (by decide +kernel) (by decide +kernel) (by decide +kernel) (by decide +kernel) (by decide +kernel)
theorem allAtoms_all (ts : List Jvm.Cond) (a : Array Jvm.Value) (st : Jvm.State) : (allAtoms ts).before a st = ts.all (fun c => c.before a st) := by
  induction ts with
  | nil => rfl
  | cons c t ih =>
    show (Jvm.Cond.and c (allAtoms t)).before a st = _
    rw [Jvm.Cond.before_and, ih, List.all_cons]
def words1 : List Jvm.Cond := Jvm.Cond.code x code maxLocals ret :: tables_1
/-- a 'code' word, met by the world's own term for the bytes: nothing is compared byte by byte -/
theorem code_word {y : MethodName} {bytes : ByteArray} {mx : Nat} {rt : Option FieldType} {a : Array Value} {s : State} {m : MethodId} {meth : Method} {c : Code} (h1 : s.methodNamed? y = some m) (h2 : s.vm.method? m = some meth) (h3 : meth.code = some c) (h4 : c.code = bytes)
    (h5 : (c.maxLocals == mx && c.exceptionTable.isEmpty && decide (c.maxStack ≤ mostOperands) && decide (meth.sig.returnType = rt) && !meth.locks && decide (parseMethodDescriptor y.desc = some meth.sig)) = true) : (Jvm.Cond.code y bytes mx rt).before a s = true := by
  simp only [Bool.and_eq_true, beq_iff_eq, Bool.not_eq_true', decide_eq_true_eq] at h5
  obtain ⟨⟨⟨⟨⟨g1, g2⟩, g3⟩, g4⟩, g5⟩, g6⟩ := h5
  simp [Cond.before, Cond.holds, Cond.value, h1, h2, h3, h4, g1, g2, g3, g4, g5, g6]
def isCode : Jvm.Cond → Bool
  | .code _ _ _ _ => true
  | _ => false
theorem all_split {L : List Jvm.Cond} {P : Jvm.Cond → Bool} (h1 : L.all (fun c => isCode c || P c) = true) (h2 : ∀ c ∈ L.filter isCode, P c = true) : L.all P = true := by
  refine List.all_eq_true.mpr fun c hc => ?_
  have h := List.all_eq_true.mp h1 c hc
  rcases Bool.eq_false_or_eq_true (isCode c) with hi | hi
  · exact h2 c (List.mem_filter.mpr ⟨hc, hi⟩)
  · simpa [hi] using h
set_option maxRecDepth 65536 in
theorem w_c0 : (Jvm.Cond.code x code maxLocals ret).before args0 about1 = true := code_word (m := ⟨1, 1⟩) (meth := k1m1) (c := k1c1) (by decide +kernel) rfl rfl rfl (by decide +kernel)
set_option maxRecDepth 65536 in
theorem w_c1 : (Jvm.Cond.code ({ cls := "com/example/gleitfahrt/gleitfahrt/engine/RunningResistance", name := "<init>", desc := "(DDD)V" } : Jvm.MethodName) prog_27_method_1_code (7 : Nat) (Option.none : Option Jvm.ClassFile.FieldType)).before args0 about1 = true := code_word (m := ⟨3, 0⟩) (meth := k3m0) (c := k3c0) (by decide +kernel) rfl rfl rfl (by decide +kernel)
set_option maxRecDepth 65536 in
theorem w_c2 : (Jvm.Cond.code ({ cls := "java/lang/Record", name := "<init>", desc := "()V" } : Jvm.MethodName) jdk_30_method_1_code (1 : Nat) (Option.none : Option Jvm.ClassFile.FieldType)).before args0 about1 = true := code_word (m := ⟨2, 0⟩) (meth := k2m0) (c := k2c0) (by decide +kernel) rfl rfl rfl (by decide +kernel)
set_option maxRecDepth 65536 in
theorem w_c3 : (Jvm.Cond.code ({ cls := "java/lang/Object", name := "<init>", desc := "()V" } : Jvm.MethodName) object_method_1_code (1 : Nat) (Option.none : Option Jvm.ClassFile.FieldType)).before args0 about1 = true := code_word (m := ⟨0, 0⟩) (meth := k0m0) (c := k0c0) (by decide +kernel) rfl rfl rfl (by decide +kernel)
set_option maxRecDepth 65536 in
theorem w_c4 : (Jvm.Cond.code ({ cls := "com/example/gleitfahrt/gleitfahrt/engine/RunningResistance", name := "atN", desc := "(D)D" } : Jvm.MethodName) prog_27_method_2_code (3 : Nat) (Option.some Jvm.ClassFile.FieldType.double)).before args0 about1 = true := code_word (m := ⟨3, 1⟩) (meth := k3m1) (c := k3c1) (by decide +kernel) rfl rfl rfl (by decide +kernel)
def codes1 : List Jvm.Cond := [Jvm.Cond.code x code maxLocals ret, Jvm.Cond.code ({ cls := "com/example/gleitfahrt/gleitfahrt/engine/RunningResistance", name := "<init>", desc := "(DDD)V" } : Jvm.MethodName) prog_27_method_1_code (7 : Nat) (Option.none : Option Jvm.ClassFile.FieldType), Jvm.Cond.code ({ cls := "java/lang/Record", name := "<init>", desc := "()V" } : Jvm.MethodName) jdk_30_method_1_code (1 : Nat) (Option.none : Option Jvm.ClassFile.FieldType), Jvm.Cond.code ({ cls := "java/lang/Object", name := "<init>", desc := "()V" } : Jvm.MethodName) object_method_1_code (1 : Nat) (Option.none : Option Jvm.ClassFile.FieldType), Jvm.Cond.code ({ cls := "com/example/gleitfahrt/gleitfahrt/engine/RunningResistance", name := "atN", desc := "(D)D" } : Jvm.MethodName) prog_27_method_2_code (3 : Nat) (Option.some Jvm.ClassFile.FieldType.double)]
set_option maxRecDepth 65536 in
theorem codes_eq : words1.filter isCode = codes1 := rfl
theorem w_codes : ∀ c ∈ words1.filter isCode, c.before args0 about1 = true := by
  rw [codes_eq]
  intro c hc
  simp only [codes1, List.mem_cons, List.not_mem_nil, or_false] at hc
  rcases hc with rfl | rfl | rfl | rfl | rfl
  · exact w_c0
  · exact w_c1
  · exact w_c2
  · exact w_c3
  · exact w_c4
set_option maxRecDepth 65536 in
theorem w_t1 : (words1.take 24).all (fun c => isCode c || c.before args0 about1) = true := by decide +kernel
set_option maxRecDepth 65536 in
theorem w_t2 : (words1.drop 24).all (fun c => isCode c || c.before args0 about1) = true := by decide +kernel
theorem w_tables : (allAtoms (Jvm.Cond.code x code maxLocals ret :: tables_1)).before args0 about1 = true := by
  rw [allAtoms_all]
  show words1.all (fun c => c.before args0 about1) = true
  refine all_split ?_ w_codes
  rw [← List.take_append_drop 24 words1, List.all_append, w_t1, w_t2]
  rfl
set_option maxRecDepth 65536 in
theorem w_case : (Jvm.Cond.and given_1 narrow_1).before args0 about1 = true := by decide +kernel
theorem w_applies : (headSpec (Jvm.Cond.code x code maxLocals ret :: tables_1) room_1).applies x e0.platform about1 = true :=
  (Spec.applies_iff w_frames).mpr ⟨w_running, w_runnable, w_alone, w_named, w_hears, w_ripe, w_room, w_tables⟩
theorem atStart : AtStart classFile x code maxLocals ret World_1 tables_1 room_1 Calls_1 rest_1 Pre_1 launch0 p0 e0 about1 theMethod args0 below0 :=
  ⟨lists_1, trivial, launch0.admits_env _ _ _, launch0.least_env, fairChoices_fair.cas, fairChoices_fair.clock, w_frames, w_args, w_heap, w_applies, trivial, trivial, w_case⟩
end start1
theorem witness_1 : WitnessClaimed_1 := ⟨start1.p0, start1.e0, start1.about1, start1.theMethod, start1.args0, start1.below0, start1.atStart⟩
end Jvm.Pilot.@@N@@
