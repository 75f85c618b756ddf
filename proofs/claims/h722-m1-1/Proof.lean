import JvmDerived
import JvmDerived.Pilot.@@N@@Statement
import JvmDerived.Pilot.@@N@@Code
set_option linter.unusedVariables false
set_option linter.unusedSimpArgs false
namespace Jvm.Pilot.@@N@@.Own
open Jvm Jvm.ClassFile Sem Op Lib Jvm.Free Jvm.Stand Jvm.LawKit Jvm.RoadKit
/-- from S the run comes to an end of which P holds -/
def Go (tb : Tables) (e : Env) (below : List Frame) (P : State → Outcome → Prop) (S : State) : Prop :=
  ∃ s₂ o, Steps tb e below S s₂ ∧ s₂.status = .running ∧ Ended s₂ below o ∧ P s₂ o
theorem Go.step {tb : Tables} {e : Env} {below : List Frame} {P : State → Outcome → Prop} {S S' : State}
    (h : ∀ t, Steps tb e below S' t → Steps tb e below S t) (g : Go tb e below P S') : Go tb e below P S := by
  obtain ⟨t, o, h1, h2⟩ := g; exact ⟨t, o, h t h1, h2⟩
theorem Go.tr {tb : Tables} {e : Env} {below : List Frame} {P : State → Outcome → Prop} {S S' : State}
    (h : Steps tb e below S S') (g : Go tb e below P S') : Go tb e below P S := by
  obtain ⟨t, o, h1, h2⟩ := g; exact ⟨t, o, h.trans h1, h2⟩
theorem Go.start {tb : Tables} {e : Env} {below : List Frame} {P₀ : State → Outcome → Prop} {S S' : State} (q : S = S')
    (h : ∀ P : State → Outcome → Prop, (∀ s₂ o, P₀ s₂ o → P s₂ o) → Go tb e below P S') : Go tb e below P₀ S := by
  subst q; exact h P₀ fun _ _ h => h
/-- a value gets a name -/
theorem nm {α : Type} (F : α → Prop) (x : α) (H : ∀ z, z = x → F z) : F x := H x rfl
section Ends
variable {p : Program} {l : Launch} {e : Env} {R : Room} {s : State} {m : MethodId} {args : Array Value} {below : List Frame} {meth : Method} {c : Code} {T : State} {locs : List Loc} {cells slots : Nat}
theorem retGo (X : Stand p l e R s m args below meth c T locs cells slots) (hx : p.tables.exec = Jvm.exec) {P : State → Outcome → Prop} {Q : Option Value → Heap → List Loc → Prop} {kc ks : Nat}
    (hP : ∀ s₂ o, (∃ v L, o = .returned v ∧ Q v s₂.heap L ∧ FrameEnd s o s₂ L kc ks) → P s₂ o) {pc : Nat} {Ls : Array Slot} {w : Value} {t : FieldType} {i : Instr} {rest : List Value} (hret : meth.sig.returnType = some t) (hlk : meth.locks = false) (hn : narrow t w = w)
    (hi : (i = .ireturn ∧ (t = .int ∨ t = .boolean ∨ t = .byte ∨ t = .char ∨ t = .short) ∧ ∃ z, w = .int z) ∨ (i = .lreturn ∧ t = .long ∧ ∃ z, w = .long z) ∨ (i = .dreturn ∧ t = .double ∧ ∃ z, w = .double z) ∨ (i = .freturn ∧ t = .float ∧ ∃ z, w = .float z) ∨ (i = .areturn ∧ t.isReference = true ∧ w.isRef = true))
    (hd : decode c.code pc = .ok (i, 1)) (hc : cells ≤ kc) (hs : slots ≤ ks) (hQ : Q (some w) T.heap locs) : Go p.tables e below P (T.setTop (mkF m pc Ls (w :: rest))) := by
  obtain ⟨fs, hr, hrun, hended, hW, hsame⟩ := X.leave (v := some w) (fun h => by rw [hret] at h; cases h) hlk
  exact ⟨_, _, retOut X hx hret hn hi hd hr, hrun, hended, hP _ _ ⟨_, _, rfl, hQ, ⟨_, rfl⟩, hW, hsame.mono hc hs⟩⟩
theorem voidGo (X : Stand p l e R s m args below meth c T locs cells slots) (hx : p.tables.exec = Jvm.exec) {P : State → Outcome → Prop} {Q : Option Value → Heap → List Loc → Prop} {kc ks : Nat}
    (hP : ∀ s₂ o, (∃ v L, o = .returned v ∧ Q v s₂.heap L ∧ FrameEnd s o s₂ L kc ks) → P s₂ o) {pc : Nat} {Ls : Array Slot} (hret : meth.sig.returnType = none) (hlk : meth.locks = false)
    (hd : decode c.code pc = .ok (.return_, 1)) (hc : cells ≤ kc) (hs : slots ≤ ks) (hQ : Q none T.heap locs) : Go p.tables e below P (T.setTop (mkF m pc Ls [])) := by
  obtain ⟨fs, hr, hrun, hended, hW, hsame⟩ := X.leave (v := none) (fun _ => rfl) hlk
  exact ⟨_, _, X.returnOut hx hret hd hr, hrun, hended, hP _ _ ⟨_, _, rfl, hQ, ⟨_, rfl⟩, hW, hsame.mono hc hs⟩⟩
end Ends
/-! branches: what is compared, as whole numbers -/
def rel : ClassFile.Cond → Int → Int → Prop
  | .eq, a, b => a = b
  | .ne, a, b => ¬ a = b
  | .lt, a, b => a < b
  | .ge, a, b => b ≤ a
  | .gt, a, b => b < a
  | .le, a, b => a ≤ b
theorem icY {cd : ClassFile.Cond} {x y : Int32} (h : rel cd x.toInt y.toInt) : if_icmp.holds cd x y = true := by
  cases cd <;> simp only [rel] at h <;> simp [if_icmp.holds, Int32.lt_iff_toInt_lt, Int32.le_iff_toInt_le, ← Int32.toInt_inj] <;> omega
theorem icN {cd : ClassFile.Cond} {x y : Int32} (h : ¬ rel cd x.toInt y.toInt) : if_icmp.holds cd x y = false := by
  cases cd <;> simp only [rel] at h <;> simp [if_icmp.holds, Int32.lt_iff_toInt_lt, Int32.le_iff_toInt_le, ← Int32.toInt_inj] <;> omega
theorem ifY {cd : ClassFile.Cond} {x : Int32} (h : rel cd x.toInt 0) : ifCond.holds cd x = true := (if0 cd x).trans (icY h)
theorem ifN {cd : ClassFile.Cond} {x : Int32} (h : ¬ rel cd x.toInt 0) : ifCond.holds cd x = false := (if0 cd x).trans (icN h)
theorem lcmp_rel {cd : ClassFile.Cond} {x y : Int64} : rel cd (lcmpW x y).toInt 0 ↔ rel cd x.toInt y.toInt := by
  have h1 : x < y ↔ x.toInt < y.toInt := Int64.lt_iff_toInt_lt
  have h2 : y < x ↔ y.toInt < x.toInt := Int64.lt_iff_toInt_lt
  have h3 : x = y ↔ x.toInt = y.toInt := Int64.toInt_inj.symm
  have e1 : (1 : Int32).toInt = 1 := rfl
  have e2 : (-1 : Int32).toInt = -1 := rfl
  have e3 : (0 : Int32).toInt = 0 := rfl
  unfold lcmpW
  by_cases c1 : x > y
  · rw [if_pos c1, e1]; have := h2.mp c1; cases cd <;> simp only [rel] <;> omega
  · rw [if_neg c1]
    have n1 : ¬ y.toInt < x.toInt := fun q => c1 (h2.mpr q)
    by_cases c2 : x = y
    · rw [if_pos c2, e3]; have q := h3.mp c2; cases cd <;> simp only [rel] <;> first | omega | simp [q]
    · rw [if_neg c2, e2]
      have n2 : ¬ x.toInt = y.toInt := fun q => c2 (h3.mpr q)
      cases cd <;> simp only [rel] <;> omega
theorem lcY {cd : ClassFile.Cond} {x y : Int64} (h : rel cd x.toInt y.toInt) : ifCond.holds cd (lcmpW x y) = true := ifY (lcmp_rel.mpr h)
theorem lcN {cd : ClassFile.Cond} {x y : Int64} (h : ¬ rel cd x.toInt y.toInt) : ifCond.holds cd (lcmpW x y) = false := ifN fun q => h (lcmp_rel.mp q)
theorem cmpV_rel {cd : ClassFile.Cond} {op : CmpOp} {i j : Int} : rel cd (cmpValue (some (compare i j)) op).toInt 0 ↔ rel cd i j := by
  have e1 : (1 : Int32).toInt = 1 := rfl
  have e2 : (-1 : Int32).toInt = -1 := rfl
  have e3 : (0 : Int32).toInt = 0 := rfl
  cases h : compare i j with
  | lt => have := (FP.Core.compare_lt_iff i j).mp h; show rel cd (-1 : Int32).toInt 0 ↔ _; rw [e2]; cases cd <;> simp only [rel] <;> omega
  | eq => have := (FP.Core.compare_eq_iff i j).mp h; show rel cd (0 : Int32).toInt 0 ↔ _; rw [e3]; cases cd <;> simp only [rel] <;> first | omega | simp [this]
  | gt => have := (FP.Core.compare_gt_iff i j).mp h; show rel cd (1 : Int32).toInt 0 ↔ _; rw [e1]; cases cd <;> simp only [rel] <;> omega
theorem dcY {cd : ClassFile.Cond} {op : CmpOp} {r : Option Ordering} {i j : Int} (q : r = some (compare i j)) (h : rel cd i j) : ifCond.holds cd (cmpValue r op) = true := by subst q; exact ifY (cmpV_rel.mpr h)
theorem dcN {cd : ClassFile.Cond} {op : CmpOp} {r : Option Ordering} {i j : Int} (q : r = some (compare i j)) (h : ¬ rel cd i j) : ifCond.holds cd (cmpValue r op) = false := by subst q; exact ifN fun z => h (cmpV_rel.mp z)
end Jvm.Pilot.@@N@@.Own
namespace Jvm.Pilot.@@N@@.Own
open Jvm Jvm.FP Jvm.FP.Core
/-! ## doubles as whole numbers of 2^-1074: what rounding leaves -/
/-- a double's value in units of 2^-1074 -/
def zv (a : UInt64) : Int := zval b64 (val64 a)
/-- a is finite and lies between lo * 2^k and hi * 2^k units -/
def DB (k : Nat) (lo hi : Int) (a : UInt64) : Prop := DFin a ∧ lo * ((2 ^ k : Nat) : Int) ≤ zv a ∧ zv a ≤ hi * ((2 ^ k : Nat) : Int)
/-- a is finite and is i * 2^k units -/
abbrev DE (k : Nat) (i : Int) (a : UInt64) : Prop := DB k i i a
theorem DE.eq {k : Nat} {i : Int} {a : UInt64} (h : DE k i a) : zv a = i * ((2 ^ k : Nat) : Int) := Int.le_antisymm h.2.2 h.2.1
theorem DE.of {k : Nat} {i : Int} {a : UInt64} (hf : DFin a) (h : zv a = i * ((2 ^ k : Nat) : Int)) : DE k i a := ⟨hf, Int.le_of_eq h.symm, Int.le_of_eq h⟩
theorem tn32 {q : Int32} (h0 : 0 ≤ q.toInt) : (q.toBitVec.toNat : Int) = q.toInt := by
  have l := q.toBitVec.isLt
  have e : q.toInt = q.toBitVec.toInt := rfl
  rw [e] at h0 ⊢
  rw [BitVec.toInt_eq_toNat_cond] at h0 ⊢
  split at h0 <;> split <;> omega
theorem nmul {a b : Int} {A B : Nat} (ha : a.natAbs ≤ A) (hb : b.natAbs ≤ B) : (a * b).natAbs ≤ A * B := by rw [Int.natAbs_mul]; exact Nat.mul_le_mul ha hb
theorem le_mul1 {a b : Int} (ha : 0 ≤ a) (hb : 1 ≤ b) : a ≤ a * b := by have := Int.mul_le_mul_of_nonneg_left hb ha; rwa [Int.mul_one] at this
theorem pw_pos (k : Nat) : (0 : Int) < ((2 ^ k : Nat) : Int) := Int.natCast_pos.mpr (Nat.two_pow_pos k)
theorem DB.nn {k : Nat} {lo hi : Int} {a : UInt64} (h : DB k lo hi a) : Jvm.Free.Fl.NoNaN64 a := Jvm.Free.Fl.noNaN64_no.mpr h.1.notNaN
theorem DB.ne {k : Nat} {lo hi : Int} {a : UInt64} (h : DB k lo hi a) : val64 a ≠ .nan := h.1.ne_nan
/-- a number of 53 digits is a double -/
theorem rep {n : Int} {k : Nat} (hn : n.natAbs ≤ 2 ^ 53) (hk : k ≤ 2044) : ∃ s c q, FP.Core.fits b64 (.fin s c q) ∧ zval b64 (.fin s c q) = n * ((2 ^ k : Nat) : Int) := by
  have key : ∀ (n : Int) (k : Nat), n.natAbs < 2 ^ 53 → k ≤ 2045 → ∃ s c q, FP.Core.fits b64 (.fin s c q) ∧ zval b64 (.fin s c q) = n * ((2 ^ k : Nat) : Int) := by
    intro n k hn hk
    have q1 : b64.qmin = -1074 := by decide
    have q2 : b64.qmax = 971 := by decide
    obtain ⟨c', q', h1, h2⟩ := round_exact good_b64 (decide (n < 0)) (c := n.natAbs) (q := b64.qmin + (k : Int)) (show n.natAbs < 2 ^ b64.p from hn) (by omega) (by omega)
    refine ⟨_, c', q', h1 ▸ round_fits good_b64 _, ?_⟩
    show signed (decide (n < 0)) (inUnits c' q' b64.qmin) = _
    rw [h2]
    unfold inUnits
    rw [signed_mul, show (b64.qmin + (k : Int) - b64.qmin).toNat = k by omega]
    congr 1
    unfold signed
    by_cases h : n < 0 <;> simp [h] <;> omega
  by_cases h : n.natAbs < 2 ^ 53
  · exact key n k h (by omega)
  · have e : n.natAbs = 2 ^ 53 := by omega
    have : ∃ m : Int, n = m * 2 ∧ m.natAbs < 2 ^ 53 := by
      rcases Int.natAbs_eq n with q | q
      · exact ⟨2 ^ 52, by rw [q, e]; decide, by decide⟩
      · exact ⟨-2 ^ 52, by rw [q, e]; decide, by decide⟩
    obtain ⟨m, rfl, hm⟩ := this
    obtain ⟨s, c, q, h1, h2⟩ := key m (k + 1) hm (by omega)
    refine ⟨s, c, q, h1, ?_⟩
    rw [h2, Nat.pow_succ, Int.natCast_mul, Int.mul_assoc]
    congr 1
    rw [Int.mul_comm]; rfl
/-- a number between two finite ones is finite -/
theorem fin_between {a : UInt64} {lo hi : Int} {k : Nat} (hl : lo.natAbs ≤ 2 ^ 53) (hh : hi.natAbs ≤ 2 ^ 53) (hk : k ≤ 2044) (hn : val64 a ≠ .nan) (h1 : lo * ((2 ^ k : Nat) : Int) ≤ zv a) (h2 : zv a ≤ hi * ((2 ^ k : Nat) : Int)) : DB k lo hi a := by
  refine ⟨?_, h1, h2⟩
  obtain ⟨s1, c1, q1, f1, e1⟩ := rep hl hk
  obtain ⟨s2, c2, q2, f2, e2⟩ := rep hh hk
  have t1 : zmag b64 (.fin s1 c1 q1) < b64.tails * 2 ^ (b64.exps - 2) := zmag_lt_top good_b64 f1
  have t2 : zmag b64 (.fin s2 c2 q2) < b64.tails * 2 ^ (b64.exps - 2) := zmag_lt_top good_b64 f2
  rw [← e1] at h1
  rw [← e2] at h2
  unfold zv at h1 h2
  cases hv : val64 a with
  | nan => exact absurd hv hn
  | fin s c q => exact ⟨s, c, q, hv⟩
  | inf s =>
    exfalso
    rw [hv] at h1 h2
    have z : zmag b64 (.inf s) = b64.tails * 2 ^ (b64.exps - 2) := rfl
    unfold zval at h1 h2
    rw [z] at h1 h2
    generalize b64.tails * 2 ^ (b64.exps - 2) = top at *
    generalize zmag b64 (.fin s1 c1 q1) = m1 at *
    generalize zmag b64 (.fin s2 c2 q2) = m2 at *
    simp only [sgn] at h1 h2
    cases s <;> cases s1 <;> cases s2 <;> simp only [signed, if_true, Bool.false_eq_true, if_false] at h1 h2 <;> omega
theorem qmin_sub : ((2 ^ (b64.qmin - b64.qmin).toNat : Nat) : Int) = 1 := by rw [Int.sub_self]; rfl
/-- what lies between two numbers of 53 digits is rounded to something between them -/
theorem round_between {s : Bool} {c : Nat} {q : Int} {lo hi : Int} {k : Nat} {a : UInt64} (ha : val64 a = round b64 (.fin s c q)) (hl : lo.natAbs ≤ 2 ^ 53) (hh : hi.natAbs ≤ 2 ^ 53) (hk : k ≤ 2044) {e0 : Int} (h0 : e0 ≤ b64.qmin) (h0e : e0 ≤ q)
    (h1 : lo * ((2 ^ k : Nat) : Int) * ((2 ^ (b64.qmin - e0).toNat : Nat) : Int) ≤ signed s (inUnits c q e0)) (h2 : signed s (inUnits c q e0) ≤ hi * ((2 ^ k : Nat) : Int) * ((2 ^ (b64.qmin - e0).toNat : Nat) : Int)) : DB k lo hi a := by
  obtain ⟨s1, c1, q1, f1, e1⟩ := rep hl hk
  obtain ⟨s2, c2, q2, f2, e2⟩ := rep hh hk
  have hn : val64 a ≠ .nan := by rw [ha]; exact roundRatio_ne_nan _ _ _ _ _
  refine fin_between hl hh hk hn ?_ ?_
  · unfold zv; rw [ha, ← e1]; exact zval_round_ge good_b64 f1 (by simp) h0 h0e (by rw [e1]; exact h1)
  · unfold zv; rw [ha, ← e2]; exact zval_round_le good_b64 f2 (by simp) h0 h0e (by rw [e2]; exact h2)
theorem add_b {a b : UInt64} {k : Nat} {l1 h1 l2 h2 lo hi : Int} (ha : DB k l1 h1 a) (hb : DB k l2 h2 b) (hlo : lo ≤ l1 + l2) (hhi : h1 + h2 ≤ hi) (hl : lo.natAbs ≤ 2 ^ 53) (hh : hi.natAbs ≤ 2 ^ 53) (hk : k ≤ 2044) : DB k lo hi (FP.dadd a b) := by
  obtain ⟨⟨s, c, q, va⟩, a1, a2⟩ := ha
  obtain ⟨⟨t, d, r, vb⟩, b1, b2⟩ := hb
  have hv := val64_dadd a b
  have fa := val64_fits a
  have fb := val64_fits b
  unfold zv at a1 a2 b1 b2
  rw [va] at hv fa a1 a2
  rw [vb] at hv fb b1 b2
  obtain ⟨sg, n, e, h3, h4, h5⟩ := sum_units fa fb
  rw [h3] at hv
  have hp := pw_pos k
  refine round_between hv hl hh hk (e0 := b64.qmin) (Int.le_refl _) h4 ?_ ?_
  · rw [h5, qmin_sub, Int.mul_one]
    have := Int.mul_le_mul_of_nonneg_right hlo (Int.le_of_lt hp)
    rw [Int.add_mul] at this
    omega
  · rw [h5, qmin_sub, Int.mul_one]
    have := Int.mul_le_mul_of_nonneg_right hhi (Int.le_of_lt hp)
    rw [Int.add_mul] at this
    omega
theorem zv_dneg {a : UInt64} : zv (FP.dneg a) = -zv a := by unfold zv; rw [FP.val64_dneg, zval_negate]
theorem neg_b {a : UInt64} {k : Nat} {lo hi : Int} (ha : DB k lo hi a) : DB k (-hi) (-lo) (FP.dneg a) := by
  refine ⟨?_, ?_, ?_⟩
  · obtain ⟨s, c, q, va⟩ := ha.1
    exact ⟨!s, c, q, by rw [FP.val64_dneg, va]; rfl⟩
  · rw [zv_dneg, Int.neg_mul]; have := ha.2.2; omega
  · rw [zv_dneg, Int.neg_mul]; have := ha.2.1; omega
theorem sub_b {a b : UInt64} {k : Nat} {l1 h1 l2 h2 lo hi : Int} (ha : DB k l1 h1 a) (hb : DB k l2 h2 b) (hlo : lo ≤ l1 - h2) (hhi : h1 - l2 ≤ hi) (hl : lo.natAbs ≤ 2 ^ 53) (hh : hi.natAbs ≤ 2 ^ 53) (hk : k ≤ 2044) : DB k lo hi (FP.dsub a b) := by
  have e : FP.dsub a b = FP.dadd a (FP.dneg b) := by
    rw [FP.dneg_core hb.1.notNaN]; exact dsub_eq a b
  rw [e]
  exact add_b ha (neg_b hb) (by omega) (by omega) hl hh hk
theorem pw_1074 : ((2 ^ (b64.qmin - 2 * b64.qmin).toNat : Nat) : Int) = ((2 ^ 1074 : Nat) : Int) := by
  rw [show (b64.qmin - 2 * b64.qmin).toNat = 1074 by decide]
/-- the exact product of the two lies between -/
theorem mul_z {a b : UInt64} {k : Nat} {lo hi : Int} (fa : DFin a) (fb : DFin b) (h1 : lo * ((2 ^ k : Nat) : Int) * ((2 ^ 1074 : Nat) : Int) ≤ zv a * zv b) (h2 : zv a * zv b ≤ hi * ((2 ^ k : Nat) : Int) * ((2 ^ 1074 : Nat) : Int)) (hl : lo.natAbs ≤ 2 ^ 53) (hh : hi.natAbs ≤ 2 ^ 53) (hk : k ≤ 2044) : DB k lo hi (FP.dmul a b) := by
  obtain ⟨s, c, q, va⟩ := fa
  obtain ⟨t, d, r, vb⟩ := fb
  have hv := val64_dmul a b
  have fa := val64_fits a
  have fb := val64_fits b
  unfold zv at h1 h2
  rw [va] at hv fa h1 h2
  rw [vb] at hv fb h1 h2
  obtain ⟨g1, g2, g3⟩ := product_units fa fb
  rw [g1] at hv
  have e : signed (s != t) (inUnits (c * d) (q + r) (2 * b64.qmin)) = zval b64 (.fin s c q) * zval b64 (.fin t d r) := by
    rw [g3, signed_xor]; rfl
  refine round_between hv hl hh hk (e0 := 2 * b64.qmin) (by decide) g2 ?_ ?_
  · rw [e, pw_1074]; exact h1
  · rw [e, pw_1074]; exact h2
theorem pw_add (a b : Nat) : ((2 ^ (a + b) : Nat) : Int) = ((2 ^ a : Nat) : Int) * ((2 ^ b : Nat) : Int) := by rw [Nat.pow_add, Int.natCast_mul]
theorem mul_e {a b : UInt64} {k k1 k2 : Nat} {i j n : Int} (ha : DE k1 i a) (hb : DE k2 j b) (hk : k1 + k2 = k + 1074) (hn : i * j = n) (hh : n.natAbs ≤ 2 ^ 53) (hk' : k ≤ 2044) : DE k n (FP.dmul a b) := by
  have e : zv a * zv b = n * ((2 ^ k : Nat) : Int) * ((2 ^ 1074 : Nat) : Int) := by
    rw [ha.eq, hb.eq, ← hn, Int.mul_assoc (i * j), ← pw_add, ← hk, pw_add]
    simp only [Int.mul_assoc, Int.mul_left_comm]
  exact mul_z ha.1 hb.1 (Int.le_of_eq e.symm) (Int.le_of_eq e) hh hh hk'
/-- a bounded one times a known one that isn't negative -/
theorem mul_b {a b : UInt64} {k k1 k2 : Nat} {l1 h1 j lo hi : Int} (ha : DB k1 l1 h1 a) (hb : DE k2 j b) (hj : 0 ≤ j) (hk : k1 + k2 = k + 1074) (hlo : lo ≤ l1 * j) (hhi : h1 * j ≤ hi) (hl : lo.natAbs ≤ 2 ^ 53) (hh : hi.natAbs ≤ 2 ^ 53) (hk' : k ≤ 2044) : DB k lo hi (FP.dmul a b) := by
  have p1 := pw_pos k1
  have p2 := pw_pos k2
  have hz : 0 ≤ zv b := by rw [hb.eq]; exact Int.mul_nonneg hj (Int.le_of_lt p2)
  have e : ∀ x : Int, x * j * ((2 ^ k : Nat) : Int) * ((2 ^ 1074 : Nat) : Int) = x * ((2 ^ k1 : Nat) : Int) * zv b := fun x => by
    rw [hb.eq, Int.mul_assoc (x * j), ← pw_add, ← hk, pw_add]
    simp only [Int.mul_assoc, Int.mul_left_comm]
  have up : ∀ {x y : Int}, x ≤ y → x * ((2 ^ k : Nat) : Int) * ((2 ^ 1074 : Nat) : Int) ≤ y * ((2 ^ k : Nat) : Int) * ((2 ^ 1074 : Nat) : Int) := fun h =>
    Int.mul_le_mul_of_nonneg_right (Int.mul_le_mul_of_nonneg_right h (Int.le_of_lt (pw_pos _))) (Int.le_of_lt (pw_pos _))
  refine mul_z ha.1 hb.1 ?_ ?_ hl hh hk'
  · refine Int.le_trans (up hlo) ?_
    rw [e]; exact Int.mul_le_mul_of_nonneg_right ha.2.1 hz
  · refine Int.le_trans ?_ (up hhi)
    rw [e]; exact Int.mul_le_mul_of_nonneg_right ha.2.2 hz
theorem pw3 {A B C D E : Nat} (c : Nat) (h : A + B = C + D + E) : c * 2 ^ A * 2 ^ B = c * 2 ^ C * 2 ^ D * 2 ^ E := by
  rw [Nat.mul_assoc, ← Nat.pow_add, h, Nat.pow_add, Nat.pow_add, ← Nat.mul_assoc, ← Nat.mul_assoc]
theorem ev_aux (V : Int) (n d y : Nat) : V * ((2 ^ n * d : Nat) : Int) * ((2 ^ y : Nat) : Int) = V * ((d * 2 ^ y : Nat) : Int) * ((2 ^ n : Nat) : Int) := by
  rw [Int.natCast_mul, Int.natCast_mul]
  generalize ((2 ^ n : Nat) : Int) = x
  generalize ((2 ^ y : Nat) : Int) = z
  simp only [Int.mul_assoc, Int.mul_comm, Int.mul_left_comm]
/-- the quotient, with signs -/
theorem ratio_le {s : Bool} {A B : Nat} {e e0 : Int} {V : Datum} (hB : 0 < B) (hV : FP.Core.fits b64 V) (hn : V ≠ .nan) (h0 : e0 ≤ b64.qmin) (h0e : e0 ≤ e)
    (h : signed s (inUnits A e e0) ≤ zval b64 V * ((2 ^ (b64.qmin - e0).toNat * B : Nat) : Int)) : zval b64 (roundRatio b64 s A B e) ≤ zval b64 V := by
  have hle := zmag_roundRatio_le good_b64 (s := s) (A := A) hB hV hn h0 h0e
  have hge := zmag_roundRatio_ge good_b64 (s := s) (A := A) hB hV h0 h0e
  rw [Nat.mul_assoc] at hle hge
  have hP : 0 < 2 ^ (b64.qmin - e0).toNat * B := Nat.mul_pos (Nat.two_pow_pos _) hB
  unfold zval at h ⊢
  rw [sgn_roundRatio]
  rw [← signed_mul] at h
  have hz : zmag b64 V * (2 ^ (b64.qmin - e0).toNat * B) = 0 → zmag b64 V = 0 := by
    intro h
    rcases Nat.mul_eq_zero.mp h with h | h <;> omega
  generalize zmag b64 V * (2 ^ (b64.qmin - e0).toNat * B) = vP at *
  generalize sgn V = t at *
  cases s <;> cases t <;> simp only [signed, if_true, Bool.false_eq_true, if_false] at h ⊢
  · have := hle (by omega); omega
  · have := hle (by omega); have := hz (by omega); omega
  · omega
  · have := hge (by omega); omega
theorem ratio_ge {s : Bool} {A B : Nat} {e e0 : Int} {V : Datum} (hB : 0 < B) (hV : FP.Core.fits b64 V) (hn : V ≠ .nan) (h0 : e0 ≤ b64.qmin) (h0e : e0 ≤ e)
    (h : zval b64 V * ((2 ^ (b64.qmin - e0).toNat * B : Nat) : Int) ≤ signed s (inUnits A e e0)) : zval b64 V ≤ zval b64 (roundRatio b64 s A B e) := by
  have h1 := ratio_le (s := !s) (A := A) (B := B) (e := e) (V := negate V) hB (negate_fits hV) (negate_ne_nan hn) h0 h0e (by
    rw [zval_negate, Int.neg_mul]
    have : signed (!s) (inUnits A e e0) = -signed s (inUnits A e e0) := by cases s <;> simp [signed]
    rw [this]; omega)
  rw [zval_negate, ← negate_roundRatio, zval_negate] at h1
  omega
/-- the quotient by a positive number: no NaN, and at the least, at the most, what is so when multiplied back -/
theorem div_zz {a b : UInt64} (fa : DFin a) (fb : DFin b) (hb : 0 < zv b) : val64 (FP.ddiv a b) ≠ .nan ∧
    (∀ {k : Nat} {lo : Int}, lo.natAbs ≤ 2 ^ 53 → k ≤ 2044 → lo * ((2 ^ k : Nat) : Int) * zv b ≤ zv a * ((2 ^ 1074 : Nat) : Int) → lo * ((2 ^ k : Nat) : Int) ≤ zv (FP.ddiv a b)) ∧
    (∀ {k : Nat} {hi : Int}, hi.natAbs ≤ 2 ^ 53 → k ≤ 2044 → zv a * ((2 ^ 1074 : Nat) : Int) ≤ hi * ((2 ^ k : Nat) : Int) * zv b → zv (FP.ddiv a b) ≤ hi * ((2 ^ k : Nat) : Int)) := by
  obtain ⟨s, c, q, va⟩ := fa
  obtain ⟨t, d, r, vb⟩ := fb
  have hv := val64_ddiv a b
  have fa := val64_fits a
  have fb := val64_fits b
  have zea : zv a = zval b64 (.fin s c q) := by unfold zv; rw [va]
  have zeb : zv b = zval b64 (.fin t d r) := by unfold zv; rw [vb]
  rw [zea, zeb]
  rw [zeb] at hb
  rw [va] at hv fa
  rw [vb] at hv fb
  have qn : b64.qmin = -1074 := by decide
  have qx : b64.qmax = 971 := by decide
  have fa2 := fa.2.1
  have fb2 := fb.2.1
  have fb3 := fb.2.2.1
  have zb : zval b64 (.fin t d r) = signed t (d * 2 ^ (r - b64.qmin).toNat) := rfl
  have za : zval b64 (.fin s c q) = signed s (c * 2 ^ (q - b64.qmin).toNat) := rfl
  have hd : 0 < d := by
    refine Nat.pos_of_ne_zero fun e => ?_
    rw [zb, e, Nat.zero_mul, signed_zero] at hb
    omega
  have ht : t = false := by
    cases t with
    | false => rfl
    | true => rw [zb] at hb; simp only [signed, if_true] at hb; omega
  subst ht
  have hq : quotient b64 (.fin s c q) (.fin false d r) = roundRatio b64 s c d (q - r) := by
    show (if d = 0 then _ else roundRatio b64 (s != false) c d (q - r)) = _
    rw [if_neg (by omega)]; cases s <;> rfl
  rw [hq] at hv
  have hn : val64 (Core.ddiv a b) ≠ .nan := by rw [hv]; exact roundRatio_ne_nan _ _ _ _ _
  -- both sides times 2^(r - qmin)
  have hP := pw_pos (r - b64.qmin).toNat
  have ex : signed s (inUnits c (q - r) (2 * b64.qmin)) * ((2 ^ (r - b64.qmin).toNat : Nat) : Int) = zval b64 (.fin s c q) * ((2 ^ 1074 : Nat) : Int) * ((2 ^ 1074 : Nat) : Int) := by
    rw [za, ← signed_mul, ← signed_mul, ← signed_mul]
    exact congrArg (signed s) (pw3 (A := (q - r - 2 * b64.qmin).toNat) (D := 1074) (E := 1074) c (by omega))
  have ev : ∀ V : Int, V * ((2 ^ (b64.qmin - 2 * b64.qmin).toNat * d : Nat) : Int) * ((2 ^ (r - b64.qmin).toNat : Nat) : Int) = V * zval b64 (.fin false d r) * ((2 ^ 1074 : Nat) : Int) := fun V => by
    rw [zb, show (b64.qmin - 2 * b64.qmin).toNat = 1074 by decide]
    exact ev_aux V 1074 d _
  have p1074 := pw_pos 1074
  refine ⟨hn, fun {k lo} hl hk h1 => ?_, fun {k hi} hh hk h2 => ?_⟩
  · obtain ⟨s1, c1, q1, f1, e1⟩ := rep hl hk
    unfold zv; rw [hv, ← e1]
    refine ratio_ge hd f1 (by simp) (e0 := 2 * b64.qmin) (by decide) (by omega) ?_
    refine Int.le_of_mul_le_mul_right ?_ hP
    rw [ev, ex, e1]
    exact Int.mul_le_mul_of_nonneg_right h1 (Int.le_of_lt p1074)
  · obtain ⟨s2, c2, q2, f2, e2⟩ := rep hh hk
    unfold zv; rw [hv, ← e2]
    refine ratio_le hd f2 (by simp) (e0 := 2 * b64.qmin) (by decide) (by omega) ?_
    refine Int.le_of_mul_le_mul_right ?_ hP
    rw [ev, ex, e2]
    exact Int.mul_le_mul_of_nonneg_right h2 (Int.le_of_lt p1074)
/-- between lo and hi -/
theorem div_z {a b : UInt64} {k : Nat} {lo hi : Int} (fa : DFin a) (fb : DFin b) (hb : 0 < zv b) (h1 : lo * ((2 ^ k : Nat) : Int) * zv b ≤ zv a * ((2 ^ 1074 : Nat) : Int)) (h2 : zv a * ((2 ^ 1074 : Nat) : Int) ≤ hi * ((2 ^ k : Nat) : Int) * zv b) (hl : lo.natAbs ≤ 2 ^ 53) (hh : hi.natAbs ≤ 2 ^ 53) (hk : k ≤ 2044) : DB k lo hi (FP.ddiv a b) := by
  obtain ⟨n, ge, le⟩ := div_zz fa fb hb
  exact fin_between hl hh hk n (ge hl hk h1) (le hh hk h2)
/-- the quotient of two known numbers, the second one positive -/
theorem div_b {a b : UInt64} {k k1 k2 : Nat} {i j lo hi : Int} (ha : DE k1 i a) (hb : DE k2 j b) (hj : 0 < j) (hk : k1 + 1074 = k + k2) (hlo : lo * j ≤ i) (hhi : i ≤ hi * j) (hl : lo.natAbs ≤ 2 ^ 53) (hh : hi.natAbs ≤ 2 ^ 53) (hk' : k ≤ 2044) : DB k lo hi (FP.ddiv a b) := by
  have p2 := pw_pos k2
  have e : ∀ x : Int, x * ((2 ^ k : Nat) : Int) * zv b = x * j * ((2 ^ (k1 + 1074) : Nat) : Int) := fun x => by
    rw [hb.eq, hk, pw_add]
    simp only [Int.mul_assoc, Int.mul_left_comm]
  have e2 : zv a * ((2 ^ 1074 : Nat) : Int) = i * ((2 ^ (k1 + 1074) : Nat) : Int) := by rw [ha.eq, pw_add, Int.mul_assoc]
  refine div_z ha.1 hb.1 (by rw [hb.eq]; exact Int.mul_pos hj p2) ?_ ?_ hl hh hk'
  · rw [e, e2]; exact Int.mul_le_mul_of_nonneg_right hlo (Int.le_of_lt (pw_pos _))
  · rw [e, e2]; exact Int.mul_le_mul_of_nonneg_right hhi (Int.le_of_lt (pw_pos _))
theorem div_e {a b : UInt64} {k k1 k2 : Nat} {i j n : Int} (ha : DE k1 i a) (hb : DE k2 j b) (hj : 0 < j) (hk : k1 + 1074 = k + k2) (hn : n * j = i) (hh : n.natAbs ≤ 2 ^ 53) (hk' : k ≤ 2044) : DE k n (FP.ddiv a b) :=
  div_b ha hb hj hk (Int.le_of_eq hn) (Int.le_of_eq hn.symm) hh hh hk'
theorem add_e {a b : UInt64} {k : Nat} {i j n : Int} (ha : DE k i a) (hb : DE k j b) (hn : i + j = n) (hh : n.natAbs ≤ 2 ^ 53) (hk : k ≤ 2044) : DE k n (FP.dadd a b) := add_b ha hb (Int.le_of_eq hn.symm) (Int.le_of_eq hn) hh hh hk
theorem sub_e {a b : UInt64} {k : Nat} {i j n : Int} (ha : DE k i a) (hb : DE k j b) (hn : i - j = n) (hh : n.natAbs ≤ 2 ^ 53) (hk : k ≤ 2044) : DE k n (FP.dsub a b) := sub_b ha hb (Int.le_of_eq hn.symm) (Int.le_of_eq hn) hh hh hk
theorem i2d_e (x : Int32) : DE 1074 x.toInt (FP.i2d x) := DE.of (Core.i2d_fin x) (DInt_zval (i2d_int x))
theorem l2d_e {x : Int64} (h : x.toInt.natAbs ≤ 2 ^ 53) : DE 1074 x.toInt (FP.l2d x) := DE.of (Core.l2d_fin x) (DInt_zval (l2d_int h))
theorem zero_e (k : Nat) : DE k 0 FP.dconst0 := DE.of ⟨_, _, _, rfl⟩ (by rw [Int.zero_mul]; exact zval64_zero)
/-- in smaller units -/
theorem DB.down {a : UInt64} {k : Nat} {lo hi : Int} (h : DB k lo hi a) {k' n : Nat} (hk : k = k' + n) : DB k' (lo * ((2 ^ n : Nat) : Int)) (hi * ((2 ^ n : Nat) : Int)) a := by
  subst hk
  refine ⟨h.1, ?_, ?_⟩
  · have := h.2.1; rw [Nat.add_comm, pw_add, ← Int.mul_assoc] at this; exact this
  · have := h.2.2; rw [Nat.add_comm, pw_add, ← Int.mul_assoc] at this; exact this
/-- the quotient from below alone -/
theorem div_ge {a b : UInt64} {k k1 k2 : Nat} {i j lo : Int} (ha : DE k1 i a) (hb : DE k2 j b) (hj : 0 < j) (hk : k1 + 1074 = k + k2) (hlo : lo * j ≤ i) (hl : lo.natAbs ≤ 2 ^ 53) (hk' : k ≤ 2044) : lo * ((2 ^ k : Nat) : Int) ≤ zv (FP.ddiv a b) := by
  have p2 := pw_pos k2
  have e : ∀ x : Int, x * ((2 ^ k : Nat) : Int) * zv b = x * j * ((2 ^ (k1 + 1074) : Nat) : Int) := fun x => by
    rw [hb.eq, hk, pw_add]
    simp only [Int.mul_assoc, Int.mul_left_comm]
  have e2 : zv a * ((2 ^ 1074 : Nat) : Int) = i * ((2 ^ (k1 + 1074) : Nat) : Int) := by rw [ha.eq, pw_add, Int.mul_assoc]
  refine (div_zz ha.1 hb.1 (by rw [hb.eq]; exact Int.mul_pos hj p2)).2.1 hl hk' ?_
  rw [e, e2]; exact Int.mul_le_mul_of_nonneg_right hlo (Int.le_of_lt (pw_pos _))
/-- in greater units -/
theorem DB.up {a : UInt64} {k : Nat} {lo hi : Int} {n : Nat} (h : DB k (lo * ((2 ^ n : Nat) : Int)) (hi * ((2 ^ n : Nat) : Int)) a) : DB (k + n) lo hi a := by
  refine ⟨h.1, ?_, ?_⟩
  · have := h.2.1; rw [Int.mul_assoc, ← pw_add, Nat.add_comm] at this; exact this
  · have := h.2.2; rw [Int.mul_assoc, ← pw_add, Nat.add_comm] at this; exact this
/-- the product of two known numbers, between two that lie on a grid 2^g times as coarse -/
theorem mul_g {a b : UInt64} {k k1 k2 g : Nat} {i j lo hi : Int} (ha : DE k1 i a) (hb : DE k2 j b) (hk : k1 + k2 + g = k + 1074) (hlo : lo * ((2 ^ g : Nat) : Int) ≤ i * j) (hhi : i * j ≤ hi * ((2 ^ g : Nat) : Int)) (hl : lo.natAbs ≤ 2 ^ 53) (hh : hi.natAbs ≤ 2 ^ 53) (hk' : k ≤ 2044) : DB k lo hi (FP.dmul a b) := by
  have e : zv a * zv b = i * j * ((2 ^ (k1 + k2) : Nat) : Int) := by
    rw [ha.eq, hb.eq, pw_add]
    simp only [Int.mul_assoc, Int.mul_left_comm]
  have e2 : ∀ x : Int, x * ((2 ^ k : Nat) : Int) * ((2 ^ 1074 : Nat) : Int) = x * ((2 ^ g : Nat) : Int) * ((2 ^ (k1 + k2) : Nat) : Int) := fun x => by
    rw [Int.mul_assoc, ← pw_add, ← hk, Nat.add_comm, pw_add, ← Int.mul_assoc]
  refine mul_z ha.1 hb.1 ?_ ?_ hl hh hk'
  · rw [e, e2]; exact Int.mul_le_mul_of_nonneg_right hlo (Int.le_of_lt (pw_pos _))
  · rw [e, e2]; exact Int.mul_le_mul_of_nonneg_right hhi (Int.le_of_lt (pw_pos _))
theorem DB.wide {a : UInt64} {k : Nat} {lo hi lo' hi' : Int} (h : DB k lo hi a) (h1 : lo' ≤ lo) (h2 : hi ≤ hi') : DB k lo' hi' a :=
  ⟨h.1, Int.le_trans (Int.mul_le_mul_of_nonneg_right h1 (Int.le_of_lt (pw_pos k))) h.2.1, Int.le_trans h.2.2 (Int.mul_le_mul_of_nonneg_right h2 (Int.le_of_lt (pw_pos k)))⟩
theorem DE.cmp {a b : UInt64} {k : Nat} {i j : Int} (ha : DE k i a) (hb : DE k j b) : FP.dcmp a b = some (compare i j) := by
  rw [show FP.dcmp a b = some (compare (zv a) (zv b)) from dcmp_zval ha.ne hb.ne, ha.eq, hb.eq, compare_mul_pos _ _ _ (pw_pos k)]
theorem DB.lt {a b : UInt64} {k : Nat} {l1 h1 l2 h2 : Int} (ha : DB k l1 h1 a) (hb : DB k l2 h2 b) (h : h1 < l2) : FP.dcmp a b = some .lt := by
  rw [show FP.dcmp a b = some (compare (zv a) (zv b)) from dcmp_zval ha.ne hb.ne]
  congr 1
  rw [compare_lt_iff]
  have := Int.mul_lt_mul_of_pos_right h (pw_pos k)
  have := ha.2.2; have := hb.2.1
  omega
theorem DB.gt {a b : UInt64} {k : Nat} {l1 h1 l2 h2 : Int} (ha : DB k l1 h1 a) (hb : DB k l2 h2 b) (h : h2 < l1) : FP.dcmp a b = some .gt := by
  rw [show FP.dcmp a b = some (compare (zv a) (zv b)) from dcmp_zval ha.ne hb.ne]
  congr 1
  rw [compare_gt_iff]
  have := Int.mul_lt_mul_of_pos_right h (pw_pos k)
  have := ha.2.1; have := hb.2.2
  omega
/-- two doubles of one value that isn't nought are one -/
theorem DE.uniq {a b : UInt64} {k : Nat} {i : Int} (ha : DE k i a) (hb : DE k i b) (hi : i ≠ 0) : a = b := by
  have h1 := dcmp_key ha.ne hb.ne
  rw [dcmp_zval ha.ne hb.ne] at h1
  have e : zval b64 (val64 a) = zval b64 (val64 b) := (ha.eq).trans hb.eq.symm
  have h2 := Option.some.inj h1
  rw [(compare_eq_iff _ _).mpr e] at h2
  have h3 := (compare_eq_iff _ _).mp h2.symm
  have nz : ∀ {c : UInt64}, DE k i c → dkey c ≠ 0 := fun {c} hc h0 => by
    have q := dcmp_key hc.ne (b := 0) (by rw [val64_zero]; simp)
    rw [dcmp_zval hc.ne (by rw [val64_zero]; simp), zval64_zero] at q
    have q2 := Option.some.inj q
    have z : dkey 0 = 0 := by decide
    rw [h0, z, (compare_eq_iff (0 : Int) 0).mpr rfl] at q2
    have q3 := (compare_eq_iff _ _).mp q2
    have q4 : zv c = 0 := q3
    rw [hc.eq] at q4
    rcases Int.mul_eq_zero.mp q4 with q5 | q5
    · exact hi q5
    · have := pw_pos k; omega
  have n1 := nz ha
  have n2 := nz hb
  unfold dkey at h3 n1 n2
  apply UInt64.toNat_inj.mp
  have l1 := a.toNat_lt; have l2 := b.toNat_lt
  split at h3 <;> split at h3 <;> simp_all <;> omega
end Jvm.Pilot.@@N@@.Own
namespace Jvm.Pilot.@@N@@.Own
open Jvm Jvm.ClassFile Sem Op Lib Jvm.Free Jvm.Stand Jvm.LawKit Jvm.RoadKit
theorem iand_v {tb : Tables} [Ours tb] {e : Env} {below : List Frame} {T target : State} {m : MethodId} {c : Code} {g : JFrame} (h : At T m c below) (hx : tb.exec = Jvm.exec) (hg : g.method = m) {x : Int32} {y : Int32} {v : Int32} {rest : List Value} (hd : decode c.code g.pc = .ok (.iand, 1)) (hs : g.stack = .int y :: .int x :: rest) (hv : x &&& y = v)
    (hr : Steps tb e below (T.setTop { g with pc := g.pc + 1, stack := .int v :: rest }) target) : Steps tb e below (T.setTop g) target := by subst hv; exact XS.iand h hx hg hd hs hr
theorem iushr_v {tb : Tables} [Ours tb] {e : Env} {below : List Frame} {T target : State} {m : MethodId} {c : Code} {g : JFrame} (h : At T m c below) (hx : tb.exec = Jvm.exec) (hg : g.method = m) {x : Int32} {y : Int32} {v : Int32} {rest : List Value} (hd : decode c.code g.pc = .ok (.iushr, 1)) (hs : g.stack = .int y :: .int x :: rest) (hv : ((x.toUInt32 >>> (y &&& 31).toUInt32).toInt32) = v)
    (hr : Steps tb e below (T.setTop { g with pc := g.pc + 1, stack := .int v :: rest }) target) : Steps tb e below (T.setTop g) target := by subst hv; exact XS.iushr h hx hg hd hs hr
end Jvm.Pilot.@@N@@.Own
namespace Jvm.Pilot.@@N@@.Own
open Jvm Jvm.FP Jvm.FP.Core
theorem zcmp {a b : UInt64} (ha : val64 a ≠ .nan) (hb : val64 b ≠ .nan) : FP.dcmp a b = some (compare (zv a) (zv b)) := dcmp_zval ha hb
theorem inf_nn : val64 (9218868437227405312 : UInt64) ≠ .nan := by decide +kernel
end Jvm.Pilot.@@N@@.Own
namespace Jvm.Pilot.@@N@@
open Jvm Jvm.ClassFile Sem Op Lib Jvm.Free Jvm.Stand Jvm.LawKit Jvm.RoadKit Bundle Jvm.Pilot.@@N@@.Jvm.D Jvm.Pilot.@@N@@.Own
theorem pd_0 : parseMethodDescriptor "()V" = some ⟨[], none⟩ := by decide +kernel
theorem pd_1 : parseMethodDescriptor "()Z" = some ⟨[], some .boolean⟩ := by decide +kernel
theorem pd_2 : parseMethodDescriptor "()I" = some ⟨[], some .int⟩ := by decide +kernel
theorem pd_3 : parseMethodDescriptor "()D" = some ⟨[], some .double⟩ := by decide +kernel
theorem pd_4 : parseMethodDescriptor "(ID)V" = some ⟨[.int, .double], none⟩ := by decide +kernel
theorem d1_0 : decode prog_50_method_1_code 0 = .ok (.aload_n 0, 1) := by decide +kernel
theorem d1_1 : decode prog_50_method_1_code 1 = .ok (.invokespecial 1, 3) := by decide +kernel
theorem d1_4 : decode prog_50_method_1_code 4 = .ok (.aload_n 0, 1) := by decide +kernel
theorem d1_5 : decode prog_50_method_1_code 5 = .ok (.iconst (-1), 1) := by decide +kernel
theorem d1_6 : decode prog_50_method_1_code 6 = .ok (.putfield 7, 3) := by decide +kernel
theorem d1_9 : decode prog_50_method_1_code 9 = .ok (.aload_n 0, 1) := by decide +kernel
theorem d1_10 : decode prog_50_method_1_code 10 = .ok (.ldc2_w 15, 3) := by decide +kernel
theorem d1_13 : decode prog_50_method_1_code 13 = .ok (.putfield 17, 3) := by decide +kernel
theorem d1_16 : decode prog_50_method_1_code 16 = .ok (.return_, 1) := by decide +kernel
theorem pn_1 : plainName "com/example/fieldroster/fieldroster/policy/Nearest" = true := by first | (simp [plainName, overriddenIn]; done) | decide +kernel
theorem ef_1 (m : MethodId) (x0 : Addr) : entryFrame m #[(.ref x0)] 1 = mkF m 0 #[.val (.ref x0)] [] := by first | (simp [entryFrame, mkF, argsToLocals, Value.category]; done) | rfl
def Q1 (Z : State) (a : Addr) (h0 : Heap) (n0 : Nat) (v : Option Value) (h : Heap) (L : List Loc) : Prop := v = none ∧ Fr n0 L ∧ Keep h0 h [a] ∧ Fld Z h a "com/example/fieldroster/fieldroster/policy/Nearest" "index" "I" (.int (-1 : Int32)) ∧ Fld Z h a "com/example/fieldroster/fieldroster/policy/Nearest" "distance" "D" (.double (9218868437227405312 : UInt64))
set_option maxRecDepth 65536 in
set_option maxHeartbeats 40000000 in
theorem rm1 (l : Launch) (Z : State) (a0 : Array Value) (hw : ∀ d ∈ tables_1, d.before a0 Z = true) (ws : List Jvm.Cond) (a : Addr) (h0 : Heap) (n0 : Nat) (Z0 : n0 ≤ h0.size) (E_a : Exa Z h0 a "com/example/fieldroster/fieldroster/policy/Nearest") (F1 : Fld Z h0 a "com/example/fieldroster/fieldroster/policy/Nearest" "index" "I" (.int (0 : Int32))) (F2 : Fld Z h0 a "com/example/fieldroster/fieldroster/policy/Nearest" "distance" "D" (.double (0 : UInt64))) (g_a : n0 ≤ a) :
    MetFree l (⟨"com/example/fieldroster/fieldroster/policy/Nearest", "<init>", "()V"⟩ : MethodName) (head1 (Jvm.Cond.code (⟨"com/example/fieldroster/fieldroster/policy/Nearest", "<init>", "()V"⟩ : MethodName) prog_50_method_1_code 1 none :: ws) ({ frames := 1, cells := 0, slots := 0, locals := 12 } : Room)) (fun a_ U => a_ = #[(.ref a)] ∧ Z.Warmed39 U.vm ∧ U.heap = h0) (fun _ _ _ _ _ => True) (fun _ U o U' => ∃ v L, o = .returned v ∧ Q1 Z a h0 n0 v U'.heap L ∧ FrameEnd U o U' L (({ frames := 1, cells := 0, slots := 0, locals := 12 } : Room)).cells (({ frames := 1, cells := 0, slots := 0, locals := 12 } : Room)).slots) := by
  refine MetFree.of_bodySF (plainFor_of_name pn_1) hisR ?_
  intro p e s m args below meth c s₁ Bd hml0 hP0 hK
  obtain ⟨rfl, hZ, hh⟩ := hP0
  have hx := Bd.exec
  have hby := Bd.bytes
  have hml : c.maxLocals = 1 := hml0
  have hown : s.vm.findClass "com/example/fieldroster/fieldroster/policy/Nearest" = some m.cls := findClass_of_methodNamed Bd.named
  have hnm := (name_of_methodNamed Bd.named Bd.method).1
  have X0 : Stand p l e ({ frames := 1, cells := 0, slots := 0, locals := 12 } : Room) s m #[(.ref a)] below meth c s₁ [] 0 0 := Stand.of_body Bd
  have e0 : s₁.heap = h0 := by rw [← hh, Bd.state]; rfl
  have N0 := Fr.nil n0
  have hlk : meth.locks = false := BodyLoose.notSynchronized Bd
  refine Go.start (P₀ := fun s₂ o => ∃ v L, o = .returned v ∧ Q1 Z a h0 n0 v s₂.heap L ∧ FrameEnd s o s₂ L (({ frames := 1, cells := 0, slots := 0, locals := 12 } : Room)).cells (({ frames := 1, cells := 0, slots := 0, locals := 12 } : Room)).slots) (congrArg s₁.setTop (ef_1 m a)) ?_
  intro P hP
  show Go p.tables e below P (s₁.setTop (mkF m 0 #[.val (.ref a)] []))
  refine Go.step (fun t k => XS.aloadN X0.here hx rfl (hb hby d1_0) rfl rfl k) ?_
  show Go p.tables e below P (s₁.setTop (mkF m 1 #[.val (.ref a)] [(.ref a)]))
  obtain ⟨T_1, X_1, e_1, st_1⟩ := initO X0 hx hZ hown (hw _ (List.mem_of_getElem? (i := 8) rfl)) (hw _ (List.mem_of_getElem? (i := 9) rfl)) (hw _ (List.mem_of_getElem? (i := 10) rfl)) e0 (g := (mkF m 1 #[.val (.ref a)] [(.ref a)])) rfl (by rw [hml]; rfl) rfl (hb hby d1_1) (by decide) (W := 0) (by show 2 * 0 + _ ≤ _; exact Nat.le_of_eq rfl) (by decide)
  refine Go.step (fun t k => st_1 t k) ?_
  show Go p.tables e below P (T_1.setTop (mkF m 4 #[.val (.ref a)] []))
  refine Go.step (fun t k => XS.aloadN X_1.here hx rfl (hb hby d1_4) rfl rfl k) ?_
  show Go p.tables e below P (T_1.setTop (mkF m 5 #[.val (.ref a)] [(.ref a)]))
  refine Go.step (fun t k => XS.iconst X_1.here hx rfl (hb hby d1_5) k) ?_
  show Go p.tables e below P (T_1.setTop (mkF m 6 #[.val (.ref a)] [(.int (-1 : Int32)), (.ref a)]))
  obtain ⟨T_2, h_2, X_2, e_2, W_2, st_2⟩ := putF X_1 hx hZ hown (host := "") (Or.inl (hw _ (List.mem_of_getElem? (i := 11) rfl))) Via.refl e_1 F1 E_a (Or.inl (hw _ (List.mem_of_getElem? (i := 12) rfl))) (hw _ (List.mem_of_getElem? (i := 3) rfl)) (ty := .int) (by decide) rfl rfl (g := (mkF m 6 #[.val (.ref a)] [(.int (-1 : Int32)), (.ref a)])) rfl rfl (hb hby d1_6)
  have Fw_2 := F1.same W_2
  have N_2 := Fr.snoc X_2 N0 g_a
  have K_2 : Keep h0 h_2 [a] := (Keep.refl h0 [a]).wr W_2 (Or.inl (List.mem_of_getElem? (i := 0) rfl))
  have Z_2 : n0 ≤ h_2.size := Nat.le_trans Z0 (Keep.of_wr W_2).1
  refine Go.step (fun t k => st_2 t k) ?_
  show Go p.tables e below P (T_2.setTop (mkF m 9 #[.val (.ref a)] []))
  refine Go.step (fun t k => XS.aloadN X_2.here hx rfl (hb hby d1_9) rfl rfl k) ?_
  show Go p.tables e below P (T_2.setTop (mkF m 10 #[.val (.ref a)] [(.ref a)]))
  refine Go.step (fun t k => X_2.ldc2DoubleC hx hown (mvT hZ (hw _ (List.mem_of_getElem? (i := 13) rfl))) (g := (mkF m 10 #[.val (.ref a)] [(.ref a)])) rfl (hb hby d1_10) t k) ?_
  show Go p.tables e below P (T_2.setTop (mkF m 13 #[.val (.ref a)] [(.double (9218868437227405312 : UInt64)), (.ref a)]))
  obtain ⟨T_3, h_3, X_3, e_3, W_3, st_3⟩ := putF X_2 hx hZ hown (host := "") (Or.inl (hw _ (List.mem_of_getElem? (i := 14) rfl))) Via.refl e_2 (F2.other W_2 (Or.inr (slot_ne (Or.inl (hw _ (List.mem_of_getElem? (i := 15) rfl))) (Or.inl (hw _ (List.mem_of_getElem? (i := 12) rfl))) (by decide) (t := .double) (t' := .int) (by decide) (by decide)))) (E_a.wr W_2) (Or.inl (hw _ (List.mem_of_getElem? (i := 15) rfl))) (hw _ (List.mem_of_getElem? (i := 3) rfl)) (ty := .double) (by decide) rfl rfl (g := (mkF m 13 #[.val (.ref a)] [(.double (9218868437227405312 : UInt64)), (.ref a)])) rfl rfl (hb hby d1_13)
  have Fw_3 := (F2.other W_2 (Or.inr (slot_ne (Or.inl (hw _ (List.mem_of_getElem? (i := 15) rfl))) (Or.inl (hw _ (List.mem_of_getElem? (i := 12) rfl))) (by decide) (t := .double) (t' := .int) (by decide) (by decide)))).same W_3
  have N_3 := Fr.snoc X_3 N_2 g_a
  have K_3 : Keep h0 h_3 [a] := K_2.wr W_3 (Or.inl (List.mem_of_getElem? (i := 0) rfl))
  have Z_3 : n0 ≤ h_3.size := Nat.le_trans Z_2 (Keep.of_wr W_3).1
  refine Go.step (fun t k => st_3 t k) ?_
  show Go p.tables e below P (T_3.setTop (mkF m 16 #[.val (.ref a)] []))
  exact voidGo X_3 hx hP Bd.returns hlk (hb hby d1_16) (by decide) (by decide) (by rw [e_3]; exact ⟨rfl, N_3, K_3, (Fw_2.other W_3 (Or.inr (slot_ne (Or.inl (hw _ (List.mem_of_getElem? (i := 12) rfl))) (Or.inl (hw _ (List.mem_of_getElem? (i := 15) rfl))) (by decide) (t := .int) (t' := .double) (by decide) (by decide)))), Fw_3⟩)
theorem d2_0 : decode prog_50_method_2_code 0 = .ok (.aload_n 0, 1) := by decide +kernel
theorem d2_1 : decode prog_50_method_2_code 1 = .ok (.getfield 7, 3) := by decide +kernel
theorem d2_4 : decode prog_50_method_2_code 4 = .ok (.ifCond .lt 12, 3) := by decide +kernel
theorem d2_7 : decode prog_50_method_2_code 7 = .ok (.dload_n 2, 1) := by decide +kernel
theorem d2_8 : decode prog_50_method_2_code 8 = .ok (.aload_n 0, 1) := by decide +kernel
theorem d2_9 : decode prog_50_method_2_code 9 = .ok (.getfield 17, 3) := by decide +kernel
theorem d2_12 : decode prog_50_method_2_code 12 = .ok (.dcmp .g, 1) := by decide +kernel
theorem d2_13 : decode prog_50_method_2_code 13 = .ok (.ifCond .ge 13, 3) := by decide +kernel
theorem d2_16 : decode prog_50_method_2_code 16 = .ok (.aload_n 0, 1) := by decide +kernel
theorem d2_17 : decode prog_50_method_2_code 17 = .ok (.iload_n 1, 1) := by decide +kernel
theorem d2_18 : decode prog_50_method_2_code 18 = .ok (.putfield 7, 3) := by decide +kernel
theorem d2_21 : decode prog_50_method_2_code 21 = .ok (.aload_n 0, 1) := by decide +kernel
theorem d2_22 : decode prog_50_method_2_code 22 = .ok (.dload_n 2, 1) := by decide +kernel
theorem d2_23 : decode prog_50_method_2_code 23 = .ok (.putfield 17, 3) := by decide +kernel
theorem d2_26 : decode prog_50_method_2_code 26 = .ok (.return_, 1) := by decide +kernel
theorem pn_2 : plainName "com/example/fieldroster/fieldroster/policy/Nearest" = true := by first | (simp [plainName, overriddenIn]; done) | decide +kernel
theorem ef_2 (m : MethodId) (x0 : Addr) (x1 : Int32) (x2 : UInt64) : entryFrame m #[(.ref x0), (.int x1), (.double x2)] 4 = mkF m 0 #[.val (.ref x0), .val (.int x1), .val (.double x2), .second] [] := by first | (simp [entryFrame, mkF, argsToLocals, Value.category]; done) | rfl
def Q2 (Z : State) (a : Addr) (cand : Int32) (cd : UInt64) (ix : Int32) (ds : UInt64) (h0 : Heap) (n0 : Nat) (v : Option Value) (h : Heap) (L : List Loc) : Prop := v = none ∧ Fr n0 L ∧ Keep h0 h [a] ∧ Exa Z h a "com/example/fieldroster/fieldroster/policy/Nearest" ∧ ∃ (i' : Int32) (d' : UInt64), Fld Z h a "com/example/fieldroster/fieldroster/policy/Nearest" "index" "I" (.int i') ∧ Fld Z h a "com/example/fieldroster/fieldroster/policy/Nearest" "distance" "D" (.double d') ∧ (((ix.toInt < 0 ∨ zv cd < zv ds) ∧ i' = cand ∧ d' = cd) ∨ (¬ (ix.toInt < 0 ∨ zv cd < zv ds) ∧ i' = ix ∧ d' = ds))
set_option maxRecDepth 65536 in
set_option maxHeartbeats 40000000 in
theorem rm2 (l : Launch) (Z : State) (a0 : Array Value) (hw : ∀ d ∈ tables_1, d.before a0 Z = true) (ws : List Jvm.Cond) (a : Addr) (cand : Int32) (cd : UInt64) (ix : Int32) (ds : UInt64) (h0 : Heap) (n0 : Nat) (Z0 : n0 ≤ h0.size) (E_a : Exa Z h0 a "com/example/fieldroster/fieldroster/policy/Nearest") (F1 : Fld Z h0 a "com/example/fieldroster/fieldroster/policy/Nearest" "index" "I" (.int ix)) (F2 : Fld Z h0 a "com/example/fieldroster/fieldroster/policy/Nearest" "distance" "D" (.double ds)) (g_a : n0 ≤ a) (hc : FP.Core.val64 cd ≠ .nan) (hd_ : FP.Core.val64 ds ≠ .nan) :
    MetFree l (⟨"com/example/fieldroster/fieldroster/policy/Nearest", "offer", "(ID)V"⟩ : MethodName) (head1 (Jvm.Cond.code (⟨"com/example/fieldroster/fieldroster/policy/Nearest", "offer", "(ID)V"⟩ : MethodName) prog_50_method_2_code 4 none :: ws) ({ frames := 0, cells := 0, slots := 0, locals := 0 } : Room)) (fun a_ U => a_ = #[(.ref a), (.int cand), (.double cd)] ∧ Z.Warmed39 U.vm ∧ U.heap = h0) (fun _ _ _ _ _ => True) (fun _ U o U' => ∃ v L, o = .returned v ∧ Q2 Z a cand cd ix ds h0 n0 v U'.heap L ∧ FrameEnd U o U' L (({ frames := 0, cells := 0, slots := 0, locals := 0 } : Room)).cells (({ frames := 0, cells := 0, slots := 0, locals := 0 } : Room)).slots) := by
  refine MetFree.of_bodySF (plainFor_of_name pn_2) hisR ?_
  intro p e s m args below meth c s₁ Bd hml0 hP0 hK
  obtain ⟨rfl, hZ, hh⟩ := hP0
  have hx := Bd.exec
  have hby := Bd.bytes
  have hml : c.maxLocals = 4 := hml0
  have hown : s.vm.findClass "com/example/fieldroster/fieldroster/policy/Nearest" = some m.cls := findClass_of_methodNamed Bd.named
  have hnm := (name_of_methodNamed Bd.named Bd.method).1
  have X0 : Stand p l e ({ frames := 0, cells := 0, slots := 0, locals := 0 } : Room) s m #[(.ref a), (.int cand), (.double cd)] below meth c s₁ [] 0 0 := Stand.of_body Bd
  have e0 : s₁.heap = h0 := by rw [← hh, Bd.state]; rfl
  have N0 := Fr.nil n0
  have hlk : meth.locks = false := BodyLoose.notSynchronized Bd
  refine Go.start (P₀ := fun s₂ o => ∃ v L, o = .returned v ∧ Q2 Z a cand cd ix ds h0 n0 v s₂.heap L ∧ FrameEnd s o s₂ L (({ frames := 0, cells := 0, slots := 0, locals := 0 } : Room)).cells (({ frames := 0, cells := 0, slots := 0, locals := 0 } : Room)).slots) (congrArg s₁.setTop (ef_2 m a cand cd)) ?_
  intro P hP
  show Go p.tables e below P (s₁.setTop (mkF m 0 #[.val (.ref a), .val (.int cand), .val (.double cd), .second] []))
  refine Go.step (fun t k => XS.aloadN X0.here hx rfl (hb hby d2_0) rfl rfl k) ?_
  show Go p.tables e below P (s₁.setTop (mkF m 1 #[.val (.ref a), .val (.int cand), .val (.double cd), .second] [(.ref a)]))
  obtain ⟨T_1, X_1, e_1, st_1⟩ := getF X0 hx hZ hown (host := "") (Or.inl (hw _ (List.mem_of_getElem? (i := 11) rfl))) Via.refl e0 F1 (g := (mkF m 1 #[.val (.ref a), .val (.int cand), .val (.double cd), .second] [(.ref a)])) rfl rfl (hb hby d2_1)
  refine Go.step (fun t k => st_1 t k) ?_
  show Go p.tables e below P (T_1.setTop (mkF m 4 #[.val (.ref a), .val (.int cand), .val (.double cd), .second] [(.int ix)]))
  by_cases hc4 : ix.toInt < 0
  · refine Go.step (fun t k => XS.ifYes X_1.here hx rfl (pc0 := 4) (pc' := 16) rfl (hb hby d2_4) rfl (ifY (cd := .lt) hc4) (by decide) (by decide) k) ?_
    show Go p.tables e below P (T_1.setTop (mkF m 16 #[.val (.ref a), .val (.int cand), .val (.double cd), .second] []))
    refine Go.step (fun t k => XS.aloadN X_1.here hx rfl (hb hby d2_16) rfl rfl k) ?_
    show Go p.tables e below P (T_1.setTop (mkF m 17 #[.val (.ref a), .val (.int cand), .val (.double cd), .second] [(.ref a)]))
    refine Go.step (fun t k => XS.iloadN X_1.here hx rfl (hb hby d2_17) rfl  k) ?_
    show Go p.tables e below P (T_1.setTop (mkF m 18 #[.val (.ref a), .val (.int cand), .val (.double cd), .second] [(.int cand), (.ref a)]))
    obtain ⟨T_2, h_2, X_2, e_2, W_2, st_2⟩ := putF X_1 hx hZ hown (host := "") (Or.inl (hw _ (List.mem_of_getElem? (i := 11) rfl))) Via.refl e_1 F1 E_a (Or.inl (hw _ (List.mem_of_getElem? (i := 12) rfl))) (hw _ (List.mem_of_getElem? (i := 3) rfl)) (ty := .int) (by decide) rfl rfl (g := (mkF m 18 #[.val (.ref a), .val (.int cand), .val (.double cd), .second] [(.int cand), (.ref a)])) rfl rfl (hb hby d2_18)
    have Fw_2 := F1.same W_2
    have N_2 := Fr.snoc X_2 N0 g_a
    have K_2 : Keep h0 h_2 [a] := (Keep.refl h0 [a]).wr W_2 (Or.inl (List.mem_of_getElem? (i := 0) rfl))
    have Z_2 : n0 ≤ h_2.size := Nat.le_trans Z0 (Keep.of_wr W_2).1
    refine Go.step (fun t k => st_2 t k) ?_
    show Go p.tables e below P (T_2.setTop (mkF m 21 #[.val (.ref a), .val (.int cand), .val (.double cd), .second] []))
    refine Go.step (fun t k => XS.aloadN X_2.here hx rfl (hb hby d2_21) rfl rfl k) ?_
    show Go p.tables e below P (T_2.setTop (mkF m 22 #[.val (.ref a), .val (.int cand), .val (.double cd), .second] [(.ref a)]))
    refine Go.step (fun t k => XS.dloadN X_2.here hx rfl (hb hby d2_22) rfl  k) ?_
    show Go p.tables e below P (T_2.setTop (mkF m 23 #[.val (.ref a), .val (.int cand), .val (.double cd), .second] [(.double cd), (.ref a)]))
    obtain ⟨T_3, h_3, X_3, e_3, W_3, st_3⟩ := putF X_2 hx hZ hown (host := "") (Or.inl (hw _ (List.mem_of_getElem? (i := 14) rfl))) Via.refl e_2 (F2.other W_2 (Or.inr (slot_ne (Or.inl (hw _ (List.mem_of_getElem? (i := 15) rfl))) (Or.inl (hw _ (List.mem_of_getElem? (i := 12) rfl))) (by decide) (t := .double) (t' := .int) (by decide) (by decide)))) (E_a.wr W_2) (Or.inl (hw _ (List.mem_of_getElem? (i := 15) rfl))) (hw _ (List.mem_of_getElem? (i := 3) rfl)) (ty := .double) (by decide) rfl rfl (g := (mkF m 23 #[.val (.ref a), .val (.int cand), .val (.double cd), .second] [(.double cd), (.ref a)])) rfl rfl (hb hby d2_23)
    have Fw_3 := (F2.other W_2 (Or.inr (slot_ne (Or.inl (hw _ (List.mem_of_getElem? (i := 15) rfl))) (Or.inl (hw _ (List.mem_of_getElem? (i := 12) rfl))) (by decide) (t := .double) (t' := .int) (by decide) (by decide)))).same W_3
    have N_3 := Fr.snoc X_3 N_2 g_a
    have K_3 : Keep h0 h_3 [a] := K_2.wr W_3 (Or.inl (List.mem_of_getElem? (i := 0) rfl))
    have Z_3 : n0 ≤ h_3.size := Nat.le_trans Z_2 (Keep.of_wr W_3).1
    refine Go.step (fun t k => st_3 t k) ?_
    show Go p.tables e below P (T_3.setTop (mkF m 26 #[.val (.ref a), .val (.int cand), .val (.double cd), .second] []))
    exact voidGo X_3 hx hP Bd.returns hlk (hb hby d2_26) (by decide) (by decide) (by rw [e_3]; exact ⟨rfl, N_3, K_3, ((E_a.wr W_2).wr W_3), cand, cd, (Fw_2.other W_3 (Or.inr (slot_ne (Or.inl (hw _ (List.mem_of_getElem? (i := 12) rfl))) (Or.inl (hw _ (List.mem_of_getElem? (i := 15) rfl))) (by decide) (t := .int) (t' := .double) (by decide) (by decide)))), Fw_3, Or.inl ⟨by omega, rfl, rfl⟩⟩)
  · refine Go.step (fun t k => XS.ifNo X_1.here hx rfl (hb hby d2_4) rfl (ifN (cd := .lt) hc4) k) ?_
    show Go p.tables e below P (T_1.setTop (mkF m 7 #[.val (.ref a), .val (.int cand), .val (.double cd), .second] []))
    refine Go.step (fun t k => XS.dloadN X_1.here hx rfl (hb hby d2_7) rfl  k) ?_
    show Go p.tables e below P (T_1.setTop (mkF m 8 #[.val (.ref a), .val (.int cand), .val (.double cd), .second] [(.double cd)]))
    refine Go.step (fun t k => XS.aloadN X_1.here hx rfl (hb hby d2_8) rfl rfl k) ?_
    show Go p.tables e below P (T_1.setTop (mkF m 9 #[.val (.ref a), .val (.int cand), .val (.double cd), .second] [(.ref a), (.double cd)]))
    obtain ⟨T_4, X_4, e_4, st_4⟩ := getF X_1 hx hZ hown (host := "") (Or.inl (hw _ (List.mem_of_getElem? (i := 14) rfl))) Via.refl e_1 F2 (g := (mkF m 9 #[.val (.ref a), .val (.int cand), .val (.double cd), .second] [(.ref a), (.double cd)])) rfl rfl (hb hby d2_9)
    refine Go.step (fun t k => st_4 t k) ?_
    show Go p.tables e below P (T_4.setTop (mkF m 12 #[.val (.ref a), .val (.int cand), .val (.double cd), .second] [(.double ds), (.double cd)]))
    refine Go.step (fun t k => XS.dcmpS X_4.here hx rfl (hb hby d2_12) rfl rfl k) ?_
    show Go p.tables e below P (T_4.setTop (mkF m 13 #[.val (.ref a), .val (.int cand), .val (.double cd), .second] [(.int (cmpValue (FP.dcmp cd ds) .g))]))
    by_cases hc13 : (zv ds) ≤ (zv cd)
    · refine Go.step (fun t k => XS.ifYes X_4.here hx rfl (pc0 := 13) (pc' := 26) rfl (hb hby d2_13) rfl (dcY (cd := .ge) (zcmp hc hd_) hc13) (by decide) (by decide) k) ?_
      show Go p.tables e below P (T_4.setTop (mkF m 26 #[.val (.ref a), .val (.int cand), .val (.double cd), .second] []))
      exact voidGo X_4 hx hP Bd.returns hlk (hb hby d2_26) (by decide) (by decide) (by rw [e_4]; exact ⟨rfl, N0, (Keep.refl h0 [a]), E_a, ix, ds, F1, F2, Or.inr ⟨by omega, rfl, rfl⟩⟩)
    · refine Go.step (fun t k => XS.ifNo X_4.here hx rfl (hb hby d2_13) rfl (dcN (cd := .ge) (zcmp hc hd_) hc13) k) ?_
      show Go p.tables e below P (T_4.setTop (mkF m 16 #[.val (.ref a), .val (.int cand), .val (.double cd), .second] []))
      refine Go.step (fun t k => XS.aloadN X_4.here hx rfl (hb hby d2_16) rfl rfl k) ?_
      show Go p.tables e below P (T_4.setTop (mkF m 17 #[.val (.ref a), .val (.int cand), .val (.double cd), .second] [(.ref a)]))
      refine Go.step (fun t k => XS.iloadN X_4.here hx rfl (hb hby d2_17) rfl  k) ?_
      show Go p.tables e below P (T_4.setTop (mkF m 18 #[.val (.ref a), .val (.int cand), .val (.double cd), .second] [(.int cand), (.ref a)]))
      obtain ⟨T_5, h_5, X_5, e_5, W_5, st_5⟩ := putF X_4 hx hZ hown (host := "") (Or.inl (hw _ (List.mem_of_getElem? (i := 11) rfl))) Via.refl e_4 F1 E_a (Or.inl (hw _ (List.mem_of_getElem? (i := 12) rfl))) (hw _ (List.mem_of_getElem? (i := 3) rfl)) (ty := .int) (by decide) rfl rfl (g := (mkF m 18 #[.val (.ref a), .val (.int cand), .val (.double cd), .second] [(.int cand), (.ref a)])) rfl rfl (hb hby d2_18)
      have Fw_5 := F1.same W_5
      have N_5 := Fr.snoc X_5 N0 g_a
      have K_5 : Keep h0 h_5 [a] := (Keep.refl h0 [a]).wr W_5 (Or.inl (List.mem_of_getElem? (i := 0) rfl))
      have Z_5 : n0 ≤ h_5.size := Nat.le_trans Z0 (Keep.of_wr W_5).1
      refine Go.step (fun t k => st_5 t k) ?_
      show Go p.tables e below P (T_5.setTop (mkF m 21 #[.val (.ref a), .val (.int cand), .val (.double cd), .second] []))
      refine Go.step (fun t k => XS.aloadN X_5.here hx rfl (hb hby d2_21) rfl rfl k) ?_
      show Go p.tables e below P (T_5.setTop (mkF m 22 #[.val (.ref a), .val (.int cand), .val (.double cd), .second] [(.ref a)]))
      refine Go.step (fun t k => XS.dloadN X_5.here hx rfl (hb hby d2_22) rfl  k) ?_
      show Go p.tables e below P (T_5.setTop (mkF m 23 #[.val (.ref a), .val (.int cand), .val (.double cd), .second] [(.double cd), (.ref a)]))
      obtain ⟨T_6, h_6, X_6, e_6, W_6, st_6⟩ := putF X_5 hx hZ hown (host := "") (Or.inl (hw _ (List.mem_of_getElem? (i := 14) rfl))) Via.refl e_5 (F2.other W_5 (Or.inr (slot_ne (Or.inl (hw _ (List.mem_of_getElem? (i := 15) rfl))) (Or.inl (hw _ (List.mem_of_getElem? (i := 12) rfl))) (by decide) (t := .double) (t' := .int) (by decide) (by decide)))) (E_a.wr W_5) (Or.inl (hw _ (List.mem_of_getElem? (i := 15) rfl))) (hw _ (List.mem_of_getElem? (i := 3) rfl)) (ty := .double) (by decide) rfl rfl (g := (mkF m 23 #[.val (.ref a), .val (.int cand), .val (.double cd), .second] [(.double cd), (.ref a)])) rfl rfl (hb hby d2_23)
      have Fw_6 := (F2.other W_5 (Or.inr (slot_ne (Or.inl (hw _ (List.mem_of_getElem? (i := 15) rfl))) (Or.inl (hw _ (List.mem_of_getElem? (i := 12) rfl))) (by decide) (t := .double) (t' := .int) (by decide) (by decide)))).same W_6
      have N_6 := Fr.snoc X_6 N_5 g_a
      have K_6 : Keep h0 h_6 [a] := K_5.wr W_6 (Or.inl (List.mem_of_getElem? (i := 0) rfl))
      have Z_6 : n0 ≤ h_6.size := Nat.le_trans Z_5 (Keep.of_wr W_6).1
      refine Go.step (fun t k => st_6 t k) ?_
      show Go p.tables e below P (T_6.setTop (mkF m 26 #[.val (.ref a), .val (.int cand), .val (.double cd), .second] []))
      exact voidGo X_6 hx hP Bd.returns hlk (hb hby d2_26) (by decide) (by decide) (by rw [e_6]; exact ⟨rfl, N_6, K_6, ((E_a.wr W_5).wr W_6), cand, cd, (Fw_5.other W_6 (Or.inr (slot_ne (Or.inl (hw _ (List.mem_of_getElem? (i := 12) rfl))) (Or.inl (hw _ (List.mem_of_getElem? (i := 15) rfl))) (by decide) (t := .int) (t' := .double) (by decide) (by decide)))), Fw_6, Or.inl ⟨by omega, rfl, rfl⟩⟩)
theorem d3_0 : decode prog_50_method_3_code 0 = .ok (.aload_n 0, 1) := by decide +kernel
theorem d3_1 : decode prog_50_method_3_code 1 = .ok (.getfield 7, 3) := by decide +kernel
theorem d3_4 : decode prog_50_method_3_code 4 = .ok (.ifCond .lt 7, 3) := by decide +kernel
theorem d3_7 : decode prog_50_method_3_code 7 = .ok (.iconst 1, 1) := by decide +kernel
theorem d3_8 : decode prog_50_method_3_code 8 = .ok (.goto 4, 3) := by decide +kernel
theorem d3_11 : decode prog_50_method_3_code 11 = .ok (.iconst 0, 1) := by decide +kernel
theorem d3_12 : decode prog_50_method_3_code 12 = .ok (.ireturn, 1) := by decide +kernel
theorem pn_3 : plainName "com/example/fieldroster/fieldroster/policy/Nearest" = true := by first | (simp [plainName, overriddenIn]; done) | decide +kernel
theorem ef_3 (m : MethodId) (x0 : Addr) : entryFrame m #[(.ref x0)] 1 = mkF m 0 #[.val (.ref x0)] [] := by first | (simp [entryFrame, mkF, argsToLocals, Value.category]; done) | rfl
def Q3 (Z : State) (a : Addr) (ix : Int32) (h0 : Heap) (n0 : Nat) (v : Option Value) (h : Heap) (L : List Loc) : Prop := ∃ r : Int32, v = some (.int r) ∧ ((r.toInt = 1 ∧ 0 ≤ ix.toInt) ∨ (r.toInt = 0 ∧ ix.toInt < 0)) ∧ Fr n0 L ∧ h = h0
set_option maxRecDepth 65536 in
set_option maxHeartbeats 40000000 in
theorem rm3 (l : Launch) (Z : State) (a0 : Array Value) (hw : ∀ d ∈ tables_1, d.before a0 Z = true) (ws : List Jvm.Cond) (a : Addr) (ix : Int32) (h0 : Heap) (n0 : Nat) (Z0 : n0 ≤ h0.size) (F1 : Fld Z h0 a "com/example/fieldroster/fieldroster/policy/Nearest" "index" "I" (.int ix)) :
    MetFree l (⟨"com/example/fieldroster/fieldroster/policy/Nearest", "found", "()Z"⟩ : MethodName) (head1 (Jvm.Cond.code (⟨"com/example/fieldroster/fieldroster/policy/Nearest", "found", "()Z"⟩ : MethodName) prog_50_method_3_code 1 (some .boolean) :: ws) ({ frames := 0, cells := 0, slots := 0, locals := 0 } : Room)) (fun a_ U => a_ = #[(.ref a)] ∧ Z.Warmed39 U.vm ∧ U.heap = h0) (fun _ _ _ _ _ => True) (fun _ U o U' => ∃ v L, o = .returned v ∧ Q3 Z a ix h0 n0 v U'.heap L ∧ FrameEnd U o U' L (({ frames := 0, cells := 0, slots := 0, locals := 0 } : Room)).cells (({ frames := 0, cells := 0, slots := 0, locals := 0 } : Room)).slots) := by
  refine MetFree.of_bodySF (plainFor_of_name pn_3) hisR ?_
  intro p e s m args below meth c s₁ Bd hml0 hP0 hK
  obtain ⟨rfl, hZ, hh⟩ := hP0
  have hx := Bd.exec
  have hby := Bd.bytes
  have hml : c.maxLocals = 1 := hml0
  have hown : s.vm.findClass "com/example/fieldroster/fieldroster/policy/Nearest" = some m.cls := findClass_of_methodNamed Bd.named
  have hnm := (name_of_methodNamed Bd.named Bd.method).1
  have X0 : Stand p l e ({ frames := 0, cells := 0, slots := 0, locals := 0 } : Room) s m #[(.ref a)] below meth c s₁ [] 0 0 := Stand.of_body Bd
  have e0 : s₁.heap = h0 := by rw [← hh, Bd.state]; rfl
  have N0 := Fr.nil n0
  have hlk : meth.locks = false := BodyLoose.notSynchronized Bd
  refine Go.start (P₀ := fun s₂ o => ∃ v L, o = .returned v ∧ Q3 Z a ix h0 n0 v s₂.heap L ∧ FrameEnd s o s₂ L (({ frames := 0, cells := 0, slots := 0, locals := 0 } : Room)).cells (({ frames := 0, cells := 0, slots := 0, locals := 0 } : Room)).slots) (congrArg s₁.setTop (ef_3 m a)) ?_
  intro P hP
  show Go p.tables e below P (s₁.setTop (mkF m 0 #[.val (.ref a)] []))
  refine Go.step (fun t k => XS.aloadN X0.here hx rfl (hb hby d3_0) rfl rfl k) ?_
  show Go p.tables e below P (s₁.setTop (mkF m 1 #[.val (.ref a)] [(.ref a)]))
  obtain ⟨T_1, X_1, e_1, st_1⟩ := getF X0 hx hZ hown (host := "") (Or.inl (hw _ (List.mem_of_getElem? (i := 11) rfl))) Via.refl e0 F1 (g := (mkF m 1 #[.val (.ref a)] [(.ref a)])) rfl rfl (hb hby d3_1)
  refine Go.step (fun t k => st_1 t k) ?_
  show Go p.tables e below P (T_1.setTop (mkF m 4 #[.val (.ref a)] [(.int ix)]))
  by_cases hc4 : ix.toInt < 0
  · refine Go.step (fun t k => XS.ifYes X_1.here hx rfl (pc0 := 4) (pc' := 11) rfl (hb hby d3_4) rfl (ifY (cd := .lt) hc4) (by decide) (by decide) k) ?_
    show Go p.tables e below P (T_1.setTop (mkF m 11 #[.val (.ref a)] []))
    refine Go.step (fun t k => XS.iconst X_1.here hx rfl (hb hby d3_11) k) ?_
    show Go p.tables e below P (T_1.setTop (mkF m 12 #[.val (.ref a)] [(.int (0 : Int32))]))
    exact retGo X_1 hx hP Bd.returns hlk rfl (Or.inl ⟨rfl, Or.inr (Or.inl rfl), _, rfl⟩) (hb hby d3_12) (by decide) (by decide) (by rw [e_1]; exact ⟨0, rfl, Or.inr ⟨rfl, hc4⟩, N0, rfl⟩)
  · refine Go.step (fun t k => XS.ifNo X_1.here hx rfl (hb hby d3_4) rfl (ifN (cd := .lt) hc4) k) ?_
    show Go p.tables e below P (T_1.setTop (mkF m 7 #[.val (.ref a)] []))
    refine Go.step (fun t k => XS.iconst X_1.here hx rfl (hb hby d3_7) k) ?_
    show Go p.tables e below P (T_1.setTop (mkF m 8 #[.val (.ref a)] [(.int (1 : Int32))]))
    refine Go.step (fun t k => XS.goto X_1.here hx rfl (pc0 := 8) (pc' := 12) rfl (hb hby d3_8) (by decide) (by decide) k) ?_
    show Go p.tables e below P (T_1.setTop (mkF m 12 #[.val (.ref a)] [(.int (1 : Int32))]))
    exact retGo X_1 hx hP Bd.returns hlk rfl (Or.inl ⟨rfl, Or.inr (Or.inl rfl), _, rfl⟩) (hb hby d3_12) (by decide) (by decide) (by rw [e_1]; exact ⟨1, rfl, Or.inl ⟨rfl, by omega⟩, N0, rfl⟩)
theorem d4_0 : decode prog_50_method_4_code 0 = .ok (.aload_n 0, 1) := by decide +kernel
theorem d4_1 : decode prog_50_method_4_code 1 = .ok (.getfield 7, 3) := by decide +kernel
theorem d4_4 : decode prog_50_method_4_code 4 = .ok (.ireturn, 1) := by decide +kernel
theorem pn_4 : plainName "com/example/fieldroster/fieldroster/policy/Nearest" = true := by first | (simp [plainName, overriddenIn]; done) | decide +kernel
theorem ef_4 (m : MethodId) (x0 : Addr) : entryFrame m #[(.ref x0)] 1 = mkF m 0 #[.val (.ref x0)] [] := by first | (simp [entryFrame, mkF, argsToLocals, Value.category]; done) | rfl
def Q4 (Z : State) (a : Addr) (ix : Int32) (h0 : Heap) (n0 : Nat) (v : Option Value) (h : Heap) (L : List Loc) : Prop := v = some (.int ix) ∧ Fr n0 L ∧ h = h0
set_option maxRecDepth 65536 in
set_option maxHeartbeats 40000000 in
theorem rm4 (l : Launch) (Z : State) (a0 : Array Value) (hw : ∀ d ∈ tables_1, d.before a0 Z = true) (ws : List Jvm.Cond) (a : Addr) (ix : Int32) (h0 : Heap) (n0 : Nat) (Z0 : n0 ≤ h0.size) (F1 : Fld Z h0 a "com/example/fieldroster/fieldroster/policy/Nearest" "index" "I" (.int ix)) :
    MetFree l (⟨"com/example/fieldroster/fieldroster/policy/Nearest", "index", "()I"⟩ : MethodName) (head1 (Jvm.Cond.code (⟨"com/example/fieldroster/fieldroster/policy/Nearest", "index", "()I"⟩ : MethodName) prog_50_method_4_code 1 (some .int) :: ws) ({ frames := 0, cells := 0, slots := 0, locals := 0 } : Room)) (fun a_ U => a_ = #[(.ref a)] ∧ Z.Warmed39 U.vm ∧ U.heap = h0) (fun _ _ _ _ _ => True) (fun _ U o U' => ∃ v L, o = .returned v ∧ Q4 Z a ix h0 n0 v U'.heap L ∧ FrameEnd U o U' L (({ frames := 0, cells := 0, slots := 0, locals := 0 } : Room)).cells (({ frames := 0, cells := 0, slots := 0, locals := 0 } : Room)).slots) := by
  refine MetFree.of_bodySF (plainFor_of_name pn_4) hisR ?_
  intro p e s m args below meth c s₁ Bd hml0 hP0 hK
  obtain ⟨rfl, hZ, hh⟩ := hP0
  have hx := Bd.exec
  have hby := Bd.bytes
  have hml : c.maxLocals = 1 := hml0
  have hown : s.vm.findClass "com/example/fieldroster/fieldroster/policy/Nearest" = some m.cls := findClass_of_methodNamed Bd.named
  have hnm := (name_of_methodNamed Bd.named Bd.method).1
  have X0 : Stand p l e ({ frames := 0, cells := 0, slots := 0, locals := 0 } : Room) s m #[(.ref a)] below meth c s₁ [] 0 0 := Stand.of_body Bd
  have e0 : s₁.heap = h0 := by rw [← hh, Bd.state]; rfl
  have N0 := Fr.nil n0
  have hlk : meth.locks = false := BodyLoose.notSynchronized Bd
  refine Go.start (P₀ := fun s₂ o => ∃ v L, o = .returned v ∧ Q4 Z a ix h0 n0 v s₂.heap L ∧ FrameEnd s o s₂ L (({ frames := 0, cells := 0, slots := 0, locals := 0 } : Room)).cells (({ frames := 0, cells := 0, slots := 0, locals := 0 } : Room)).slots) (congrArg s₁.setTop (ef_4 m a)) ?_
  intro P hP
  show Go p.tables e below P (s₁.setTop (mkF m 0 #[.val (.ref a)] []))
  refine Go.step (fun t k => XS.aloadN X0.here hx rfl (hb hby d4_0) rfl rfl k) ?_
  show Go p.tables e below P (s₁.setTop (mkF m 1 #[.val (.ref a)] [(.ref a)]))
  obtain ⟨T_1, X_1, e_1, st_1⟩ := getF X0 hx hZ hown (host := "") (Or.inl (hw _ (List.mem_of_getElem? (i := 11) rfl))) Via.refl e0 F1 (g := (mkF m 1 #[.val (.ref a)] [(.ref a)])) rfl rfl (hb hby d4_1)
  refine Go.step (fun t k => st_1 t k) ?_
  show Go p.tables e below P (T_1.setTop (mkF m 4 #[.val (.ref a)] [(.int ix)]))
  exact retGo X_1 hx hP Bd.returns hlk rfl (Or.inl ⟨rfl, Or.inl rfl, _, rfl⟩) (hb hby d4_4) (by decide) (by decide) (by rw [e_1]; exact ⟨rfl, N0, rfl⟩)
theorem d5_0 : decode prog_50_method_5_code 0 = .ok (.aload_n 0, 1) := by decide +kernel
theorem d5_1 : decode prog_50_method_5_code 1 = .ok (.getfield 17, 3) := by decide +kernel
theorem d5_4 : decode prog_50_method_5_code 4 = .ok (.dreturn, 1) := by decide +kernel
theorem pn_5 : plainName "com/example/fieldroster/fieldroster/policy/Nearest" = true := by first | (simp [plainName, overriddenIn]; done) | decide +kernel
theorem ef_5 (m : MethodId) (x0 : Addr) : entryFrame m #[(.ref x0)] 1 = mkF m 0 #[.val (.ref x0)] [] := by first | (simp [entryFrame, mkF, argsToLocals, Value.category]; done) | rfl
def Q5 (Z : State) (a : Addr) (ds : UInt64) (h0 : Heap) (n0 : Nat) (v : Option Value) (h : Heap) (L : List Loc) : Prop := v = some (.double ds) ∧ Fr n0 L ∧ h = h0
set_option maxRecDepth 65536 in
set_option maxHeartbeats 40000000 in
theorem rm5 (l : Launch) (Z : State) (a0 : Array Value) (hw : ∀ d ∈ tables_1, d.before a0 Z = true) (ws : List Jvm.Cond) (a : Addr) (ds : UInt64) (h0 : Heap) (n0 : Nat) (Z0 : n0 ≤ h0.size) (F1 : Fld Z h0 a "com/example/fieldroster/fieldroster/policy/Nearest" "distance" "D" (.double ds)) :
    MetFree l (⟨"com/example/fieldroster/fieldroster/policy/Nearest", "distance", "()D"⟩ : MethodName) (head1 (Jvm.Cond.code (⟨"com/example/fieldroster/fieldroster/policy/Nearest", "distance", "()D"⟩ : MethodName) prog_50_method_5_code 1 (some .double) :: ws) ({ frames := 0, cells := 0, slots := 0, locals := 0 } : Room)) (fun a_ U => a_ = #[(.ref a)] ∧ Z.Warmed39 U.vm ∧ U.heap = h0) (fun _ _ _ _ _ => True) (fun _ U o U' => ∃ v L, o = .returned v ∧ Q5 Z a ds h0 n0 v U'.heap L ∧ FrameEnd U o U' L (({ frames := 0, cells := 0, slots := 0, locals := 0 } : Room)).cells (({ frames := 0, cells := 0, slots := 0, locals := 0 } : Room)).slots) := by
  refine MetFree.of_bodySF (plainFor_of_name pn_5) hisR ?_
  intro p e s m args below meth c s₁ Bd hml0 hP0 hK
  obtain ⟨rfl, hZ, hh⟩ := hP0
  have hx := Bd.exec
  have hby := Bd.bytes
  have hml : c.maxLocals = 1 := hml0
  have hown : s.vm.findClass "com/example/fieldroster/fieldroster/policy/Nearest" = some m.cls := findClass_of_methodNamed Bd.named
  have hnm := (name_of_methodNamed Bd.named Bd.method).1
  have X0 : Stand p l e ({ frames := 0, cells := 0, slots := 0, locals := 0 } : Room) s m #[(.ref a)] below meth c s₁ [] 0 0 := Stand.of_body Bd
  have e0 : s₁.heap = h0 := by rw [← hh, Bd.state]; rfl
  have N0 := Fr.nil n0
  have hlk : meth.locks = false := BodyLoose.notSynchronized Bd
  refine Go.start (P₀ := fun s₂ o => ∃ v L, o = .returned v ∧ Q5 Z a ds h0 n0 v s₂.heap L ∧ FrameEnd s o s₂ L (({ frames := 0, cells := 0, slots := 0, locals := 0 } : Room)).cells (({ frames := 0, cells := 0, slots := 0, locals := 0 } : Room)).slots) (congrArg s₁.setTop (ef_5 m a)) ?_
  intro P hP
  show Go p.tables e below P (s₁.setTop (mkF m 0 #[.val (.ref a)] []))
  refine Go.step (fun t k => XS.aloadN X0.here hx rfl (hb hby d5_0) rfl rfl k) ?_
  show Go p.tables e below P (s₁.setTop (mkF m 1 #[.val (.ref a)] [(.ref a)]))
  obtain ⟨T_1, X_1, e_1, st_1⟩ := getF X0 hx hZ hown (host := "") (Or.inl (hw _ (List.mem_of_getElem? (i := 14) rfl))) Via.refl e0 F1 (g := (mkF m 1 #[.val (.ref a)] [(.ref a)])) rfl rfl (hb hby d5_1)
  refine Go.step (fun t k => st_1 t k) ?_
  show Go p.tables e below P (T_1.setTop (mkF m 4 #[.val (.ref a)] [(.double ds)]))
  exact retGo X_1 hx hP Bd.returns hlk rfl (Or.inr (Or.inr (Or.inl ⟨rfl, rfl, _, rfl⟩))) (hb hby d5_4) (by decide) (by decide) (by rw [e_1]; exact ⟨rfl, N0, rfl⟩)
theorem pn_0 : plainName "com/example/fieldroster/fieldroster/policy/NearestOfferPinLaw" = true := by first | (simp [plainName, overriddenIn]; done) | decide +kernel
theorem ef_0 (m : MethodId) (x0 : Int32) (x1 : Int32) (x2 : Int32) (x3 : Int32) (x4 : Int32) (x5 : Int32) : entryFrame m #[(.int x0), (.int x1), (.int x2), (.int x3), (.int x4), (.int x5)] maxLocals = mkF m 0 #[.val (.int x0), .val (.int x1), .val (.int x2), .val (.int x3), .val (.int x4), .val (.int x5), .unset, .unset, .unset, .unset, .unset, .unset, .unset, .unset, .unset, .unset, .unset, .unset, .unset, .unset, .unset, .unset, .unset, .unset] [] := by first | (simp [entryFrame, mkF, argsToLocals, Value.category, maxLocals]; done) | rfl
def Q0 (Z : State) (p1 : Int32) (p2 : Int32) (p3 : Int32) (p4 : Int32) (p5 : Int32) (p6 : Int32) (h0 : Heap) (n0 : Nat) (v : Option Value) (h : Heap) (L : List Loc) : Prop := v = some (.int 1) ∧ Fr n0 L
set_option maxRecDepth 65536 in
set_option maxHeartbeats 40000000 in
theorem rm0 (l : Launch) (Z : State) (a0 : Array Value) (hw : ∀ d ∈ tables_1, d.before a0 Z = true) (ws : List Jvm.Cond) (p1 : Int32) (p2 : Int32) (p3 : Int32) (p4 : Int32) (p5 : Int32) (p6 : Int32) (h0 : Heap) (n0 : Nat) (Z0 : n0 ≤ h0.size) :
    MetFree l x (head1 (Jvm.Cond.code x code maxLocals ret :: ws) room_1) (fun a_ U => a_ = #[(.int p1), (.int p2), (.int p3), (.int p4), (.int p5), (.int p6)] ∧ Z.Warmed39 U.vm ∧ U.heap = h0) (fun _ _ _ _ _ => True) (fun _ U o U' => ∃ v L, o = .returned v ∧ Q0 Z p1 p2 p3 p4 p5 p6 h0 n0 v U'.heap L ∧ FrameEnd U o U' L 16 128) := by
  refine MetFree.of_bodySF (plainFor_of_name pn_0) hisR ?_
  intro p e s m args below meth c s₁ Bd hml0 hP0 hK
  obtain ⟨rfl, hZ, hh⟩ := hP0
  have hx := Bd.exec
  have hby := Bd.bytes
  have hml : c.maxLocals = 24 := hml0
  have hown : s.vm.findClass "com/example/fieldroster/fieldroster/policy/NearestOfferPinLaw" = some m.cls := findClass_of_methodNamed Bd.named
  have hnm := (name_of_methodNamed Bd.named Bd.method).1
  have X0 : Stand p l e room_1 s m #[(.int p1), (.int p2), (.int p3), (.int p4), (.int p5), (.int p6)] below meth c s₁ [] 0 0 := Stand.of_body Bd
  have e0 : s₁.heap = h0 := by rw [← hh, Bd.state]; rfl
  have N0 := Fr.nil n0
  have hlk : meth.locks = false := BodyLoose.notSynchronized Bd
  refine Go.start (P₀ := fun s₂ o => ∃ v L, o = .returned v ∧ Q0 Z p1 p2 p3 p4 p5 p6 h0 n0 v s₂.heap L ∧ FrameEnd s o s₂ L 16 128) (congrArg s₁.setTop (ef_0 m p1 p2 p3 p4 p5 p6)) ?_
  intro P hP
  show Go p.tables e below P (s₁.setTop (mkF m 0 #[.val (.int p1), .val (.int p2), .val (.int p3), .val (.int p4), .val (.int p5), .val (.int p6), .unset, .unset, .unset, .unset, .unset, .unset, .unset, .unset, .unset, .unset, .unset, .unset, .unset, .unset, .unset, .unset, .unset, .unset] []))
  have em1 : (-1 : Int32).toInt = -1 := rfl
  refine Go.step (fun t k => XS.iloadN X0.here hx rfl (hb hby at_0) rfl  k) ?_
  show Go p.tables e below P (s₁.setTop (mkF m 1 #[.val (.int p1), .val (.int p2), .val (.int p3), .val (.int p4), .val (.int p5), .val (.int p6), .unset, .unset, .unset, .unset, .unset, .unset, .unset, .unset, .unset, .unset, .unset, .unset, .unset, .unset, .unset, .unset, .unset, .unset] [(.int p1)]))
  refine Go.step (fun t k => X0.ldcInt hx hown (mvT hZ (hw _ (List.mem_of_getElem? (i := 0) rfl))) (g := (mkF m 1 #[.val (.int p1), .val (.int p2), .val (.int p3), .val (.int p4), .val (.int p5), .val (.int p6), .unset, .unset, .unset, .unset, .unset, .unset, .unset, .unset, .unset, .unset, .unset, .unset, .unset, .unset, .unset, .unset, .unset, .unset] [(.int p1)])) rfl (hb hby at_1) t k) ?_
  show Go p.tables e below P (s₁.setTop (mkF m 3 #[.val (.int p1), .val (.int p2), .val (.int p3), .val (.int p4), .val (.int p5), .val (.int p6), .unset, .unset, .unset, .unset, .unset, .unset, .unset, .unset, .unset, .unset, .unset, .unset, .unset, .unset, .unset, .unset, .unset, .unset] [(.int (1073741823 : Int32)), (.int p1)]))
  obtain ⟨i3, hi3⟩ : ∃ z : Int32, p1 &&& (1073741823 : Int32) = z := ⟨_, rfl⟩
  refine Go.step (fun t k => iand_v X0.here hx rfl (hb hby at_3) rfl  hi3 k) ?_
  show Go p.tables e below P (s₁.setTop (mkF m 4 #[.val (.int p1), .val (.int p2), .val (.int p3), .val (.int p4), .val (.int p5), .val (.int p6), .unset, .unset, .unset, .unset, .unset, .unset, .unset, .unset, .unset, .unset, .unset, .unset, .unset, .unset, .unset, .unset, .unset, .unset] [(.int i3)]))
  refine Go.step (fun t k => XS.istore X0.here hx rfl (hb hby at_4) rfl (l' := #[.val (.int p1), .val (.int p2), .val (.int p3), .val (.int p4), .val (.int p5), .val (.int p6), .val (.int i3), .unset, .unset, .unset, .unset, .unset, .unset, .unset, .unset, .unset, .unset, .unset, .unset, .unset, .unset, .unset, .unset, .unset]) rfl k) ?_
  show Go p.tables e below P (s₁.setTop (mkF m 6 #[.val (.int p1), .val (.int p2), .val (.int p3), .val (.int p4), .val (.int p5), .val (.int p6), .val (.int i3), .unset, .unset, .unset, .unset, .unset, .unset, .unset, .unset, .unset, .unset, .unset, .unset, .unset, .unset, .unset, .unset, .unset] []))
  refine Go.step (fun t k => XS.iloadN X0.here hx rfl (hb hby at_6) rfl  k) ?_
  show Go p.tables e below P (s₁.setTop (mkF m 7 #[.val (.int p1), .val (.int p2), .val (.int p3), .val (.int p4), .val (.int p5), .val (.int p6), .val (.int i3), .unset, .unset, .unset, .unset, .unset, .unset, .unset, .unset, .unset, .unset, .unset, .unset, .unset, .unset, .unset, .unset, .unset] [(.int p2)]))
  refine Go.step (fun t k => X0.ldcInt hx hown (mvT hZ (hw _ (List.mem_of_getElem? (i := 0) rfl))) (g := (mkF m 7 #[.val (.int p1), .val (.int p2), .val (.int p3), .val (.int p4), .val (.int p5), .val (.int p6), .val (.int i3), .unset, .unset, .unset, .unset, .unset, .unset, .unset, .unset, .unset, .unset, .unset, .unset, .unset, .unset, .unset, .unset, .unset] [(.int p2)])) rfl (hb hby at_7) t k) ?_
  show Go p.tables e below P (s₁.setTop (mkF m 9 #[.val (.int p1), .val (.int p2), .val (.int p3), .val (.int p4), .val (.int p5), .val (.int p6), .val (.int i3), .unset, .unset, .unset, .unset, .unset, .unset, .unset, .unset, .unset, .unset, .unset, .unset, .unset, .unset, .unset, .unset, .unset] [(.int (1073741823 : Int32)), (.int p2)]))
  obtain ⟨i9, hi9⟩ : ∃ z : Int32, p2 &&& (1073741823 : Int32) = z := ⟨_, rfl⟩
  refine Go.step (fun t k => iand_v X0.here hx rfl (hb hby at_9) rfl  hi9 k) ?_
  show Go p.tables e below P (s₁.setTop (mkF m 10 #[.val (.int p1), .val (.int p2), .val (.int p3), .val (.int p4), .val (.int p5), .val (.int p6), .val (.int i3), .unset, .unset, .unset, .unset, .unset, .unset, .unset, .unset, .unset, .unset, .unset, .unset, .unset, .unset, .unset, .unset, .unset] [(.int i9)]))
  refine Go.step (fun t k => XS.istore X0.here hx rfl (hb hby at_10) rfl (l' := #[.val (.int p1), .val (.int p2), .val (.int p3), .val (.int p4), .val (.int p5), .val (.int p6), .val (.int i3), .val (.int i9), .unset, .unset, .unset, .unset, .unset, .unset, .unset, .unset, .unset, .unset, .unset, .unset, .unset, .unset, .unset, .unset]) rfl k) ?_
  show Go p.tables e below P (s₁.setTop (mkF m 12 #[.val (.int p1), .val (.int p2), .val (.int p3), .val (.int p4), .val (.int p5), .val (.int p6), .val (.int i3), .val (.int i9), .unset, .unset, .unset, .unset, .unset, .unset, .unset, .unset, .unset, .unset, .unset, .unset, .unset, .unset, .unset, .unset] []))
  refine Go.step (fun t k => XS.iloadN X0.here hx rfl (hb hby at_12) rfl  k) ?_
  show Go p.tables e below P (s₁.setTop (mkF m 13 #[.val (.int p1), .val (.int p2), .val (.int p3), .val (.int p4), .val (.int p5), .val (.int p6), .val (.int i3), .val (.int i9), .unset, .unset, .unset, .unset, .unset, .unset, .unset, .unset, .unset, .unset, .unset, .unset, .unset, .unset, .unset, .unset] [(.int p3)]))
  refine Go.step (fun t k => X0.ldcInt hx hown (mvT hZ (hw _ (List.mem_of_getElem? (i := 0) rfl))) (g := (mkF m 13 #[.val (.int p1), .val (.int p2), .val (.int p3), .val (.int p4), .val (.int p5), .val (.int p6), .val (.int i3), .val (.int i9), .unset, .unset, .unset, .unset, .unset, .unset, .unset, .unset, .unset, .unset, .unset, .unset, .unset, .unset, .unset, .unset] [(.int p3)])) rfl (hb hby at_13) t k) ?_
  show Go p.tables e below P (s₁.setTop (mkF m 15 #[.val (.int p1), .val (.int p2), .val (.int p3), .val (.int p4), .val (.int p5), .val (.int p6), .val (.int i3), .val (.int i9), .unset, .unset, .unset, .unset, .unset, .unset, .unset, .unset, .unset, .unset, .unset, .unset, .unset, .unset, .unset, .unset] [(.int (1073741823 : Int32)), (.int p3)]))
  obtain ⟨i15, hi15⟩ : ∃ z : Int32, p3 &&& (1073741823 : Int32) = z := ⟨_, rfl⟩
  refine Go.step (fun t k => iand_v X0.here hx rfl (hb hby at_15) rfl  hi15 k) ?_
  show Go p.tables e below P (s₁.setTop (mkF m 16 #[.val (.int p1), .val (.int p2), .val (.int p3), .val (.int p4), .val (.int p5), .val (.int p6), .val (.int i3), .val (.int i9), .unset, .unset, .unset, .unset, .unset, .unset, .unset, .unset, .unset, .unset, .unset, .unset, .unset, .unset, .unset, .unset] [(.int i15)]))
  refine Go.step (fun t k => XS.istore X0.here hx rfl (hb hby at_16) rfl (l' := #[.val (.int p1), .val (.int p2), .val (.int p3), .val (.int p4), .val (.int p5), .val (.int p6), .val (.int i3), .val (.int i9), .val (.int i15), .unset, .unset, .unset, .unset, .unset, .unset, .unset, .unset, .unset, .unset, .unset, .unset, .unset, .unset, .unset]) rfl k) ?_
  show Go p.tables e below P (s₁.setTop (mkF m 18 #[.val (.int p1), .val (.int p2), .val (.int p3), .val (.int p4), .val (.int p5), .val (.int p6), .val (.int i3), .val (.int i9), .val (.int i15), .unset, .unset, .unset, .unset, .unset, .unset, .unset, .unset, .unset, .unset, .unset, .unset, .unset, .unset, .unset] []))
  refine Go.step (fun t k => XS.iloadN X0.here hx rfl (hb hby at_18) rfl  k) ?_
  show Go p.tables e below P (s₁.setTop (mkF m 19 #[.val (.int p1), .val (.int p2), .val (.int p3), .val (.int p4), .val (.int p5), .val (.int p6), .val (.int i3), .val (.int i9), .val (.int i15), .unset, .unset, .unset, .unset, .unset, .unset, .unset, .unset, .unset, .unset, .unset, .unset, .unset, .unset, .unset] [(.int p2)]))
  refine Go.step (fun t k => XS.bipush X0.here hx rfl (hb hby at_19) k) ?_
  show Go p.tables e below P (s₁.setTop (mkF m 21 #[.val (.int p1), .val (.int p2), .val (.int p3), .val (.int p4), .val (.int p5), .val (.int p6), .val (.int i3), .val (.int i9), .val (.int i15), .unset, .unset, .unset, .unset, .unset, .unset, .unset, .unset, .unset, .unset, .unset, .unset, .unset, .unset, .unset] [(.int (30 : Int32)), (.int p2)]))
  obtain ⟨i21, hi21⟩ : ∃ z : Int32, ((p2.toUInt32 >>> ((30 : Int32) &&& 31).toUInt32).toInt32) = z := ⟨_, rfl⟩
  refine Go.step (fun t k => iushr_v X0.here hx rfl (hb hby at_21) rfl  hi21 k) ?_
  show Go p.tables e below P (s₁.setTop (mkF m 22 #[.val (.int p1), .val (.int p2), .val (.int p3), .val (.int p4), .val (.int p5), .val (.int p6), .val (.int i3), .val (.int i9), .val (.int i15), .unset, .unset, .unset, .unset, .unset, .unset, .unset, .unset, .unset, .unset, .unset, .unset, .unset, .unset, .unset] [(.int i21)]))
  refine Go.step (fun t k => XS.istore X0.here hx rfl (hb hby at_22) rfl (l' := #[.val (.int p1), .val (.int p2), .val (.int p3), .val (.int p4), .val (.int p5), .val (.int p6), .val (.int i3), .val (.int i9), .val (.int i15), .val (.int i21), .unset, .unset, .unset, .unset, .unset, .unset, .unset, .unset, .unset, .unset, .unset, .unset, .unset, .unset]) rfl k) ?_
  show Go p.tables e below P (s₁.setTop (mkF m 24 #[.val (.int p1), .val (.int p2), .val (.int p3), .val (.int p4), .val (.int p5), .val (.int p6), .val (.int i3), .val (.int i9), .val (.int i15), .val (.int i21), .unset, .unset, .unset, .unset, .unset, .unset, .unset, .unset, .unset, .unset, .unset, .unset, .unset, .unset] []))
  have f3 := c_mask p1 (1073741823 : Int32) 30 (by decide) rfl; rw [hi3] at f3
  have f9 := c_mask p2 (1073741823 : Int32) 30 (by decide) rfl; rw [hi9] at f9
  have f15 := c_mask p3 (1073741823 : Int32) 30 (by decide) rfl; rw [hi15] at f15
  have b3 : 0 ≤ i3.toInt := by omega
  have b9 : 0 ≤ i9.toInt := by omega
  have b15 : 0 ≤ i15.toInt := by omega
  have f21 := c_iushr p2 (30 : Int32) 30 rfl (by decide); rw [hi21] at f21
  have b21 : 0 ≤ i21.toInt ∧ i21.toInt ≤ 3 := by omega
  clear f3 f9 f15 f21
  refine Go.step (fun t k => X0.ldc2DoubleC hx hown (mvT hZ (hw _ (List.mem_of_getElem? (i := 1) rfl))) (g := (mkF m 24 #[.val (.int p1), .val (.int p2), .val (.int p3), .val (.int p4), .val (.int p5), .val (.int p6), .val (.int i3), .val (.int i9), .val (.int i15), .val (.int i21), .unset, .unset, .unset, .unset, .unset, .unset, .unset, .unset, .unset, .unset, .unset, .unset, .unset, .unset] [])) rfl (hb hby at_24) t k) ?_
  show Go p.tables e below P (s₁.setTop (mkF m 27 #[.val (.int p1), .val (.int p2), .val (.int p3), .val (.int p4), .val (.int p5), .val (.int p6), .val (.int i3), .val (.int i9), .val (.int i15), .val (.int i21), .unset, .unset, .unset, .unset, .unset, .unset, .unset, .unset, .unset, .unset, .unset, .unset, .unset, .unset] [(.double (9218868437227405312 : UInt64))]))
  refine Go.step (fun t k => XS.dstore X0.here hx rfl (hb hby at_27) rfl (l' := #[.val (.int p1), .val (.int p2), .val (.int p3), .val (.int p4), .val (.int p5), .val (.int p6), .val (.int i3), .val (.int i9), .val (.int i15), .val (.int i21), .val (.double (9218868437227405312 : UInt64)), .second, .unset, .unset, .unset, .unset, .unset, .unset, .unset, .unset, .unset, .unset, .unset, .unset]) rfl k) ?_
  show Go p.tables e below P (s₁.setTop (mkF m 29 #[.val (.int p1), .val (.int p2), .val (.int p3), .val (.int p4), .val (.int p5), .val (.int p6), .val (.int i3), .val (.int i9), .val (.int i15), .val (.int i21), .val (.double (9218868437227405312 : UInt64)), .second, .unset, .unset, .unset, .unset, .unset, .unset, .unset, .unset, .unset, .unset, .unset, .unset] []))
  refine Go.step (fun t k => XS.iloadN X0.here hx rfl (hb hby at_29) rfl  k) ?_
  show Go p.tables e below P (s₁.setTop (mkF m 30 #[.val (.int p1), .val (.int p2), .val (.int p3), .val (.int p4), .val (.int p5), .val (.int p6), .val (.int i3), .val (.int i9), .val (.int i15), .val (.int i21), .val (.double (9218868437227405312 : UInt64)), .second, .unset, .unset, .unset, .unset, .unset, .unset, .unset, .unset, .unset, .unset, .unset, .unset] [(.int p1)]))
  refine Go.step (fun t k => XS.bipush X0.here hx rfl (hb hby at_30) k) ?_
  show Go p.tables e below P (s₁.setTop (mkF m 32 #[.val (.int p1), .val (.int p2), .val (.int p3), .val (.int p4), .val (.int p5), .val (.int p6), .val (.int i3), .val (.int i9), .val (.int i15), .val (.int i21), .val (.double (9218868437227405312 : UInt64)), .second, .unset, .unset, .unset, .unset, .unset, .unset, .unset, .unset, .unset, .unset, .unset, .unset] [(.int (30 : Int32)), (.int p1)]))
  obtain ⟨i32, hi32⟩ : ∃ z : Int32, ((p1.toUInt32 >>> ((30 : Int32) &&& 31).toUInt32).toInt32) = z := ⟨_, rfl⟩
  refine Go.step (fun t k => iushr_v X0.here hx rfl (hb hby at_32) rfl  hi32 k) ?_
  show Go p.tables e below P (s₁.setTop (mkF m 33 #[.val (.int p1), .val (.int p2), .val (.int p3), .val (.int p4), .val (.int p5), .val (.int p6), .val (.int i3), .val (.int i9), .val (.int i15), .val (.int i21), .val (.double (9218868437227405312 : UInt64)), .second, .unset, .unset, .unset, .unset, .unset, .unset, .unset, .unset, .unset, .unset, .unset, .unset] [(.int i32)]))
  refine Go.step (fun t k => XS.iconst X0.here hx rfl (hb hby at_33) k) ?_
  show Go p.tables e below P (s₁.setTop (mkF m 34 #[.val (.int p1), .val (.int p2), .val (.int p3), .val (.int p4), .val (.int p5), .val (.int p6), .val (.int i3), .val (.int i9), .val (.int i15), .val (.int i21), .val (.double (9218868437227405312 : UInt64)), .second, .unset, .unset, .unset, .unset, .unset, .unset, .unset, .unset, .unset, .unset, .unset, .unset] [(.int (1 : Int32)), (.int i32)]))
  obtain ⟨i34, hi34⟩ : ∃ z : Int32, i32 &&& (1 : Int32) = z := ⟨_, rfl⟩
  refine Go.step (fun t k => iand_v X0.here hx rfl (hb hby at_34) rfl  hi34 k) ?_
  show Go p.tables e below P (s₁.setTop (mkF m 35 #[.val (.int p1), .val (.int p2), .val (.int p3), .val (.int p4), .val (.int p5), .val (.int p6), .val (.int i3), .val (.int i9), .val (.int i15), .val (.int i21), .val (.double (9218868437227405312 : UInt64)), .second, .unset, .unset, .unset, .unset, .unset, .unset, .unset, .unset, .unset, .unset, .unset, .unset] [(.int i34)]))
  have J45 : ∀ (x0 : UInt64), FP.Core.val64 x0 ≠ .nan → Go p.tables e below P (s₁.setTop (mkF m 45 #[.val (.int p1), .val (.int p2), .val (.int p3), .val (.int p4), .val (.int p5), .val (.int p6), .val (.int i3), .val (.int i9), .val (.int i15), .val (.int i21), .val (.double (9218868437227405312 : UInt64)), .second, .unset, .unset, .unset, .unset, .unset, .unset, .unset, .unset, .unset, .unset, .unset, .unset] [(.double x0)])) := by
    intro x0 hx0
    show Go p.tables e below P (s₁.setTop (mkF m 45 #[.val (.int p1), .val (.int p2), .val (.int p3), .val (.int p4), .val (.int p5), .val (.int p6), .val (.int i3), .val (.int i9), .val (.int i15), .val (.int i21), .val (.double (9218868437227405312 : UInt64)), .second, .unset, .unset, .unset, .unset, .unset, .unset, .unset, .unset, .unset, .unset, .unset, .unset] [(.double x0)]))
    refine Go.step (fun t k => XS.dstore X0.here hx rfl (hb hby at_45) rfl (l' := #[.val (.int p1), .val (.int p2), .val (.int p3), .val (.int p4), .val (.int p5), .val (.int p6), .val (.int i3), .val (.int i9), .val (.int i15), .val (.int i21), .val (.double (9218868437227405312 : UInt64)), .second, .val (.double x0), .second, .unset, .unset, .unset, .unset, .unset, .unset, .unset, .unset, .unset, .unset]) rfl k) ?_
    show Go p.tables e below P (s₁.setTop (mkF m 47 #[.val (.int p1), .val (.int p2), .val (.int p3), .val (.int p4), .val (.int p5), .val (.int p6), .val (.int i3), .val (.int i9), .val (.int i15), .val (.int i21), .val (.double (9218868437227405312 : UInt64)), .second, .val (.double x0), .second, .unset, .unset, .unset, .unset, .unset, .unset, .unset, .unset, .unset, .unset] []))
    refine Go.step (fun t k => XS.iloadN X0.here hx rfl (hb hby at_47) rfl  k) ?_
    show Go p.tables e below P (s₁.setTop (mkF m 48 #[.val (.int p1), .val (.int p2), .val (.int p3), .val (.int p4), .val (.int p5), .val (.int p6), .val (.int i3), .val (.int i9), .val (.int i15), .val (.int i21), .val (.double (9218868437227405312 : UInt64)), .second, .val (.double x0), .second, .unset, .unset, .unset, .unset, .unset, .unset, .unset, .unset, .unset, .unset] [(.int p1)]))
    refine Go.step (fun t k => XS.bipush X0.here hx rfl (hb hby at_48) k) ?_
    show Go p.tables e below P (s₁.setTop (mkF m 50 #[.val (.int p1), .val (.int p2), .val (.int p3), .val (.int p4), .val (.int p5), .val (.int p6), .val (.int i3), .val (.int i9), .val (.int i15), .val (.int i21), .val (.double (9218868437227405312 : UInt64)), .second, .val (.double x0), .second, .unset, .unset, .unset, .unset, .unset, .unset, .unset, .unset, .unset, .unset] [(.int (30 : Int32)), (.int p1)]))
    obtain ⟨i50, hi50⟩ : ∃ z : Int32, ((p1.toUInt32 >>> ((30 : Int32) &&& 31).toUInt32).toInt32) = z := ⟨_, rfl⟩
    refine Go.step (fun t k => iushr_v X0.here hx rfl (hb hby at_50) rfl  hi50 k) ?_
    show Go p.tables e below P (s₁.setTop (mkF m 51 #[.val (.int p1), .val (.int p2), .val (.int p3), .val (.int p4), .val (.int p5), .val (.int p6), .val (.int i3), .val (.int i9), .val (.int i15), .val (.int i21), .val (.double (9218868437227405312 : UInt64)), .second, .val (.double x0), .second, .unset, .unset, .unset, .unset, .unset, .unset, .unset, .unset, .unset, .unset] [(.int i50)]))
    refine Go.step (fun t k => XS.iconst X0.here hx rfl (hb hby at_51) k) ?_
    show Go p.tables e below P (s₁.setTop (mkF m 52 #[.val (.int p1), .val (.int p2), .val (.int p3), .val (.int p4), .val (.int p5), .val (.int p6), .val (.int i3), .val (.int i9), .val (.int i15), .val (.int i21), .val (.double (9218868437227405312 : UInt64)), .second, .val (.double x0), .second, .unset, .unset, .unset, .unset, .unset, .unset, .unset, .unset, .unset, .unset] [(.int (2 : Int32)), (.int i50)]))
    obtain ⟨i52, hi52⟩ : ∃ z : Int32, i50 &&& (2 : Int32) = z := ⟨_, rfl⟩
    refine Go.step (fun t k => iand_v X0.here hx rfl (hb hby at_52) rfl  hi52 k) ?_
    show Go p.tables e below P (s₁.setTop (mkF m 53 #[.val (.int p1), .val (.int p2), .val (.int p3), .val (.int p4), .val (.int p5), .val (.int p6), .val (.int i3), .val (.int i9), .val (.int i15), .val (.int i21), .val (.double (9218868437227405312 : UInt64)), .second, .val (.double x0), .second, .unset, .unset, .unset, .unset, .unset, .unset, .unset, .unset, .unset, .unset] [(.int i52)]))
    have J64 : ∀ (x1 : UInt64), FP.Core.val64 x1 ≠ .nan → Go p.tables e below P (s₁.setTop (mkF m 64 #[.val (.int p1), .val (.int p2), .val (.int p3), .val (.int p4), .val (.int p5), .val (.int p6), .val (.int i3), .val (.int i9), .val (.int i15), .val (.int i21), .val (.double (9218868437227405312 : UInt64)), .second, .val (.double x0), .second, .unset, .unset, .unset, .unset, .unset, .unset, .unset, .unset, .unset, .unset] [(.double x1)])) := by
      intro x1 hx1
      show Go p.tables e below P (s₁.setTop (mkF m 64 #[.val (.int p1), .val (.int p2), .val (.int p3), .val (.int p4), .val (.int p5), .val (.int p6), .val (.int i3), .val (.int i9), .val (.int i15), .val (.int i21), .val (.double (9218868437227405312 : UInt64)), .second, .val (.double x0), .second, .unset, .unset, .unset, .unset, .unset, .unset, .unset, .unset, .unset, .unset] [(.double x1)]))
      refine Go.step (fun t k => XS.dstore X0.here hx rfl (hb hby at_64) rfl (l' := #[.val (.int p1), .val (.int p2), .val (.int p3), .val (.int p4), .val (.int p5), .val (.int p6), .val (.int i3), .val (.int i9), .val (.int i15), .val (.int i21), .val (.double (9218868437227405312 : UInt64)), .second, .val (.double x0), .second, .val (.double x1), .second, .unset, .unset, .unset, .unset, .unset, .unset, .unset, .unset]) rfl k) ?_
      show Go p.tables e below P (s₁.setTop (mkF m 66 #[.val (.int p1), .val (.int p2), .val (.int p3), .val (.int p4), .val (.int p5), .val (.int p6), .val (.int i3), .val (.int i9), .val (.int i15), .val (.int i21), .val (.double (9218868437227405312 : UInt64)), .second, .val (.double x0), .second, .val (.double x1), .second, .unset, .unset, .unset, .unset, .unset, .unset, .unset, .unset] []))
      refine Go.step (fun t k => XS.iloadN X0.here hx rfl (hb hby at_66) rfl  k) ?_
      show Go p.tables e below P (s₁.setTop (mkF m 67 #[.val (.int p1), .val (.int p2), .val (.int p3), .val (.int p4), .val (.int p5), .val (.int p6), .val (.int i3), .val (.int i9), .val (.int i15), .val (.int i21), .val (.double (9218868437227405312 : UInt64)), .second, .val (.double x0), .second, .val (.double x1), .second, .unset, .unset, .unset, .unset, .unset, .unset, .unset, .unset] [(.int p3)]))
      refine Go.step (fun t k => XS.bipush X0.here hx rfl (hb hby at_67) k) ?_
      show Go p.tables e below P (s₁.setTop (mkF m 69 #[.val (.int p1), .val (.int p2), .val (.int p3), .val (.int p4), .val (.int p5), .val (.int p6), .val (.int i3), .val (.int i9), .val (.int i15), .val (.int i21), .val (.double (9218868437227405312 : UInt64)), .second, .val (.double x0), .second, .val (.double x1), .second, .unset, .unset, .unset, .unset, .unset, .unset, .unset, .unset] [(.int (30 : Int32)), (.int p3)]))
      obtain ⟨i69, hi69⟩ : ∃ z : Int32, ((p3.toUInt32 >>> ((30 : Int32) &&& 31).toUInt32).toInt32) = z := ⟨_, rfl⟩
      refine Go.step (fun t k => iushr_v X0.here hx rfl (hb hby at_69) rfl  hi69 k) ?_
      show Go p.tables e below P (s₁.setTop (mkF m 70 #[.val (.int p1), .val (.int p2), .val (.int p3), .val (.int p4), .val (.int p5), .val (.int p6), .val (.int i3), .val (.int i9), .val (.int i15), .val (.int i21), .val (.double (9218868437227405312 : UInt64)), .second, .val (.double x0), .second, .val (.double x1), .second, .unset, .unset, .unset, .unset, .unset, .unset, .unset, .unset] [(.int i69)]))
      refine Go.step (fun t k => XS.iconst X0.here hx rfl (hb hby at_70) k) ?_
      show Go p.tables e below P (s₁.setTop (mkF m 71 #[.val (.int p1), .val (.int p2), .val (.int p3), .val (.int p4), .val (.int p5), .val (.int p6), .val (.int i3), .val (.int i9), .val (.int i15), .val (.int i21), .val (.double (9218868437227405312 : UInt64)), .second, .val (.double x0), .second, .val (.double x1), .second, .unset, .unset, .unset, .unset, .unset, .unset, .unset, .unset] [(.int (1 : Int32)), (.int i69)]))
      obtain ⟨i71, hi71⟩ : ∃ z : Int32, i69 &&& (1 : Int32) = z := ⟨_, rfl⟩
      refine Go.step (fun t k => iand_v X0.here hx rfl (hb hby at_71) rfl  hi71 k) ?_
      show Go p.tables e below P (s₁.setTop (mkF m 72 #[.val (.int p1), .val (.int p2), .val (.int p3), .val (.int p4), .val (.int p5), .val (.int p6), .val (.int i3), .val (.int i9), .val (.int i15), .val (.int i21), .val (.double (9218868437227405312 : UInt64)), .second, .val (.double x0), .second, .val (.double x1), .second, .unset, .unset, .unset, .unset, .unset, .unset, .unset, .unset] [(.int i71)]))
      have J83 : ∀ (x2 : UInt64), FP.Core.val64 x2 ≠ .nan → Go p.tables e below P (s₁.setTop (mkF m 83 #[.val (.int p1), .val (.int p2), .val (.int p3), .val (.int p4), .val (.int p5), .val (.int p6), .val (.int i3), .val (.int i9), .val (.int i15), .val (.int i21), .val (.double (9218868437227405312 : UInt64)), .second, .val (.double x0), .second, .val (.double x1), .second, .unset, .unset, .unset, .unset, .unset, .unset, .unset, .unset] [(.double x2)])) := by
        intro x2 hx2
        show Go p.tables e below P (s₁.setTop (mkF m 83 #[.val (.int p1), .val (.int p2), .val (.int p3), .val (.int p4), .val (.int p5), .val (.int p6), .val (.int i3), .val (.int i9), .val (.int i15), .val (.int i21), .val (.double (9218868437227405312 : UInt64)), .second, .val (.double x0), .second, .val (.double x1), .second, .unset, .unset, .unset, .unset, .unset, .unset, .unset, .unset] [(.double x2)]))
        refine Go.step (fun t k => XS.dstore X0.here hx rfl (hb hby at_83) rfl (l' := #[.val (.int p1), .val (.int p2), .val (.int p3), .val (.int p4), .val (.int p5), .val (.int p6), .val (.int i3), .val (.int i9), .val (.int i15), .val (.int i21), .val (.double (9218868437227405312 : UInt64)), .second, .val (.double x0), .second, .val (.double x1), .second, .val (.double x2), .second, .unset, .unset, .unset, .unset, .unset, .unset]) rfl k) ?_
        show Go p.tables e below P (s₁.setTop (mkF m 85 #[.val (.int p1), .val (.int p2), .val (.int p3), .val (.int p4), .val (.int p5), .val (.int p6), .val (.int i3), .val (.int i9), .val (.int i15), .val (.int i21), .val (.double (9218868437227405312 : UInt64)), .second, .val (.double x0), .second, .val (.double x1), .second, .val (.double x2), .second, .unset, .unset, .unset, .unset, .unset, .unset] []))
        obtain ⟨T_1, h_1, X_1, e_1, E_1, A_1, D_1, -, st_1⟩ := newO X0 hx hZ hown (hw _ (List.mem_of_getElem? (i := 2) rfl)) (hw _ (List.mem_of_getElem? (i := 3) rfl)) (hw _ (List.mem_of_getElem? (i := 4) rfl)) e0 (g := (mkF m 85 #[.val (.int p1), .val (.int p2), .val (.int p3), .val (.int p4), .val (.int p5), .val (.int p6), .val (.int i3), .val (.int i9), .val (.int i15), .val (.int i21), .val (.double (9218868437227405312 : UInt64)), .second, .val (.double x0), .second, .val (.double x1), .second, .val (.double x2), .second, .unset, .unset, .unset, .unset, .unset, .unset] [])) rfl (hb hby at_85) (by decide) (by decide)
        obtain ⟨b_1, g_1⟩ : ∃ z, z = h0.size := ⟨_, rfl⟩
        rw [← g_1] at A_1 D_1 st_1
        have g_b_1 : n0 ≤ b_1 := Nat.le_trans Z0 (Nat.le_of_eq g_1.symm)
        have sz_b_1 : h0.size ≤ b_1 := Nat.le_trans (Keep.refl h0 []).1 (Nat.le_of_eq g_1.symm)
        have F_index_b_1 : Fld Z h_1 b_1 "com/example/fieldroster/fieldroster/policy/Nearest" "index" "I" (.int (0 : Int32)) := D_1 (Or.inl (hw _ (List.mem_of_getElem? (i := 12) rfl))) (ty := .int) (by decide)
        have F_distance_b_1 : Fld Z h_1 b_1 "com/example/fieldroster/fieldroster/policy/Nearest" "distance" "D" (.double (0 : UInt64)) := D_1 (Or.inl (hw _ (List.mem_of_getElem? (i := 15) rfl))) (ty := .double) (by decide)
        have K_1 : Keep h0 h_1 [] := (Keep.refl h0 []).ext E_1
        have Z_1 : n0 ≤ h_1.size := Nat.le_trans Z0 E_1.1
        refine Go.step (fun t k => st_1 t k) ?_
        show Go p.tables e below P (T_1.setTop (mkF m 88 #[.val (.int p1), .val (.int p2), .val (.int p3), .val (.int p4), .val (.int p5), .val (.int p6), .val (.int i3), .val (.int i9), .val (.int i15), .val (.int i21), .val (.double (9218868437227405312 : UInt64)), .second, .val (.double x0), .second, .val (.double x1), .second, .val (.double x2), .second, .unset, .unset, .unset, .unset, .unset, .unset] [(.ref b_1)]))
        refine Go.step (fun t k => XS.dup X_1.here hx rfl (hb hby at_88) rfl rfl k) ?_
        show Go p.tables e below P (T_1.setTop (mkF m 89 #[.val (.int p1), .val (.int p2), .val (.int p3), .val (.int p4), .val (.int p5), .val (.int p6), .val (.int i3), .val (.int i9), .val (.int i15), .val (.int i21), .val (.double (9218868437227405312 : UInt64)), .second, .val (.double x0), .second, .val (.double x1), .second, .val (.double x2), .second, .unset, .unset, .unset, .unset, .unset, .unset] [(.ref b_1), (.ref b_1)]))
        obtain ⟨_, _, ⟨T_2, L_2, k_2, n_2⟩, -, X_2, ⟨Lc_2, hQ_2, l_2, y_2, z_2⟩, st_2⟩ := X_1.specialBack hx (y := (⟨"com/example/fieldroster/fieldroster/policy/Nearest", "<init>", "()V"⟩ : MethodName)) rfl hown (mvT hZ (hw _ (List.mem_of_getElem? (i := 5) rfl))) (mvT hZ (hw _ (List.mem_of_getElem? (i := 6) rfl))) (mvT hZ (hw _ (List.mem_of_getElem? (i := 7) rfl))) (by decide) (backOf (W := 1) (rm1 l Z a0 hw [] b_1 h_1 n0 Z_1 A_1 F_index_b_1 F_distance_b_1 g_b_1) hZ (hw _ (List.mem_of_getElem? (i := 7) rfl)) (hw _ (List.mem_of_getElem? (i := 4) rfl)) (by decide) (by decide)) (g := (mkF m 89 #[.val (.int p1), .val (.int p2), .val (.int p3), .val (.int p4), .val (.int p5), .val (.int p6), .val (.int i3), .val (.int i9), .val (.int i15), .val (.int i21), .val (.double (9218868437227405312 : UInt64)), .second, .val (.double x0), .second, .val (.double x1), .second, .val (.double x2), .second, .unset, .unset, .unset, .unset, .unset, .unset] [(.ref b_1), (.ref b_1)])) rfl (by rw [hml]; rfl) (Steps.refl _) (a := b_1) (argsL := []) (rest := [(.ref b_1)]) (lenOf pd_0 rfl) rfl (by show 2 * 0 + _ ≤ _; exact Nat.le_of_eq rfl) (hb hby at_89) (fun _ _ => ⟨rfl, e_1, (by decide : 1 + 0 ≤ _), (by decide : 2 + 0 ≤ _)⟩)
        dsimp only [Pt.U, Pt.locs, Pt.cells, Pt.slots] at X_2 l_2 y_2 z_2 st_2 hQ_2
        subst l_2 y_2 z_2
        obtain ⟨rfl, N_2q, Kc_2, Fi_2, Fd_2⟩ := hQ_2
        have N_2 := Fr.app N0 N_2q
        have K_2 : Keep h0 T_2.heap [] := K_1.trans Kc_2 (allS (Or.inr sz_b_1) all0)
        have Z_2 : n0 ≤ T_2.heap.size := Nat.le_trans Z_1 Kc_2.1
        refine Go.tr st_2 ?_
        show Go p.tables e below P (T_2.setTop (mkF m 92 #[.val (.int p1), .val (.int p2), .val (.int p3), .val (.int p4), .val (.int p5), .val (.int p6), .val (.int i3), .val (.int i9), .val (.int i15), .val (.int i21), .val (.double (9218868437227405312 : UInt64)), .second, .val (.double x0), .second, .val (.double x1), .second, .val (.double x2), .second, .unset, .unset, .unset, .unset, .unset, .unset] [(.ref b_1)]))
        refine Go.step (fun t k => XS.astore X_2.here hx rfl (hb hby at_92) rfl rfl (l' := #[.val (.int p1), .val (.int p2), .val (.int p3), .val (.int p4), .val (.int p5), .val (.int p6), .val (.int i3), .val (.int i9), .val (.int i15), .val (.int i21), .val (.double (9218868437227405312 : UInt64)), .second, .val (.double x0), .second, .val (.double x1), .second, .val (.double x2), .second, .val (.ref b_1), .unset, .unset, .unset, .unset, .unset]) rfl k) ?_
        show Go p.tables e below P (T_2.setTop (mkF m 94 #[.val (.int p1), .val (.int p2), .val (.int p3), .val (.int p4), .val (.int p5), .val (.int p6), .val (.int i3), .val (.int i9), .val (.int i15), .val (.int i21), .val (.double (9218868437227405312 : UInt64)), .second, .val (.double x0), .second, .val (.double x1), .second, .val (.double x2), .second, .val (.ref b_1), .unset, .unset, .unset, .unset, .unset] []))
        refine Go.step (fun t k => XS.iload X_2.here hx rfl (hb hby at_94) rfl  k) ?_
        show Go p.tables e below P (T_2.setTop (mkF m 96 #[.val (.int p1), .val (.int p2), .val (.int p3), .val (.int p4), .val (.int p5), .val (.int p6), .val (.int i3), .val (.int i9), .val (.int i15), .val (.int i21), .val (.double (9218868437227405312 : UInt64)), .second, .val (.double x0), .second, .val (.double x1), .second, .val (.double x2), .second, .val (.ref b_1), .unset, .unset, .unset, .unset, .unset] [(.int i21)]))
        refine Go.step (fun t k => XS.iconst X_2.here hx rfl (hb hby at_96) k) ?_
        show Go p.tables e below P (T_2.setTop (mkF m 97 #[.val (.int p1), .val (.int p2), .val (.int p3), .val (.int p4), .val (.int p5), .val (.int p6), .val (.int i3), .val (.int i9), .val (.int i15), .val (.int i21), .val (.double (9218868437227405312 : UInt64)), .second, .val (.double x0), .second, .val (.double x1), .second, .val (.double x2), .second, .val (.ref b_1), .unset, .unset, .unset, .unset, .unset] [(.int (1 : Int32)), (.int i21)]))
        by_cases hc97 : i21.toInt < (1 : Int)
        · refine Go.step (fun t k => XS.icmpYes X_2.here hx rfl (pc0 := 97) (pc' := 109) rfl (hb hby at_97) rfl (icY (cd := .lt) hc97) (by decide) (by decide) k) ?_
          show Go p.tables e below P (T_2.setTop (mkF m 109 #[.val (.int p1), .val (.int p2), .val (.int p3), .val (.int p4), .val (.int p5), .val (.int p6), .val (.int i3), .val (.int i9), .val (.int i15), .val (.int i21), .val (.double (9218868437227405312 : UInt64)), .second, .val (.double x0), .second, .val (.double x1), .second, .val (.double x2), .second, .val (.ref b_1), .unset, .unset, .unset, .unset, .unset] []))
          refine Go.step (fun t k => XS.iload X_2.here hx rfl (hb hby at_109) rfl  k) ?_
          show Go p.tables e below P (T_2.setTop (mkF m 111 #[.val (.int p1), .val (.int p2), .val (.int p3), .val (.int p4), .val (.int p5), .val (.int p6), .val (.int i3), .val (.int i9), .val (.int i15), .val (.int i21), .val (.double (9218868437227405312 : UInt64)), .second, .val (.double x0), .second, .val (.double x1), .second, .val (.double x2), .second, .val (.ref b_1), .unset, .unset, .unset, .unset, .unset] [(.int i21)]))
          refine Go.step (fun t k => XS.iconst X_2.here hx rfl (hb hby at_111) k) ?_
          show Go p.tables e below P (T_2.setTop (mkF m 112 #[.val (.int p1), .val (.int p2), .val (.int p3), .val (.int p4), .val (.int p5), .val (.int p6), .val (.int i3), .val (.int i9), .val (.int i15), .val (.int i21), .val (.double (9218868437227405312 : UInt64)), .second, .val (.double x0), .second, .val (.double x1), .second, .val (.double x2), .second, .val (.ref b_1), .unset, .unset, .unset, .unset, .unset] [(.int (2 : Int32)), (.int i21)]))
          refine Go.step (fun t k => XS.icmpYes X_2.here hx rfl (pc0 := 112) (pc' := 124) rfl (hb hby at_112) rfl (icY (cd := .lt) (by omega : i21.toInt < (2 : Int))) (by decide) (by decide) k) ?_
          show Go p.tables e below P (T_2.setTop (mkF m 124 #[.val (.int p1), .val (.int p2), .val (.int p3), .val (.int p4), .val (.int p5), .val (.int p6), .val (.int i3), .val (.int i9), .val (.int i15), .val (.int i21), .val (.double (9218868437227405312 : UInt64)), .second, .val (.double x0), .second, .val (.double x1), .second, .val (.double x2), .second, .val (.ref b_1), .unset, .unset, .unset, .unset, .unset] []))
          refine Go.step (fun t k => XS.iload X_2.here hx rfl (hb hby at_124) rfl  k) ?_
          show Go p.tables e below P (T_2.setTop (mkF m 126 #[.val (.int p1), .val (.int p2), .val (.int p3), .val (.int p4), .val (.int p5), .val (.int p6), .val (.int i3), .val (.int i9), .val (.int i15), .val (.int i21), .val (.double (9218868437227405312 : UInt64)), .second, .val (.double x0), .second, .val (.double x1), .second, .val (.double x2), .second, .val (.ref b_1), .unset, .unset, .unset, .unset, .unset] [(.int i21)]))
          refine Go.step (fun t k => XS.iconst X_2.here hx rfl (hb hby at_126) k) ?_
          show Go p.tables e below P (T_2.setTop (mkF m 127 #[.val (.int p1), .val (.int p2), .val (.int p3), .val (.int p4), .val (.int p5), .val (.int p6), .val (.int i3), .val (.int i9), .val (.int i15), .val (.int i21), .val (.double (9218868437227405312 : UInt64)), .second, .val (.double x0), .second, .val (.double x1), .second, .val (.double x2), .second, .val (.ref b_1), .unset, .unset, .unset, .unset, .unset] [(.int (3 : Int32)), (.int i21)]))
          refine Go.step (fun t k => XS.icmpYes X_2.here hx rfl (pc0 := 127) (pc' := 139) rfl (hb hby at_127) rfl (icY (cd := .lt) (by omega : i21.toInt < (3 : Int))) (by decide) (by decide) k) ?_
          show Go p.tables e below P (T_2.setTop (mkF m 139 #[.val (.int p1), .val (.int p2), .val (.int p3), .val (.int p4), .val (.int p5), .val (.int p6), .val (.int i3), .val (.int i9), .val (.int i15), .val (.int i21), .val (.double (9218868437227405312 : UInt64)), .second, .val (.double x0), .second, .val (.double x1), .second, .val (.double x2), .second, .val (.ref b_1), .unset, .unset, .unset, .unset, .unset] []))
          refine Go.step (fun t k => XS.iload X_2.here hx rfl (hb hby at_139) rfl  k) ?_
          show Go p.tables e below P (T_2.setTop (mkF m 141 #[.val (.int p1), .val (.int p2), .val (.int p3), .val (.int p4), .val (.int p5), .val (.int p6), .val (.int i3), .val (.int i9), .val (.int i15), .val (.int i21), .val (.double (9218868437227405312 : UInt64)), .second, .val (.double x0), .second, .val (.double x1), .second, .val (.double x2), .second, .val (.ref b_1), .unset, .unset, .unset, .unset, .unset] [(.int i21)]))
          refine Go.step (fun t k => XS.ifNo X_2.here hx rfl (hb hby at_141) rfl (ifN (cd := .ne) (by omega : ¬ (¬ i21.toInt = 0))) k) ?_
          show Go p.tables e below P (T_2.setTop (mkF m 144 #[.val (.int p1), .val (.int p2), .val (.int p3), .val (.int p4), .val (.int p5), .val (.int p6), .val (.int i3), .val (.int i9), .val (.int i15), .val (.int i21), .val (.double (9218868437227405312 : UInt64)), .second, .val (.double x0), .second, .val (.double x1), .second, .val (.double x2), .second, .val (.ref b_1), .unset, .unset, .unset, .unset, .unset] []))
          refine Go.step (fun t k => XS.iconst X_2.here hx rfl (hb hby at_144) k) ?_
          show Go p.tables e below P (T_2.setTop (mkF m 145 #[.val (.int p1), .val (.int p2), .val (.int p3), .val (.int p4), .val (.int p5), .val (.int p6), .val (.int i3), .val (.int i9), .val (.int i15), .val (.int i21), .val (.double (9218868437227405312 : UInt64)), .second, .val (.double x0), .second, .val (.double x1), .second, .val (.double x2), .second, .val (.ref b_1), .unset, .unset, .unset, .unset, .unset] [(.int (-1 : Int32))]))
          refine Go.step (fun t k => XS.istore X_2.here hx rfl (hb hby at_145) rfl (l' := #[.val (.int p1), .val (.int p2), .val (.int p3), .val (.int p4), .val (.int p5), .val (.int p6), .val (.int i3), .val (.int i9), .val (.int i15), .val (.int i21), .val (.double (9218868437227405312 : UInt64)), .second, .val (.double x0), .second, .val (.double x1), .second, .val (.double x2), .second, .val (.ref b_1), .val (.int (-1 : Int32)), .unset, .unset, .unset, .unset]) rfl k) ?_
          show Go p.tables e below P (T_2.setTop (mkF m 147 #[.val (.int p1), .val (.int p2), .val (.int p3), .val (.int p4), .val (.int p5), .val (.int p6), .val (.int i3), .val (.int i9), .val (.int i15), .val (.int i21), .val (.double (9218868437227405312 : UInt64)), .second, .val (.double x0), .second, .val (.double x1), .second, .val (.double x2), .second, .val (.ref b_1), .val (.int (-1 : Int32)), .unset, .unset, .unset, .unset] []))
          refine Go.step (fun t k => XS.dload X_2.here hx rfl (hb hby at_147) rfl  k) ?_
          show Go p.tables e below P (T_2.setTop (mkF m 149 #[.val (.int p1), .val (.int p2), .val (.int p3), .val (.int p4), .val (.int p5), .val (.int p6), .val (.int i3), .val (.int i9), .val (.int i15), .val (.int i21), .val (.double (9218868437227405312 : UInt64)), .second, .val (.double x0), .second, .val (.double x1), .second, .val (.double x2), .second, .val (.ref b_1), .val (.int (-1 : Int32)), .unset, .unset, .unset, .unset] [(.double (9218868437227405312 : UInt64))]))
          refine Go.step (fun t k => XS.dstore X_2.here hx rfl (hb hby at_149) rfl (l' := #[.val (.int p1), .val (.int p2), .val (.int p3), .val (.int p4), .val (.int p5), .val (.int p6), .val (.int i3), .val (.int i9), .val (.int i15), .val (.int i21), .val (.double (9218868437227405312 : UInt64)), .second, .val (.double x0), .second, .val (.double x1), .second, .val (.double x2), .second, .val (.ref b_1), .val (.int (-1 : Int32)), .val (.double (9218868437227405312 : UInt64)), .second, .unset, .unset]) rfl k) ?_
          show Go p.tables e below P (T_2.setTop (mkF m 151 #[.val (.int p1), .val (.int p2), .val (.int p3), .val (.int p4), .val (.int p5), .val (.int p6), .val (.int i3), .val (.int i9), .val (.int i15), .val (.int i21), .val (.double (9218868437227405312 : UInt64)), .second, .val (.double x0), .second, .val (.double x1), .second, .val (.double x2), .second, .val (.ref b_1), .val (.int (-1 : Int32)), .val (.double (9218868437227405312 : UInt64)), .second, .unset, .unset] []))
          refine Go.step (fun t k => XS.goto X_2.here hx rfl (pc0 := 151) (pc' := 278) rfl (hb hby at_151) (by decide) (by decide) k) ?_
          show Go p.tables e below P (T_2.setTop (mkF m 278 #[.val (.int p1), .val (.int p2), .val (.int p3), .val (.int p4), .val (.int p5), .val (.int p6), .val (.int i3), .val (.int i9), .val (.int i15), .val (.int i21), .val (.double (9218868437227405312 : UInt64)), .second, .val (.double x0), .second, .val (.double x1), .second, .val (.double x2), .second, .val (.ref b_1), .val (.int (-1 : Int32)), .val (.double (9218868437227405312 : UInt64)), .second, .unset, .unset] []))
          refine Go.step (fun t k => XS.aload X_2.here hx rfl (hb hby at_278) rfl rfl k) ?_
          show Go p.tables e below P (T_2.setTop (mkF m 280 #[.val (.int p1), .val (.int p2), .val (.int p3), .val (.int p4), .val (.int p5), .val (.int p6), .val (.int i3), .val (.int i9), .val (.int i15), .val (.int i21), .val (.double (9218868437227405312 : UInt64)), .second, .val (.double x0), .second, .val (.double x1), .second, .val (.double x2), .second, .val (.ref b_1), .val (.int (-1 : Int32)), .val (.double (9218868437227405312 : UInt64)), .second, .unset, .unset] [(.ref b_1)]))
          obtain ⟨cq_3, kq_3, q_3a, q_3b, q_3c⟩ := isOf hZ rfl (A_1.keep Kc_2)
          obtain ⟨_, _, ⟨T_3, L_3, k_3, n_3⟩, -, X_3, ⟨Lc_3, hQ_3, l_3, y_3, z_3⟩, st_3⟩ := X_2.virtualBack hx (y := (⟨"com/example/fieldroster/fieldroster/policy/Nearest", "found", "()Z"⟩ : MethodName)) (z := (⟨"com/example/fieldroster/fieldroster/policy/Nearest", "found", "()Z"⟩ : MethodName)) hown (mvT hZ (hw _ (List.mem_of_getElem? (i := 16) rfl))) (mvT hZ (hw _ (List.mem_of_getElem? (i := 17) rfl))) (notFace_of_selects (args := #[]) (mvT hZ (hw _ (List.mem_of_getElem? (i := 19) rfl)))) (mvT hZ (hw _ (List.mem_of_getElem? (i := 19) rfl))) (mvT hZ (hw _ (List.mem_of_getElem? (i := 18) rfl))) (by decide) (backOf (W := 0) (rm3 l Z a0 hw [] b_1 (-1 : Int32) T_2.heap n0 Z_2 Fi_2) hZ (hw _ (List.mem_of_getElem? (i := 20) rfl)) (hw _ (List.mem_of_getElem? (i := 4) rfl)) (by decide) (by decide)) q_3a q_3c (g := (mkF m 280 #[.val (.int p1), .val (.int p2), .val (.int p3), .val (.int p4), .val (.int p5), .val (.int p6), .val (.int i3), .val (.int i9), .val (.int i15), .val (.int i21), .val (.double (9218868437227405312 : UInt64)), .second, .val (.double x0), .second, .val (.double x1), .second, .val (.double x2), .second, .val (.ref b_1), .val (.int (-1 : Int32)), .val (.double (9218868437227405312 : UInt64)), .second, .unset, .unset] [(.ref b_1)])) rfl (by rw [hml]; rfl) (Steps.refl _) (argsL := []) (rest := []) (lenOf pd_1 rfl) rfl (by show 2 * 0 + _ ≤ _; exact Nat.le_of_eq rfl) (hb hby at_280) (fun _ _ => ⟨rfl, rfl, (by decide : 1 + 0 ≤ _), (by decide : 2 + 0 ≤ _)⟩)
          dsimp only [Pt.U, Pt.locs, Pt.cells, Pt.slots] at X_3 l_3 y_3 z_3 st_3 hQ_3
          subst l_3 y_3 z_3
          obtain ⟨fr, rfl, hfr, N_3q, eh_3⟩ := hQ_3
          have N_3 := Fr.app N_2 N_3q
          refine Go.tr st_3 ?_
          show Go p.tables e below P (T_3.setTop (mkF m 283 #[.val (.int p1), .val (.int p2), .val (.int p3), .val (.int p4), .val (.int p5), .val (.int p6), .val (.int i3), .val (.int i9), .val (.int i15), .val (.int i21), .val (.double (9218868437227405312 : UInt64)), .second, .val (.double x0), .second, .val (.double x1), .second, .val (.double x2), .second, .val (.ref b_1), .val (.int (-1 : Int32)), .val (.double (9218868437227405312 : UInt64)), .second, .unset, .unset] [(.int fr)]))
          refine Go.step (fun t k => XS.iload X_3.here hx rfl (hb hby at_283) rfl  k) ?_
          show Go p.tables e below P (T_3.setTop (mkF m 285 #[.val (.int p1), .val (.int p2), .val (.int p3), .val (.int p4), .val (.int p5), .val (.int p6), .val (.int i3), .val (.int i9), .val (.int i15), .val (.int i21), .val (.double (9218868437227405312 : UInt64)), .second, .val (.double x0), .second, .val (.double x1), .second, .val (.double x2), .second, .val (.ref b_1), .val (.int (-1 : Int32)), .val (.double (9218868437227405312 : UInt64)), .second, .unset, .unset] [(.int i21), (.int fr)]))
          refine Go.step (fun t k => XS.iconst X_3.here hx rfl (hb hby at_285) k) ?_
          show Go p.tables e below P (T_3.setTop (mkF m 286 #[.val (.int p1), .val (.int p2), .val (.int p3), .val (.int p4), .val (.int p5), .val (.int p6), .val (.int i3), .val (.int i9), .val (.int i15), .val (.int i21), .val (.double (9218868437227405312 : UInt64)), .second, .val (.double x0), .second, .val (.double x1), .second, .val (.double x2), .second, .val (.ref b_1), .val (.int (-1 : Int32)), .val (.double (9218868437227405312 : UInt64)), .second, .unset, .unset] [(.int (1 : Int32)), (.int i21), (.int fr)]))
          refine Go.step (fun t k => XS.icmpYes X_3.here hx rfl (pc0 := 286) (pc' := 293) rfl (hb hby at_286) rfl (icY (cd := .lt) (by omega : i21.toInt < (1 : Int))) (by decide) (by decide) k) ?_
          show Go p.tables e below P (T_3.setTop (mkF m 293 #[.val (.int p1), .val (.int p2), .val (.int p3), .val (.int p4), .val (.int p5), .val (.int p6), .val (.int i3), .val (.int i9), .val (.int i15), .val (.int i21), .val (.double (9218868437227405312 : UInt64)), .second, .val (.double x0), .second, .val (.double x1), .second, .val (.double x2), .second, .val (.ref b_1), .val (.int (-1 : Int32)), .val (.double (9218868437227405312 : UInt64)), .second, .unset, .unset] [(.int fr)]))
          refine Go.step (fun t k => XS.iconst X_3.here hx rfl (hb hby at_293) k) ?_
          show Go p.tables e below P (T_3.setTop (mkF m 294 #[.val (.int p1), .val (.int p2), .val (.int p3), .val (.int p4), .val (.int p5), .val (.int p6), .val (.int i3), .val (.int i9), .val (.int i15), .val (.int i21), .val (.double (9218868437227405312 : UInt64)), .second, .val (.double x0), .second, .val (.double x1), .second, .val (.double x2), .second, .val (.ref b_1), .val (.int (-1 : Int32)), .val (.double (9218868437227405312 : UInt64)), .second, .unset, .unset] [(.int (0 : Int32)), (.int fr)]))
          refine Go.step (fun t k => XS.icmpNo X_3.here hx rfl (hb hby at_294) rfl (icN (cd := .ne) (by omega : ¬ (¬ fr.toInt = (0 : Int)))) k) ?_
          show Go p.tables e below P (T_3.setTop (mkF m 297 #[.val (.int p1), .val (.int p2), .val (.int p3), .val (.int p4), .val (.int p5), .val (.int p6), .val (.int i3), .val (.int i9), .val (.int i15), .val (.int i21), .val (.double (9218868437227405312 : UInt64)), .second, .val (.double x0), .second, .val (.double x1), .second, .val (.double x2), .second, .val (.ref b_1), .val (.int (-1 : Int32)), .val (.double (9218868437227405312 : UInt64)), .second, .unset, .unset] []))
          refine Go.step (fun t k => XS.aload X_3.here hx rfl (hb hby at_297) rfl rfl k) ?_
          show Go p.tables e below P (T_3.setTop (mkF m 299 #[.val (.int p1), .val (.int p2), .val (.int p3), .val (.int p4), .val (.int p5), .val (.int p6), .val (.int i3), .val (.int i9), .val (.int i15), .val (.int i21), .val (.double (9218868437227405312 : UInt64)), .second, .val (.double x0), .second, .val (.double x1), .second, .val (.double x2), .second, .val (.ref b_1), .val (.int (-1 : Int32)), .val (.double (9218868437227405312 : UInt64)), .second, .unset, .unset] [(.ref b_1)]))
          obtain ⟨cq_4, kq_4, q_4a, q_4b, q_4c⟩ := isOf hZ eh_3 (A_1.keep Kc_2)
          obtain ⟨_, _, ⟨T_4, L_4, k_4, n_4⟩, -, X_4, ⟨Lc_4, hQ_4, l_4, y_4, z_4⟩, st_4⟩ := X_3.virtualBack hx (y := (⟨"com/example/fieldroster/fieldroster/policy/Nearest", "index", "()I"⟩ : MethodName)) (z := (⟨"com/example/fieldroster/fieldroster/policy/Nearest", "index", "()I"⟩ : MethodName)) hown (mvT hZ (hw _ (List.mem_of_getElem? (i := 21) rfl))) (mvT hZ (hw _ (List.mem_of_getElem? (i := 22) rfl))) (notFace_of_selects (args := #[]) (mvT hZ (hw _ (List.mem_of_getElem? (i := 24) rfl)))) (mvT hZ (hw _ (List.mem_of_getElem? (i := 24) rfl))) (mvT hZ (hw _ (List.mem_of_getElem? (i := 23) rfl))) (by decide) (backOf (W := 0) (rm4 l Z a0 hw [] b_1 (-1 : Int32) T_2.heap n0 Z_2 Fi_2) hZ (hw _ (List.mem_of_getElem? (i := 25) rfl)) (hw _ (List.mem_of_getElem? (i := 4) rfl)) (by decide) (by decide)) q_4a q_4c (g := (mkF m 299 #[.val (.int p1), .val (.int p2), .val (.int p3), .val (.int p4), .val (.int p5), .val (.int p6), .val (.int i3), .val (.int i9), .val (.int i15), .val (.int i21), .val (.double (9218868437227405312 : UInt64)), .second, .val (.double x0), .second, .val (.double x1), .second, .val (.double x2), .second, .val (.ref b_1), .val (.int (-1 : Int32)), .val (.double (9218868437227405312 : UInt64)), .second, .unset, .unset] [(.ref b_1)])) rfl (by rw [hml]; rfl) (Steps.refl _) (argsL := []) (rest := []) (lenOf pd_2 rfl) rfl (by show 2 * 0 + _ ≤ _; exact Nat.le_of_eq rfl) (hb hby at_299) (fun _ _ => ⟨rfl, eh_3, (by decide : 1 + 0 ≤ _), (by decide : 2 + 0 ≤ _)⟩)
          dsimp only [Pt.U, Pt.locs, Pt.cells, Pt.slots] at X_4 l_4 y_4 z_4 st_4 hQ_4
          subst l_4 y_4 z_4
          obtain ⟨rfl, N_4q, eh_4⟩ := hQ_4
          have N_4 := Fr.app N_3 N_4q
          refine Go.tr st_4 ?_
          show Go p.tables e below P (T_4.setTop (mkF m 302 #[.val (.int p1), .val (.int p2), .val (.int p3), .val (.int p4), .val (.int p5), .val (.int p6), .val (.int i3), .val (.int i9), .val (.int i15), .val (.int i21), .val (.double (9218868437227405312 : UInt64)), .second, .val (.double x0), .second, .val (.double x1), .second, .val (.double x2), .second, .val (.ref b_1), .val (.int (-1 : Int32)), .val (.double (9218868437227405312 : UInt64)), .second, .unset, .unset] [(.int (-1 : Int32))]))
          refine Go.step (fun t k => XS.iload X_4.here hx rfl (hb hby at_302) rfl  k) ?_
          show Go p.tables e below P (T_4.setTop (mkF m 304 #[.val (.int p1), .val (.int p2), .val (.int p3), .val (.int p4), .val (.int p5), .val (.int p6), .val (.int i3), .val (.int i9), .val (.int i15), .val (.int i21), .val (.double (9218868437227405312 : UInt64)), .second, .val (.double x0), .second, .val (.double x1), .second, .val (.double x2), .second, .val (.ref b_1), .val (.int (-1 : Int32)), .val (.double (9218868437227405312 : UInt64)), .second, .unset, .unset] [(.int (-1 : Int32)), (.int (-1 : Int32))]))
          refine Go.step (fun t k => XS.icmpNo X_4.here hx rfl (hb hby at_304) rfl (icN (cd := .ne) (fun q => q rfl)) k) ?_
          show Go p.tables e below P (T_4.setTop (mkF m 307 #[.val (.int p1), .val (.int p2), .val (.int p3), .val (.int p4), .val (.int p5), .val (.int p6), .val (.int i3), .val (.int i9), .val (.int i15), .val (.int i21), .val (.double (9218868437227405312 : UInt64)), .second, .val (.double x0), .second, .val (.double x1), .second, .val (.double x2), .second, .val (.ref b_1), .val (.int (-1 : Int32)), .val (.double (9218868437227405312 : UInt64)), .second, .unset, .unset] []))
          refine Go.step (fun t k => XS.aload X_4.here hx rfl (hb hby at_307) rfl rfl k) ?_
          show Go p.tables e below P (T_4.setTop (mkF m 309 #[.val (.int p1), .val (.int p2), .val (.int p3), .val (.int p4), .val (.int p5), .val (.int p6), .val (.int i3), .val (.int i9), .val (.int i15), .val (.int i21), .val (.double (9218868437227405312 : UInt64)), .second, .val (.double x0), .second, .val (.double x1), .second, .val (.double x2), .second, .val (.ref b_1), .val (.int (-1 : Int32)), .val (.double (9218868437227405312 : UInt64)), .second, .unset, .unset] [(.ref b_1)]))
          obtain ⟨cq_5, kq_5, q_5a, q_5b, q_5c⟩ := isOf hZ eh_4 (A_1.keep Kc_2)
          obtain ⟨_, _, ⟨T_5, L_5, k_5, n_5⟩, -, X_5, ⟨Lc_5, hQ_5, l_5, y_5, z_5⟩, st_5⟩ := X_4.virtualBack hx (y := (⟨"com/example/fieldroster/fieldroster/policy/Nearest", "distance", "()D"⟩ : MethodName)) (z := (⟨"com/example/fieldroster/fieldroster/policy/Nearest", "distance", "()D"⟩ : MethodName)) hown (mvT hZ (hw _ (List.mem_of_getElem? (i := 26) rfl))) (mvT hZ (hw _ (List.mem_of_getElem? (i := 27) rfl))) (notFace_of_selects (args := #[]) (mvT hZ (hw _ (List.mem_of_getElem? (i := 29) rfl)))) (mvT hZ (hw _ (List.mem_of_getElem? (i := 29) rfl))) (mvT hZ (hw _ (List.mem_of_getElem? (i := 28) rfl))) (by decide) (backOf (W := 0) (rm5 l Z a0 hw [] b_1 (9218868437227405312 : UInt64) T_2.heap n0 Z_2 Fd_2) hZ (hw _ (List.mem_of_getElem? (i := 30) rfl)) (hw _ (List.mem_of_getElem? (i := 4) rfl)) (by decide) (by decide)) q_5a q_5c (g := (mkF m 309 #[.val (.int p1), .val (.int p2), .val (.int p3), .val (.int p4), .val (.int p5), .val (.int p6), .val (.int i3), .val (.int i9), .val (.int i15), .val (.int i21), .val (.double (9218868437227405312 : UInt64)), .second, .val (.double x0), .second, .val (.double x1), .second, .val (.double x2), .second, .val (.ref b_1), .val (.int (-1 : Int32)), .val (.double (9218868437227405312 : UInt64)), .second, .unset, .unset] [(.ref b_1)])) rfl (by rw [hml]; rfl) (Steps.refl _) (argsL := []) (rest := []) (lenOf pd_3 rfl) rfl (by show 2 * 0 + _ ≤ _; exact Nat.le_of_eq rfl) (hb hby at_309) (fun _ _ => ⟨rfl, eh_4, (by decide : 1 + 0 ≤ _), (by decide : 2 + 0 ≤ _)⟩)
          dsimp only [Pt.U, Pt.locs, Pt.cells, Pt.slots] at X_5 l_5 y_5 z_5 st_5 hQ_5
          subst l_5 y_5 z_5
          obtain ⟨rfl, N_5q, eh_5⟩ := hQ_5
          have N_5 := Fr.app N_4 N_5q
          refine Go.tr st_5 ?_
          show Go p.tables e below P (T_5.setTop (mkF m 312 #[.val (.int p1), .val (.int p2), .val (.int p3), .val (.int p4), .val (.int p5), .val (.int p6), .val (.int i3), .val (.int i9), .val (.int i15), .val (.int i21), .val (.double (9218868437227405312 : UInt64)), .second, .val (.double x0), .second, .val (.double x1), .second, .val (.double x2), .second, .val (.ref b_1), .val (.int (-1 : Int32)), .val (.double (9218868437227405312 : UInt64)), .second, .unset, .unset] [(.double (9218868437227405312 : UInt64))]))
          refine Go.step (fun t k => XS.dload X_5.here hx rfl (hb hby at_312) rfl  k) ?_
          show Go p.tables e below P (T_5.setTop (mkF m 314 #[.val (.int p1), .val (.int p2), .val (.int p3), .val (.int p4), .val (.int p5), .val (.int p6), .val (.int i3), .val (.int i9), .val (.int i15), .val (.int i21), .val (.double (9218868437227405312 : UInt64)), .second, .val (.double x0), .second, .val (.double x1), .second, .val (.double x2), .second, .val (.ref b_1), .val (.int (-1 : Int32)), .val (.double (9218868437227405312 : UInt64)), .second, .unset, .unset] [(.double (9218868437227405312 : UInt64)), (.double (9218868437227405312 : UInt64))]))
          refine Go.step (fun t k => XS.dcmpS X_5.here hx rfl (hb hby at_314) rfl rfl k) ?_
          show Go p.tables e below P (T_5.setTop (mkF m 315 #[.val (.int p1), .val (.int p2), .val (.int p3), .val (.int p4), .val (.int p5), .val (.int p6), .val (.int i3), .val (.int i9), .val (.int i15), .val (.int i21), .val (.double (9218868437227405312 : UInt64)), .second, .val (.double x0), .second, .val (.double x1), .second, .val (.double x2), .second, .val (.ref b_1), .val (.int (-1 : Int32)), .val (.double (9218868437227405312 : UInt64)), .second, .unset, .unset] [(.int (cmpValue (FP.dcmp (9218868437227405312 : UInt64) (9218868437227405312 : UInt64)) .l))]))
          refine Go.step (fun t k => XS.ifNo X_5.here hx rfl (hb hby at_315) rfl (dcN (cd := .ne) (zcmp inf_nn inf_nn) (fun q => q rfl)) k) ?_
          show Go p.tables e below P (T_5.setTop (mkF m 318 #[.val (.int p1), .val (.int p2), .val (.int p3), .val (.int p4), .val (.int p5), .val (.int p6), .val (.int i3), .val (.int i9), .val (.int i15), .val (.int i21), .val (.double (9218868437227405312 : UInt64)), .second, .val (.double x0), .second, .val (.double x1), .second, .val (.double x2), .second, .val (.ref b_1), .val (.int (-1 : Int32)), .val (.double (9218868437227405312 : UInt64)), .second, .unset, .unset] []))
          refine Go.step (fun t k => XS.iconst X_5.here hx rfl (hb hby at_318) k) ?_
          show Go p.tables e below P (T_5.setTop (mkF m 319 #[.val (.int p1), .val (.int p2), .val (.int p3), .val (.int p4), .val (.int p5), .val (.int p6), .val (.int i3), .val (.int i9), .val (.int i15), .val (.int i21), .val (.double (9218868437227405312 : UInt64)), .second, .val (.double x0), .second, .val (.double x1), .second, .val (.double x2), .second, .val (.ref b_1), .val (.int (-1 : Int32)), .val (.double (9218868437227405312 : UInt64)), .second, .unset, .unset] [(.int (1 : Int32))]))
          refine Go.step (fun t k => XS.goto X_5.here hx rfl (pc0 := 319) (pc' := 323) rfl (hb hby at_319) (by decide) (by decide) k) ?_
          show Go p.tables e below P (T_5.setTop (mkF m 323 #[.val (.int p1), .val (.int p2), .val (.int p3), .val (.int p4), .val (.int p5), .val (.int p6), .val (.int i3), .val (.int i9), .val (.int i15), .val (.int i21), .val (.double (9218868437227405312 : UInt64)), .second, .val (.double x0), .second, .val (.double x1), .second, .val (.double x2), .second, .val (.ref b_1), .val (.int (-1 : Int32)), .val (.double (9218868437227405312 : UInt64)), .second, .unset, .unset] [(.int (1 : Int32))]))
          exact retGo X_5 hx hP Bd.returns hlk rfl (Or.inl ⟨rfl, Or.inr (Or.inl rfl), _, rfl⟩) (hb hby at_323) (by decide) (by decide) (by rw [eh_5]; exact ⟨rfl, N_5⟩)
        · refine Go.step (fun t k => XS.icmpNo X_2.here hx rfl (hb hby at_97) rfl (icN (cd := .lt) hc97) k) ?_
          show Go p.tables e below P (T_2.setTop (mkF m 100 #[.val (.int p1), .val (.int p2), .val (.int p3), .val (.int p4), .val (.int p5), .val (.int p6), .val (.int i3), .val (.int i9), .val (.int i15), .val (.int i21), .val (.double (9218868437227405312 : UInt64)), .second, .val (.double x0), .second, .val (.double x1), .second, .val (.double x2), .second, .val (.ref b_1), .unset, .unset, .unset, .unset, .unset] []))
          refine Go.step (fun t k => XS.aload X_2.here hx rfl (hb hby at_100) rfl rfl k) ?_
          show Go p.tables e below P (T_2.setTop (mkF m 102 #[.val (.int p1), .val (.int p2), .val (.int p3), .val (.int p4), .val (.int p5), .val (.int p6), .val (.int i3), .val (.int i9), .val (.int i15), .val (.int i21), .val (.double (9218868437227405312 : UInt64)), .second, .val (.double x0), .second, .val (.double x1), .second, .val (.double x2), .second, .val (.ref b_1), .unset, .unset, .unset, .unset, .unset] [(.ref b_1)]))
          refine Go.step (fun t k => XS.iload X_2.here hx rfl (hb hby at_102) rfl  k) ?_
          show Go p.tables e below P (T_2.setTop (mkF m 104 #[.val (.int p1), .val (.int p2), .val (.int p3), .val (.int p4), .val (.int p5), .val (.int p6), .val (.int i3), .val (.int i9), .val (.int i15), .val (.int i21), .val (.double (9218868437227405312 : UInt64)), .second, .val (.double x0), .second, .val (.double x1), .second, .val (.double x2), .second, .val (.ref b_1), .unset, .unset, .unset, .unset, .unset] [(.int i3), (.ref b_1)]))
          refine Go.step (fun t k => XS.dload X_2.here hx rfl (hb hby at_104) rfl  k) ?_
          show Go p.tables e below P (T_2.setTop (mkF m 106 #[.val (.int p1), .val (.int p2), .val (.int p3), .val (.int p4), .val (.int p5), .val (.int p6), .val (.int i3), .val (.int i9), .val (.int i15), .val (.int i21), .val (.double (9218868437227405312 : UInt64)), .second, .val (.double x0), .second, .val (.double x1), .second, .val (.double x2), .second, .val (.ref b_1), .unset, .unset, .unset, .unset, .unset] [(.double x0), (.int i3), (.ref b_1)]))
          obtain ⟨cq_6, kq_6, q_6a, q_6b, q_6c⟩ := isOf hZ rfl (A_1.keep Kc_2)
          obtain ⟨_, _, ⟨T_6, L_6, k_6, n_6⟩, -, X_6, ⟨Lc_6, hQ_6, l_6, y_6, z_6⟩, st_6⟩ := X_2.virtualBack hx (y := (⟨"com/example/fieldroster/fieldroster/policy/Nearest", "offer", "(ID)V"⟩ : MethodName)) (z := (⟨"com/example/fieldroster/fieldroster/policy/Nearest", "offer", "(ID)V"⟩ : MethodName)) hown (mvT hZ (hw _ (List.mem_of_getElem? (i := 31) rfl))) (mvT hZ (hw _ (List.mem_of_getElem? (i := 32) rfl))) (notFace_of_selects (args := #[]) (mvT hZ (hw _ (List.mem_of_getElem? (i := 34) rfl)))) (mvT hZ (hw _ (List.mem_of_getElem? (i := 34) rfl))) (mvT hZ (hw _ (List.mem_of_getElem? (i := 33) rfl))) (by decide) (backOf (W := 0) (rm2 l Z a0 hw [] b_1 i3 x0 (-1 : Int32) (9218868437227405312 : UInt64) T_2.heap n0 Z_2 (A_1.keep Kc_2) Fi_2 Fd_2 g_b_1 hx0 inf_nn) hZ (hw _ (List.mem_of_getElem? (i := 35) rfl)) (hw _ (List.mem_of_getElem? (i := 4) rfl)) (by decide) (by decide)) q_6a q_6c (g := (mkF m 106 #[.val (.int p1), .val (.int p2), .val (.int p3), .val (.int p4), .val (.int p5), .val (.int p6), .val (.int i3), .val (.int i9), .val (.int i15), .val (.int i21), .val (.double (9218868437227405312 : UInt64)), .second, .val (.double x0), .second, .val (.double x1), .second, .val (.double x2), .second, .val (.ref b_1), .unset, .unset, .unset, .unset, .unset] [(.double x0), (.int i3), (.ref b_1)])) rfl (by rw [hml]; rfl) (Steps.refl _) (argsL := [(.int i3), (.double x0)]) (rest := []) (lenOf pd_4 rfl) rfl (by show 2 * 0 + _ ≤ _; exact Nat.le_of_eq rfl) (hb hby at_106) (fun _ _ => ⟨rfl, rfl, (by decide : 1 + 0 ≤ _), (by decide : 2 + 0 ≤ _)⟩)
          dsimp only [Pt.U, Pt.locs, Pt.cells, Pt.slots] at X_6 l_6 y_6 z_6 st_6 hQ_6
          subst l_6 y_6 z_6
          obtain ⟨rfl, N_6q, Kc_6, Ee_6, ix1, ds1, Fi_6, Fd_6, of1⟩ := hQ_6
          have N_6 := Fr.app N_2 N_6q
          have K_6 : Keep h0 T_6.heap [] := K_2.trans Kc_6 (allS (Or.inr sz_b_1) all0)
          have Z_6 : n0 ≤ T_6.heap.size := Nat.le_trans Z_2 Kc_6.1
          refine Go.tr st_6 ?_
          show Go p.tables e below P (T_6.setTop (mkF m 109 #[.val (.int p1), .val (.int p2), .val (.int p3), .val (.int p4), .val (.int p5), .val (.int p6), .val (.int i3), .val (.int i9), .val (.int i15), .val (.int i21), .val (.double (9218868437227405312 : UInt64)), .second, .val (.double x0), .second, .val (.double x1), .second, .val (.double x2), .second, .val (.ref b_1), .unset, .unset, .unset, .unset, .unset] []))
          refine Go.step (fun t k => XS.iload X_6.here hx rfl (hb hby at_109) rfl  k) ?_
          show Go p.tables e below P (T_6.setTop (mkF m 111 #[.val (.int p1), .val (.int p2), .val (.int p3), .val (.int p4), .val (.int p5), .val (.int p6), .val (.int i3), .val (.int i9), .val (.int i15), .val (.int i21), .val (.double (9218868437227405312 : UInt64)), .second, .val (.double x0), .second, .val (.double x1), .second, .val (.double x2), .second, .val (.ref b_1), .unset, .unset, .unset, .unset, .unset] [(.int i21)]))
          refine Go.step (fun t k => XS.iconst X_6.here hx rfl (hb hby at_111) k) ?_
          show Go p.tables e below P (T_6.setTop (mkF m 112 #[.val (.int p1), .val (.int p2), .val (.int p3), .val (.int p4), .val (.int p5), .val (.int p6), .val (.int i3), .val (.int i9), .val (.int i15), .val (.int i21), .val (.double (9218868437227405312 : UInt64)), .second, .val (.double x0), .second, .val (.double x1), .second, .val (.double x2), .second, .val (.ref b_1), .unset, .unset, .unset, .unset, .unset] [(.int (2 : Int32)), (.int i21)]))
          have nn1 : FP.Core.val64 ds1 ≠ .nan := by rcases of1 with ⟨_, _, h⟩ | ⟨_, _, h⟩ <;> rw [h]; exact hx0; exact inf_nn
          by_cases hc112 : i21.toInt < (2 : Int)
          · refine Go.step (fun t k => XS.icmpYes X_6.here hx rfl (pc0 := 112) (pc' := 124) rfl (hb hby at_112) rfl (icY (cd := .lt) hc112) (by decide) (by decide) k) ?_
            show Go p.tables e below P (T_6.setTop (mkF m 124 #[.val (.int p1), .val (.int p2), .val (.int p3), .val (.int p4), .val (.int p5), .val (.int p6), .val (.int i3), .val (.int i9), .val (.int i15), .val (.int i21), .val (.double (9218868437227405312 : UInt64)), .second, .val (.double x0), .second, .val (.double x1), .second, .val (.double x2), .second, .val (.ref b_1), .unset, .unset, .unset, .unset, .unset] []))
            refine Go.step (fun t k => XS.iload X_6.here hx rfl (hb hby at_124) rfl  k) ?_
            show Go p.tables e below P (T_6.setTop (mkF m 126 #[.val (.int p1), .val (.int p2), .val (.int p3), .val (.int p4), .val (.int p5), .val (.int p6), .val (.int i3), .val (.int i9), .val (.int i15), .val (.int i21), .val (.double (9218868437227405312 : UInt64)), .second, .val (.double x0), .second, .val (.double x1), .second, .val (.double x2), .second, .val (.ref b_1), .unset, .unset, .unset, .unset, .unset] [(.int i21)]))
            refine Go.step (fun t k => XS.iconst X_6.here hx rfl (hb hby at_126) k) ?_
            show Go p.tables e below P (T_6.setTop (mkF m 127 #[.val (.int p1), .val (.int p2), .val (.int p3), .val (.int p4), .val (.int p5), .val (.int p6), .val (.int i3), .val (.int i9), .val (.int i15), .val (.int i21), .val (.double (9218868437227405312 : UInt64)), .second, .val (.double x0), .second, .val (.double x1), .second, .val (.double x2), .second, .val (.ref b_1), .unset, .unset, .unset, .unset, .unset] [(.int (3 : Int32)), (.int i21)]))
            refine Go.step (fun t k => XS.icmpYes X_6.here hx rfl (pc0 := 127) (pc' := 139) rfl (hb hby at_127) rfl (icY (cd := .lt) (by omega : i21.toInt < (3 : Int))) (by decide) (by decide) k) ?_
            show Go p.tables e below P (T_6.setTop (mkF m 139 #[.val (.int p1), .val (.int p2), .val (.int p3), .val (.int p4), .val (.int p5), .val (.int p6), .val (.int i3), .val (.int i9), .val (.int i15), .val (.int i21), .val (.double (9218868437227405312 : UInt64)), .second, .val (.double x0), .second, .val (.double x1), .second, .val (.double x2), .second, .val (.ref b_1), .unset, .unset, .unset, .unset, .unset] []))
            refine Go.step (fun t k => XS.iload X_6.here hx rfl (hb hby at_139) rfl  k) ?_
            show Go p.tables e below P (T_6.setTop (mkF m 141 #[.val (.int p1), .val (.int p2), .val (.int p3), .val (.int p4), .val (.int p5), .val (.int p6), .val (.int i3), .val (.int i9), .val (.int i15), .val (.int i21), .val (.double (9218868437227405312 : UInt64)), .second, .val (.double x0), .second, .val (.double x1), .second, .val (.double x2), .second, .val (.ref b_1), .unset, .unset, .unset, .unset, .unset] [(.int i21)]))
            refine Go.step (fun t k => XS.ifYes X_6.here hx rfl (pc0 := 141) (pc' := 154) rfl (hb hby at_141) rfl (ifY (cd := .ne) (by omega : ¬ i21.toInt = 0)) (by decide) (by decide) k) ?_
            show Go p.tables e below P (T_6.setTop (mkF m 154 #[.val (.int p1), .val (.int p2), .val (.int p3), .val (.int p4), .val (.int p5), .val (.int p6), .val (.int i3), .val (.int i9), .val (.int i15), .val (.int i21), .val (.double (9218868437227405312 : UInt64)), .second, .val (.double x0), .second, .val (.double x1), .second, .val (.double x2), .second, .val (.ref b_1), .unset, .unset, .unset, .unset, .unset] []))
            refine Go.step (fun t k => XS.iload X_6.here hx rfl (hb hby at_154) rfl  k) ?_
            show Go p.tables e below P (T_6.setTop (mkF m 156 #[.val (.int p1), .val (.int p2), .val (.int p3), .val (.int p4), .val (.int p5), .val (.int p6), .val (.int i3), .val (.int i9), .val (.int i15), .val (.int i21), .val (.double (9218868437227405312 : UInt64)), .second, .val (.double x0), .second, .val (.double x1), .second, .val (.double x2), .second, .val (.ref b_1), .unset, .unset, .unset, .unset, .unset] [(.int i21)]))
            refine Go.step (fun t k => XS.iconst X_6.here hx rfl (hb hby at_156) k) ?_
            show Go p.tables e below P (T_6.setTop (mkF m 157 #[.val (.int p1), .val (.int p2), .val (.int p3), .val (.int p4), .val (.int p5), .val (.int p6), .val (.int i3), .val (.int i9), .val (.int i15), .val (.int i21), .val (.double (9218868437227405312 : UInt64)), .second, .val (.double x0), .second, .val (.double x1), .second, .val (.double x2), .second, .val (.ref b_1), .unset, .unset, .unset, .unset, .unset] [(.int (1 : Int32)), (.int i21)]))
            refine Go.step (fun t k => XS.icmpNo X_6.here hx rfl (hb hby at_157) rfl (icN (cd := .ne) (by omega : ¬ (¬ i21.toInt = (1 : Int)))) k) ?_
            show Go p.tables e below P (T_6.setTop (mkF m 160 #[.val (.int p1), .val (.int p2), .val (.int p3), .val (.int p4), .val (.int p5), .val (.int p6), .val (.int i3), .val (.int i9), .val (.int i15), .val (.int i21), .val (.double (9218868437227405312 : UInt64)), .second, .val (.double x0), .second, .val (.double x1), .second, .val (.double x2), .second, .val (.ref b_1), .unset, .unset, .unset, .unset, .unset] []))
            refine Go.step (fun t k => XS.iload X_6.here hx rfl (hb hby at_160) rfl  k) ?_
            show Go p.tables e below P (T_6.setTop (mkF m 162 #[.val (.int p1), .val (.int p2), .val (.int p3), .val (.int p4), .val (.int p5), .val (.int p6), .val (.int i3), .val (.int i9), .val (.int i15), .val (.int i21), .val (.double (9218868437227405312 : UInt64)), .second, .val (.double x0), .second, .val (.double x1), .second, .val (.double x2), .second, .val (.ref b_1), .unset, .unset, .unset, .unset, .unset] [(.int i3)]))
            refine Go.step (fun t k => XS.istore X_6.here hx rfl (hb hby at_162) rfl (l' := #[.val (.int p1), .val (.int p2), .val (.int p3), .val (.int p4), .val (.int p5), .val (.int p6), .val (.int i3), .val (.int i9), .val (.int i15), .val (.int i21), .val (.double (9218868437227405312 : UInt64)), .second, .val (.double x0), .second, .val (.double x1), .second, .val (.double x2), .second, .val (.ref b_1), .val (.int i3), .unset, .unset, .unset, .unset]) rfl k) ?_
            show Go p.tables e below P (T_6.setTop (mkF m 164 #[.val (.int p1), .val (.int p2), .val (.int p3), .val (.int p4), .val (.int p5), .val (.int p6), .val (.int i3), .val (.int i9), .val (.int i15), .val (.int i21), .val (.double (9218868437227405312 : UInt64)), .second, .val (.double x0), .second, .val (.double x1), .second, .val (.double x2), .second, .val (.ref b_1), .val (.int i3), .unset, .unset, .unset, .unset] []))
            refine Go.step (fun t k => XS.dload X_6.here hx rfl (hb hby at_164) rfl  k) ?_
            show Go p.tables e below P (T_6.setTop (mkF m 166 #[.val (.int p1), .val (.int p2), .val (.int p3), .val (.int p4), .val (.int p5), .val (.int p6), .val (.int i3), .val (.int i9), .val (.int i15), .val (.int i21), .val (.double (9218868437227405312 : UInt64)), .second, .val (.double x0), .second, .val (.double x1), .second, .val (.double x2), .second, .val (.ref b_1), .val (.int i3), .unset, .unset, .unset, .unset] [(.double x0)]))
            refine Go.step (fun t k => XS.dstore X_6.here hx rfl (hb hby at_166) rfl (l' := #[.val (.int p1), .val (.int p2), .val (.int p3), .val (.int p4), .val (.int p5), .val (.int p6), .val (.int i3), .val (.int i9), .val (.int i15), .val (.int i21), .val (.double (9218868437227405312 : UInt64)), .second, .val (.double x0), .second, .val (.double x1), .second, .val (.double x2), .second, .val (.ref b_1), .val (.int i3), .val (.double x0), .second, .unset, .unset]) rfl k) ?_
            show Go p.tables e below P (T_6.setTop (mkF m 168 #[.val (.int p1), .val (.int p2), .val (.int p3), .val (.int p4), .val (.int p5), .val (.int p6), .val (.int i3), .val (.int i9), .val (.int i15), .val (.int i21), .val (.double (9218868437227405312 : UInt64)), .second, .val (.double x0), .second, .val (.double x1), .second, .val (.double x2), .second, .val (.ref b_1), .val (.int i3), .val (.double x0), .second, .unset, .unset] []))
            refine Go.step (fun t k => XS.goto X_6.here hx rfl (pc0 := 168) (pc' := 278) rfl (hb hby at_168) (by decide) (by decide) k) ?_
            show Go p.tables e below P (T_6.setTop (mkF m 278 #[.val (.int p1), .val (.int p2), .val (.int p3), .val (.int p4), .val (.int p5), .val (.int p6), .val (.int i3), .val (.int i9), .val (.int i15), .val (.int i21), .val (.double (9218868437227405312 : UInt64)), .second, .val (.double x0), .second, .val (.double x1), .second, .val (.double x2), .second, .val (.ref b_1), .val (.int i3), .val (.double x0), .second, .unset, .unset] []))
            have e1 : i3 = ix1 ∧ x0 = ds1 := by rcases of1 with ⟨_, h1, h2⟩ | ⟨h1, _⟩; exact ⟨h1.symm, h2.symm⟩; exact absurd (Or.inl (by decide)) h1
            obtain ⟨rfl, rfl⟩ := e1
            show Go p.tables e below P (T_6.setTop (mkF m 278 #[.val (.int p1), .val (.int p2), .val (.int p3), .val (.int p4), .val (.int p5), .val (.int p6), .val (.int i3), .val (.int i9), .val (.int i15), .val (.int i21), .val (.double (9218868437227405312 : UInt64)), .second, .val (.double x0), .second, .val (.double x1), .second, .val (.double x2), .second, .val (.ref b_1), .val (.int i3), .val (.double x0), .second, .unset, .unset] []))
            refine Go.step (fun t k => XS.aload X_6.here hx rfl (hb hby at_278) rfl rfl k) ?_
            show Go p.tables e below P (T_6.setTop (mkF m 280 #[.val (.int p1), .val (.int p2), .val (.int p3), .val (.int p4), .val (.int p5), .val (.int p6), .val (.int i3), .val (.int i9), .val (.int i15), .val (.int i21), .val (.double (9218868437227405312 : UInt64)), .second, .val (.double x0), .second, .val (.double x1), .second, .val (.double x2), .second, .val (.ref b_1), .val (.int i3), .val (.double x0), .second, .unset, .unset] [(.ref b_1)]))
            obtain ⟨cq_7, kq_7, q_7a, q_7b, q_7c⟩ := isOf hZ rfl ((A_1.keep Kc_2).keep Kc_6)
            obtain ⟨_, _, ⟨T_7, L_7, k_7, n_7⟩, -, X_7, ⟨Lc_7, hQ_7, l_7, y_7, z_7⟩, st_7⟩ := X_6.virtualBack hx (y := (⟨"com/example/fieldroster/fieldroster/policy/Nearest", "found", "()Z"⟩ : MethodName)) (z := (⟨"com/example/fieldroster/fieldroster/policy/Nearest", "found", "()Z"⟩ : MethodName)) hown (mvT hZ (hw _ (List.mem_of_getElem? (i := 16) rfl))) (mvT hZ (hw _ (List.mem_of_getElem? (i := 17) rfl))) (notFace_of_selects (args := #[]) (mvT hZ (hw _ (List.mem_of_getElem? (i := 19) rfl)))) (mvT hZ (hw _ (List.mem_of_getElem? (i := 19) rfl))) (mvT hZ (hw _ (List.mem_of_getElem? (i := 18) rfl))) (by decide) (backOf (W := 0) (rm3 l Z a0 hw [] b_1 i3 T_6.heap n0 Z_6 Fi_6) hZ (hw _ (List.mem_of_getElem? (i := 20) rfl)) (hw _ (List.mem_of_getElem? (i := 4) rfl)) (by decide) (by decide)) q_7a q_7c (g := (mkF m 280 #[.val (.int p1), .val (.int p2), .val (.int p3), .val (.int p4), .val (.int p5), .val (.int p6), .val (.int i3), .val (.int i9), .val (.int i15), .val (.int i21), .val (.double (9218868437227405312 : UInt64)), .second, .val (.double x0), .second, .val (.double x1), .second, .val (.double x2), .second, .val (.ref b_1), .val (.int i3), .val (.double x0), .second, .unset, .unset] [(.ref b_1)])) rfl (by rw [hml]; rfl) (Steps.refl _) (argsL := []) (rest := []) (lenOf pd_1 rfl) rfl (by show 2 * 0 + _ ≤ _; exact Nat.le_of_eq rfl) (hb hby at_280) (fun _ _ => ⟨rfl, rfl, (by decide : 1 + 0 ≤ _), (by decide : 2 + 0 ≤ _)⟩)
            dsimp only [Pt.U, Pt.locs, Pt.cells, Pt.slots] at X_7 l_7 y_7 z_7 st_7 hQ_7
            subst l_7 y_7 z_7
            obtain ⟨fr, rfl, hfr, N_7q, eh_7⟩ := hQ_7
            have N_7 := Fr.app N_6 N_7q
            refine Go.tr st_7 ?_
            show Go p.tables e below P (T_7.setTop (mkF m 283 #[.val (.int p1), .val (.int p2), .val (.int p3), .val (.int p4), .val (.int p5), .val (.int p6), .val (.int i3), .val (.int i9), .val (.int i15), .val (.int i21), .val (.double (9218868437227405312 : UInt64)), .second, .val (.double x0), .second, .val (.double x1), .second, .val (.double x2), .second, .val (.ref b_1), .val (.int i3), .val (.double x0), .second, .unset, .unset] [(.int fr)]))
            refine Go.step (fun t k => XS.iload X_7.here hx rfl (hb hby at_283) rfl  k) ?_
            show Go p.tables e below P (T_7.setTop (mkF m 285 #[.val (.int p1), .val (.int p2), .val (.int p3), .val (.int p4), .val (.int p5), .val (.int p6), .val (.int i3), .val (.int i9), .val (.int i15), .val (.int i21), .val (.double (9218868437227405312 : UInt64)), .second, .val (.double x0), .second, .val (.double x1), .second, .val (.double x2), .second, .val (.ref b_1), .val (.int i3), .val (.double x0), .second, .unset, .unset] [(.int i21), (.int fr)]))
            refine Go.step (fun t k => XS.iconst X_7.here hx rfl (hb hby at_285) k) ?_
            show Go p.tables e below P (T_7.setTop (mkF m 286 #[.val (.int p1), .val (.int p2), .val (.int p3), .val (.int p4), .val (.int p5), .val (.int p6), .val (.int i3), .val (.int i9), .val (.int i15), .val (.int i21), .val (.double (9218868437227405312 : UInt64)), .second, .val (.double x0), .second, .val (.double x1), .second, .val (.double x2), .second, .val (.ref b_1), .val (.int i3), .val (.double x0), .second, .unset, .unset] [(.int (1 : Int32)), (.int i21), (.int fr)]))
            refine Go.step (fun t k => XS.icmpNo X_7.here hx rfl (hb hby at_286) rfl (icN (cd := .lt) (by omega : ¬ (i21.toInt < (1 : Int)))) k) ?_
            show Go p.tables e below P (T_7.setTop (mkF m 289 #[.val (.int p1), .val (.int p2), .val (.int p3), .val (.int p4), .val (.int p5), .val (.int p6), .val (.int i3), .val (.int i9), .val (.int i15), .val (.int i21), .val (.double (9218868437227405312 : UInt64)), .second, .val (.double x0), .second, .val (.double x1), .second, .val (.double x2), .second, .val (.ref b_1), .val (.int i3), .val (.double x0), .second, .unset, .unset] [(.int fr)]))
            refine Go.step (fun t k => XS.iconst X_7.here hx rfl (hb hby at_289) k) ?_
            show Go p.tables e below P (T_7.setTop (mkF m 290 #[.val (.int p1), .val (.int p2), .val (.int p3), .val (.int p4), .val (.int p5), .val (.int p6), .val (.int i3), .val (.int i9), .val (.int i15), .val (.int i21), .val (.double (9218868437227405312 : UInt64)), .second, .val (.double x0), .second, .val (.double x1), .second, .val (.double x2), .second, .val (.ref b_1), .val (.int i3), .val (.double x0), .second, .unset, .unset] [(.int (1 : Int32)), (.int fr)]))
            refine Go.step (fun t k => XS.goto X_7.here hx rfl (pc0 := 290) (pc' := 294) rfl (hb hby at_290) (by decide) (by decide) k) ?_
            show Go p.tables e below P (T_7.setTop (mkF m 294 #[.val (.int p1), .val (.int p2), .val (.int p3), .val (.int p4), .val (.int p5), .val (.int p6), .val (.int i3), .val (.int i9), .val (.int i15), .val (.int i21), .val (.double (9218868437227405312 : UInt64)), .second, .val (.double x0), .second, .val (.double x1), .second, .val (.double x2), .second, .val (.ref b_1), .val (.int i3), .val (.double x0), .second, .unset, .unset] [(.int (1 : Int32)), (.int fr)]))
            refine Go.step (fun t k => XS.icmpNo X_7.here hx rfl (hb hby at_294) rfl (icN (cd := .ne) (by omega : ¬ (¬ fr.toInt = (1 : Int)))) k) ?_
            show Go p.tables e below P (T_7.setTop (mkF m 297 #[.val (.int p1), .val (.int p2), .val (.int p3), .val (.int p4), .val (.int p5), .val (.int p6), .val (.int i3), .val (.int i9), .val (.int i15), .val (.int i21), .val (.double (9218868437227405312 : UInt64)), .second, .val (.double x0), .second, .val (.double x1), .second, .val (.double x2), .second, .val (.ref b_1), .val (.int i3), .val (.double x0), .second, .unset, .unset] []))
            refine Go.step (fun t k => XS.aload X_7.here hx rfl (hb hby at_297) rfl rfl k) ?_
            show Go p.tables e below P (T_7.setTop (mkF m 299 #[.val (.int p1), .val (.int p2), .val (.int p3), .val (.int p4), .val (.int p5), .val (.int p6), .val (.int i3), .val (.int i9), .val (.int i15), .val (.int i21), .val (.double (9218868437227405312 : UInt64)), .second, .val (.double x0), .second, .val (.double x1), .second, .val (.double x2), .second, .val (.ref b_1), .val (.int i3), .val (.double x0), .second, .unset, .unset] [(.ref b_1)]))
            obtain ⟨cq_8, kq_8, q_8a, q_8b, q_8c⟩ := isOf hZ eh_7 ((A_1.keep Kc_2).keep Kc_6)
            obtain ⟨_, _, ⟨T_8, L_8, k_8, n_8⟩, -, X_8, ⟨Lc_8, hQ_8, l_8, y_8, z_8⟩, st_8⟩ := X_7.virtualBack hx (y := (⟨"com/example/fieldroster/fieldroster/policy/Nearest", "index", "()I"⟩ : MethodName)) (z := (⟨"com/example/fieldroster/fieldroster/policy/Nearest", "index", "()I"⟩ : MethodName)) hown (mvT hZ (hw _ (List.mem_of_getElem? (i := 21) rfl))) (mvT hZ (hw _ (List.mem_of_getElem? (i := 22) rfl))) (notFace_of_selects (args := #[]) (mvT hZ (hw _ (List.mem_of_getElem? (i := 24) rfl)))) (mvT hZ (hw _ (List.mem_of_getElem? (i := 24) rfl))) (mvT hZ (hw _ (List.mem_of_getElem? (i := 23) rfl))) (by decide) (backOf (W := 0) (rm4 l Z a0 hw [] b_1 i3 T_6.heap n0 Z_6 Fi_6) hZ (hw _ (List.mem_of_getElem? (i := 25) rfl)) (hw _ (List.mem_of_getElem? (i := 4) rfl)) (by decide) (by decide)) q_8a q_8c (g := (mkF m 299 #[.val (.int p1), .val (.int p2), .val (.int p3), .val (.int p4), .val (.int p5), .val (.int p6), .val (.int i3), .val (.int i9), .val (.int i15), .val (.int i21), .val (.double (9218868437227405312 : UInt64)), .second, .val (.double x0), .second, .val (.double x1), .second, .val (.double x2), .second, .val (.ref b_1), .val (.int i3), .val (.double x0), .second, .unset, .unset] [(.ref b_1)])) rfl (by rw [hml]; rfl) (Steps.refl _) (argsL := []) (rest := []) (lenOf pd_2 rfl) rfl (by show 2 * 0 + _ ≤ _; exact Nat.le_of_eq rfl) (hb hby at_299) (fun _ _ => ⟨rfl, eh_7, (by decide : 1 + 0 ≤ _), (by decide : 2 + 0 ≤ _)⟩)
            dsimp only [Pt.U, Pt.locs, Pt.cells, Pt.slots] at X_8 l_8 y_8 z_8 st_8 hQ_8
            subst l_8 y_8 z_8
            obtain ⟨rfl, N_8q, eh_8⟩ := hQ_8
            have N_8 := Fr.app N_7 N_8q
            refine Go.tr st_8 ?_
            show Go p.tables e below P (T_8.setTop (mkF m 302 #[.val (.int p1), .val (.int p2), .val (.int p3), .val (.int p4), .val (.int p5), .val (.int p6), .val (.int i3), .val (.int i9), .val (.int i15), .val (.int i21), .val (.double (9218868437227405312 : UInt64)), .second, .val (.double x0), .second, .val (.double x1), .second, .val (.double x2), .second, .val (.ref b_1), .val (.int i3), .val (.double x0), .second, .unset, .unset] [(.int i3)]))
            refine Go.step (fun t k => XS.iload X_8.here hx rfl (hb hby at_302) rfl  k) ?_
            show Go p.tables e below P (T_8.setTop (mkF m 304 #[.val (.int p1), .val (.int p2), .val (.int p3), .val (.int p4), .val (.int p5), .val (.int p6), .val (.int i3), .val (.int i9), .val (.int i15), .val (.int i21), .val (.double (9218868437227405312 : UInt64)), .second, .val (.double x0), .second, .val (.double x1), .second, .val (.double x2), .second, .val (.ref b_1), .val (.int i3), .val (.double x0), .second, .unset, .unset] [(.int i3), (.int i3)]))
            refine Go.step (fun t k => XS.icmpNo X_8.here hx rfl (hb hby at_304) rfl (icN (cd := .ne) (fun q => q rfl)) k) ?_
            show Go p.tables e below P (T_8.setTop (mkF m 307 #[.val (.int p1), .val (.int p2), .val (.int p3), .val (.int p4), .val (.int p5), .val (.int p6), .val (.int i3), .val (.int i9), .val (.int i15), .val (.int i21), .val (.double (9218868437227405312 : UInt64)), .second, .val (.double x0), .second, .val (.double x1), .second, .val (.double x2), .second, .val (.ref b_1), .val (.int i3), .val (.double x0), .second, .unset, .unset] []))
            refine Go.step (fun t k => XS.aload X_8.here hx rfl (hb hby at_307) rfl rfl k) ?_
            show Go p.tables e below P (T_8.setTop (mkF m 309 #[.val (.int p1), .val (.int p2), .val (.int p3), .val (.int p4), .val (.int p5), .val (.int p6), .val (.int i3), .val (.int i9), .val (.int i15), .val (.int i21), .val (.double (9218868437227405312 : UInt64)), .second, .val (.double x0), .second, .val (.double x1), .second, .val (.double x2), .second, .val (.ref b_1), .val (.int i3), .val (.double x0), .second, .unset, .unset] [(.ref b_1)]))
            obtain ⟨cq_9, kq_9, q_9a, q_9b, q_9c⟩ := isOf hZ eh_8 ((A_1.keep Kc_2).keep Kc_6)
            obtain ⟨_, _, ⟨T_9, L_9, k_9, n_9⟩, -, X_9, ⟨Lc_9, hQ_9, l_9, y_9, z_9⟩, st_9⟩ := X_8.virtualBack hx (y := (⟨"com/example/fieldroster/fieldroster/policy/Nearest", "distance", "()D"⟩ : MethodName)) (z := (⟨"com/example/fieldroster/fieldroster/policy/Nearest", "distance", "()D"⟩ : MethodName)) hown (mvT hZ (hw _ (List.mem_of_getElem? (i := 26) rfl))) (mvT hZ (hw _ (List.mem_of_getElem? (i := 27) rfl))) (notFace_of_selects (args := #[]) (mvT hZ (hw _ (List.mem_of_getElem? (i := 29) rfl)))) (mvT hZ (hw _ (List.mem_of_getElem? (i := 29) rfl))) (mvT hZ (hw _ (List.mem_of_getElem? (i := 28) rfl))) (by decide) (backOf (W := 0) (rm5 l Z a0 hw [] b_1 x0 T_6.heap n0 Z_6 Fd_6) hZ (hw _ (List.mem_of_getElem? (i := 30) rfl)) (hw _ (List.mem_of_getElem? (i := 4) rfl)) (by decide) (by decide)) q_9a q_9c (g := (mkF m 309 #[.val (.int p1), .val (.int p2), .val (.int p3), .val (.int p4), .val (.int p5), .val (.int p6), .val (.int i3), .val (.int i9), .val (.int i15), .val (.int i21), .val (.double (9218868437227405312 : UInt64)), .second, .val (.double x0), .second, .val (.double x1), .second, .val (.double x2), .second, .val (.ref b_1), .val (.int i3), .val (.double x0), .second, .unset, .unset] [(.ref b_1)])) rfl (by rw [hml]; rfl) (Steps.refl _) (argsL := []) (rest := []) (lenOf pd_3 rfl) rfl (by show 2 * 0 + _ ≤ _; exact Nat.le_of_eq rfl) (hb hby at_309) (fun _ _ => ⟨rfl, eh_8, (by decide : 1 + 0 ≤ _), (by decide : 2 + 0 ≤ _)⟩)
            dsimp only [Pt.U, Pt.locs, Pt.cells, Pt.slots] at X_9 l_9 y_9 z_9 st_9 hQ_9
            subst l_9 y_9 z_9
            obtain ⟨rfl, N_9q, eh_9⟩ := hQ_9
            have N_9 := Fr.app N_8 N_9q
            refine Go.tr st_9 ?_
            show Go p.tables e below P (T_9.setTop (mkF m 312 #[.val (.int p1), .val (.int p2), .val (.int p3), .val (.int p4), .val (.int p5), .val (.int p6), .val (.int i3), .val (.int i9), .val (.int i15), .val (.int i21), .val (.double (9218868437227405312 : UInt64)), .second, .val (.double x0), .second, .val (.double x1), .second, .val (.double x2), .second, .val (.ref b_1), .val (.int i3), .val (.double x0), .second, .unset, .unset] [(.double x0)]))
            refine Go.step (fun t k => XS.dload X_9.here hx rfl (hb hby at_312) rfl  k) ?_
            show Go p.tables e below P (T_9.setTop (mkF m 314 #[.val (.int p1), .val (.int p2), .val (.int p3), .val (.int p4), .val (.int p5), .val (.int p6), .val (.int i3), .val (.int i9), .val (.int i15), .val (.int i21), .val (.double (9218868437227405312 : UInt64)), .second, .val (.double x0), .second, .val (.double x1), .second, .val (.double x2), .second, .val (.ref b_1), .val (.int i3), .val (.double x0), .second, .unset, .unset] [(.double x0), (.double x0)]))
            refine Go.step (fun t k => XS.dcmpS X_9.here hx rfl (hb hby at_314) rfl rfl k) ?_
            show Go p.tables e below P (T_9.setTop (mkF m 315 #[.val (.int p1), .val (.int p2), .val (.int p3), .val (.int p4), .val (.int p5), .val (.int p6), .val (.int i3), .val (.int i9), .val (.int i15), .val (.int i21), .val (.double (9218868437227405312 : UInt64)), .second, .val (.double x0), .second, .val (.double x1), .second, .val (.double x2), .second, .val (.ref b_1), .val (.int i3), .val (.double x0), .second, .unset, .unset] [(.int (cmpValue (FP.dcmp x0 x0) .l))]))
            refine Go.step (fun t k => XS.ifNo X_9.here hx rfl (hb hby at_315) rfl (dcN (cd := .ne) (zcmp hx0 hx0) (fun q => q rfl)) k) ?_
            show Go p.tables e below P (T_9.setTop (mkF m 318 #[.val (.int p1), .val (.int p2), .val (.int p3), .val (.int p4), .val (.int p5), .val (.int p6), .val (.int i3), .val (.int i9), .val (.int i15), .val (.int i21), .val (.double (9218868437227405312 : UInt64)), .second, .val (.double x0), .second, .val (.double x1), .second, .val (.double x2), .second, .val (.ref b_1), .val (.int i3), .val (.double x0), .second, .unset, .unset] []))
            refine Go.step (fun t k => XS.iconst X_9.here hx rfl (hb hby at_318) k) ?_
            show Go p.tables e below P (T_9.setTop (mkF m 319 #[.val (.int p1), .val (.int p2), .val (.int p3), .val (.int p4), .val (.int p5), .val (.int p6), .val (.int i3), .val (.int i9), .val (.int i15), .val (.int i21), .val (.double (9218868437227405312 : UInt64)), .second, .val (.double x0), .second, .val (.double x1), .second, .val (.double x2), .second, .val (.ref b_1), .val (.int i3), .val (.double x0), .second, .unset, .unset] [(.int (1 : Int32))]))
            refine Go.step (fun t k => XS.goto X_9.here hx rfl (pc0 := 319) (pc' := 323) rfl (hb hby at_319) (by decide) (by decide) k) ?_
            show Go p.tables e below P (T_9.setTop (mkF m 323 #[.val (.int p1), .val (.int p2), .val (.int p3), .val (.int p4), .val (.int p5), .val (.int p6), .val (.int i3), .val (.int i9), .val (.int i15), .val (.int i21), .val (.double (9218868437227405312 : UInt64)), .second, .val (.double x0), .second, .val (.double x1), .second, .val (.double x2), .second, .val (.ref b_1), .val (.int i3), .val (.double x0), .second, .unset, .unset] [(.int (1 : Int32))]))
            exact retGo X_9 hx hP Bd.returns hlk rfl (Or.inl ⟨rfl, Or.inr (Or.inl rfl), _, rfl⟩) (hb hby at_323) (by decide) (by decide) (by rw [eh_9]; exact ⟨rfl, N_9⟩)
          · refine Go.step (fun t k => XS.icmpNo X_6.here hx rfl (hb hby at_112) rfl (icN (cd := .lt) hc112) k) ?_
            show Go p.tables e below P (T_6.setTop (mkF m 115 #[.val (.int p1), .val (.int p2), .val (.int p3), .val (.int p4), .val (.int p5), .val (.int p6), .val (.int i3), .val (.int i9), .val (.int i15), .val (.int i21), .val (.double (9218868437227405312 : UInt64)), .second, .val (.double x0), .second, .val (.double x1), .second, .val (.double x2), .second, .val (.ref b_1), .unset, .unset, .unset, .unset, .unset] []))
            refine Go.step (fun t k => XS.aload X_6.here hx rfl (hb hby at_115) rfl rfl k) ?_
            show Go p.tables e below P (T_6.setTop (mkF m 117 #[.val (.int p1), .val (.int p2), .val (.int p3), .val (.int p4), .val (.int p5), .val (.int p6), .val (.int i3), .val (.int i9), .val (.int i15), .val (.int i21), .val (.double (9218868437227405312 : UInt64)), .second, .val (.double x0), .second, .val (.double x1), .second, .val (.double x2), .second, .val (.ref b_1), .unset, .unset, .unset, .unset, .unset] [(.ref b_1)]))
            refine Go.step (fun t k => XS.iload X_6.here hx rfl (hb hby at_117) rfl  k) ?_
            show Go p.tables e below P (T_6.setTop (mkF m 119 #[.val (.int p1), .val (.int p2), .val (.int p3), .val (.int p4), .val (.int p5), .val (.int p6), .val (.int i3), .val (.int i9), .val (.int i15), .val (.int i21), .val (.double (9218868437227405312 : UInt64)), .second, .val (.double x0), .second, .val (.double x1), .second, .val (.double x2), .second, .val (.ref b_1), .unset, .unset, .unset, .unset, .unset] [(.int i9), (.ref b_1)]))
            refine Go.step (fun t k => XS.dload X_6.here hx rfl (hb hby at_119) rfl  k) ?_
            show Go p.tables e below P (T_6.setTop (mkF m 121 #[.val (.int p1), .val (.int p2), .val (.int p3), .val (.int p4), .val (.int p5), .val (.int p6), .val (.int i3), .val (.int i9), .val (.int i15), .val (.int i21), .val (.double (9218868437227405312 : UInt64)), .second, .val (.double x0), .second, .val (.double x1), .second, .val (.double x2), .second, .val (.ref b_1), .unset, .unset, .unset, .unset, .unset] [(.double x1), (.int i9), (.ref b_1)]))
            obtain ⟨cq_10, kq_10, q_10a, q_10b, q_10c⟩ := isOf hZ rfl ((A_1.keep Kc_2).keep Kc_6)
            obtain ⟨_, _, ⟨T_10, L_10, k_10, n_10⟩, -, X_10, ⟨Lc_10, hQ_10, l_10, y_10, z_10⟩, st_10⟩ := X_6.virtualBack hx (y := (⟨"com/example/fieldroster/fieldroster/policy/Nearest", "offer", "(ID)V"⟩ : MethodName)) (z := (⟨"com/example/fieldroster/fieldroster/policy/Nearest", "offer", "(ID)V"⟩ : MethodName)) hown (mvT hZ (hw _ (List.mem_of_getElem? (i := 31) rfl))) (mvT hZ (hw _ (List.mem_of_getElem? (i := 32) rfl))) (notFace_of_selects (args := #[]) (mvT hZ (hw _ (List.mem_of_getElem? (i := 34) rfl)))) (mvT hZ (hw _ (List.mem_of_getElem? (i := 34) rfl))) (mvT hZ (hw _ (List.mem_of_getElem? (i := 33) rfl))) (by decide) (backOf (W := 0) (rm2 l Z a0 hw [] b_1 i9 x1 ix1 ds1 T_6.heap n0 Z_6 ((A_1.keep Kc_2).keep Kc_6) Fi_6 Fd_6 g_b_1 hx1 nn1) hZ (hw _ (List.mem_of_getElem? (i := 35) rfl)) (hw _ (List.mem_of_getElem? (i := 4) rfl)) (by decide) (by decide)) q_10a q_10c (g := (mkF m 121 #[.val (.int p1), .val (.int p2), .val (.int p3), .val (.int p4), .val (.int p5), .val (.int p6), .val (.int i3), .val (.int i9), .val (.int i15), .val (.int i21), .val (.double (9218868437227405312 : UInt64)), .second, .val (.double x0), .second, .val (.double x1), .second, .val (.double x2), .second, .val (.ref b_1), .unset, .unset, .unset, .unset, .unset] [(.double x1), (.int i9), (.ref b_1)])) rfl (by rw [hml]; rfl) (Steps.refl _) (argsL := [(.int i9), (.double x1)]) (rest := []) (lenOf pd_4 rfl) rfl (by show 2 * 0 + _ ≤ _; exact Nat.le_of_eq rfl) (hb hby at_121) (fun _ _ => ⟨rfl, rfl, (by decide : 1 + 0 ≤ _), (by decide : 2 + 0 ≤ _)⟩)
            dsimp only [Pt.U, Pt.locs, Pt.cells, Pt.slots] at X_10 l_10 y_10 z_10 st_10 hQ_10
            subst l_10 y_10 z_10
            obtain ⟨rfl, N_10q, Kc_10, Ee_10, ix2, ds2, Fi_10, Fd_10, of2⟩ := hQ_10
            have N_10 := Fr.app N_6 N_10q
            have K_10 : Keep h0 T_10.heap [] := K_6.trans Kc_10 (allS (Or.inr sz_b_1) all0)
            have Z_10 : n0 ≤ T_10.heap.size := Nat.le_trans Z_6 Kc_10.1
            refine Go.tr st_10 ?_
            show Go p.tables e below P (T_10.setTop (mkF m 124 #[.val (.int p1), .val (.int p2), .val (.int p3), .val (.int p4), .val (.int p5), .val (.int p6), .val (.int i3), .val (.int i9), .val (.int i15), .val (.int i21), .val (.double (9218868437227405312 : UInt64)), .second, .val (.double x0), .second, .val (.double x1), .second, .val (.double x2), .second, .val (.ref b_1), .unset, .unset, .unset, .unset, .unset] []))
            refine Go.step (fun t k => XS.iload X_10.here hx rfl (hb hby at_124) rfl  k) ?_
            show Go p.tables e below P (T_10.setTop (mkF m 126 #[.val (.int p1), .val (.int p2), .val (.int p3), .val (.int p4), .val (.int p5), .val (.int p6), .val (.int i3), .val (.int i9), .val (.int i15), .val (.int i21), .val (.double (9218868437227405312 : UInt64)), .second, .val (.double x0), .second, .val (.double x1), .second, .val (.double x2), .second, .val (.ref b_1), .unset, .unset, .unset, .unset, .unset] [(.int i21)]))
            refine Go.step (fun t k => XS.iconst X_10.here hx rfl (hb hby at_126) k) ?_
            show Go p.tables e below P (T_10.setTop (mkF m 127 #[.val (.int p1), .val (.int p2), .val (.int p3), .val (.int p4), .val (.int p5), .val (.int p6), .val (.int i3), .val (.int i9), .val (.int i15), .val (.int i21), .val (.double (9218868437227405312 : UInt64)), .second, .val (.double x0), .second, .val (.double x1), .second, .val (.double x2), .second, .val (.ref b_1), .unset, .unset, .unset, .unset, .unset] [(.int (3 : Int32)), (.int i21)]))
            have nn2 : FP.Core.val64 ds2 ≠ .nan := by rcases of2 with ⟨_, _, h⟩ | ⟨_, _, h⟩ <;> rw [h]; exact hx1; exact nn1
            by_cases hc127 : i21.toInt < (3 : Int)
            · refine Go.step (fun t k => XS.icmpYes X_10.here hx rfl (pc0 := 127) (pc' := 139) rfl (hb hby at_127) rfl (icY (cd := .lt) hc127) (by decide) (by decide) k) ?_
              show Go p.tables e below P (T_10.setTop (mkF m 139 #[.val (.int p1), .val (.int p2), .val (.int p3), .val (.int p4), .val (.int p5), .val (.int p6), .val (.int i3), .val (.int i9), .val (.int i15), .val (.int i21), .val (.double (9218868437227405312 : UInt64)), .second, .val (.double x0), .second, .val (.double x1), .second, .val (.double x2), .second, .val (.ref b_1), .unset, .unset, .unset, .unset, .unset] []))
              refine Go.step (fun t k => XS.iload X_10.here hx rfl (hb hby at_139) rfl  k) ?_
              show Go p.tables e below P (T_10.setTop (mkF m 141 #[.val (.int p1), .val (.int p2), .val (.int p3), .val (.int p4), .val (.int p5), .val (.int p6), .val (.int i3), .val (.int i9), .val (.int i15), .val (.int i21), .val (.double (9218868437227405312 : UInt64)), .second, .val (.double x0), .second, .val (.double x1), .second, .val (.double x2), .second, .val (.ref b_1), .unset, .unset, .unset, .unset, .unset] [(.int i21)]))
              refine Go.step (fun t k => XS.ifYes X_10.here hx rfl (pc0 := 141) (pc' := 154) rfl (hb hby at_141) rfl (ifY (cd := .ne) (by omega : ¬ i21.toInt = 0)) (by decide) (by decide) k) ?_
              show Go p.tables e below P (T_10.setTop (mkF m 154 #[.val (.int p1), .val (.int p2), .val (.int p3), .val (.int p4), .val (.int p5), .val (.int p6), .val (.int i3), .val (.int i9), .val (.int i15), .val (.int i21), .val (.double (9218868437227405312 : UInt64)), .second, .val (.double x0), .second, .val (.double x1), .second, .val (.double x2), .second, .val (.ref b_1), .unset, .unset, .unset, .unset, .unset] []))
              refine Go.step (fun t k => XS.iload X_10.here hx rfl (hb hby at_154) rfl  k) ?_
              show Go p.tables e below P (T_10.setTop (mkF m 156 #[.val (.int p1), .val (.int p2), .val (.int p3), .val (.int p4), .val (.int p5), .val (.int p6), .val (.int i3), .val (.int i9), .val (.int i15), .val (.int i21), .val (.double (9218868437227405312 : UInt64)), .second, .val (.double x0), .second, .val (.double x1), .second, .val (.double x2), .second, .val (.ref b_1), .unset, .unset, .unset, .unset, .unset] [(.int i21)]))
              refine Go.step (fun t k => XS.iconst X_10.here hx rfl (hb hby at_156) k) ?_
              show Go p.tables e below P (T_10.setTop (mkF m 157 #[.val (.int p1), .val (.int p2), .val (.int p3), .val (.int p4), .val (.int p5), .val (.int p6), .val (.int i3), .val (.int i9), .val (.int i15), .val (.int i21), .val (.double (9218868437227405312 : UInt64)), .second, .val (.double x0), .second, .val (.double x1), .second, .val (.double x2), .second, .val (.ref b_1), .unset, .unset, .unset, .unset, .unset] [(.int (1 : Int32)), (.int i21)]))
              refine Go.step (fun t k => XS.icmpYes X_10.here hx rfl (pc0 := 157) (pc' := 171) rfl (hb hby at_157) rfl (icY (cd := .ne) (by omega : ¬ i21.toInt = (1 : Int))) (by decide) (by decide) k) ?_
              show Go p.tables e below P (T_10.setTop (mkF m 171 #[.val (.int p1), .val (.int p2), .val (.int p3), .val (.int p4), .val (.int p5), .val (.int p6), .val (.int i3), .val (.int i9), .val (.int i15), .val (.int i21), .val (.double (9218868437227405312 : UInt64)), .second, .val (.double x0), .second, .val (.double x1), .second, .val (.double x2), .second, .val (.ref b_1), .unset, .unset, .unset, .unset, .unset] []))
              refine Go.step (fun t k => XS.iload X_10.here hx rfl (hb hby at_171) rfl  k) ?_
              show Go p.tables e below P (T_10.setTop (mkF m 173 #[.val (.int p1), .val (.int p2), .val (.int p3), .val (.int p4), .val (.int p5), .val (.int p6), .val (.int i3), .val (.int i9), .val (.int i15), .val (.int i21), .val (.double (9218868437227405312 : UInt64)), .second, .val (.double x0), .second, .val (.double x1), .second, .val (.double x2), .second, .val (.ref b_1), .unset, .unset, .unset, .unset, .unset] [(.int i21)]))
              refine Go.step (fun t k => XS.iconst X_10.here hx rfl (hb hby at_173) k) ?_
              show Go p.tables e below P (T_10.setTop (mkF m 174 #[.val (.int p1), .val (.int p2), .val (.int p3), .val (.int p4), .val (.int p5), .val (.int p6), .val (.int i3), .val (.int i9), .val (.int i15), .val (.int i21), .val (.double (9218868437227405312 : UInt64)), .second, .val (.double x0), .second, .val (.double x1), .second, .val (.double x2), .second, .val (.ref b_1), .unset, .unset, .unset, .unset, .unset] [(.int (2 : Int32)), (.int i21)]))
              refine Go.step (fun t k => XS.icmpNo X_10.here hx rfl (hb hby at_174) rfl (icN (cd := .ne) (by omega : ¬ (¬ i21.toInt = (2 : Int)))) k) ?_
              show Go p.tables e below P (T_10.setTop (mkF m 177 #[.val (.int p1), .val (.int p2), .val (.int p3), .val (.int p4), .val (.int p5), .val (.int p6), .val (.int i3), .val (.int i9), .val (.int i15), .val (.int i21), .val (.double (9218868437227405312 : UInt64)), .second, .val (.double x0), .second, .val (.double x1), .second, .val (.double x2), .second, .val (.ref b_1), .unset, .unset, .unset, .unset, .unset] []))
              have e1 : i3 = ix1 ∧ x0 = ds1 := by rcases of1 with ⟨_, h1, h2⟩ | ⟨h1, _⟩; exact ⟨h1.symm, h2.symm⟩; exact absurd (Or.inl (by decide)) h1
              obtain ⟨rfl, rfl⟩ := e1
              show Go p.tables e below P (T_10.setTop (mkF m 177 #[.val (.int p1), .val (.int p2), .val (.int p3), .val (.int p4), .val (.int p5), .val (.int p6), .val (.int i3), .val (.int i9), .val (.int i15), .val (.int i21), .val (.double (9218868437227405312 : UInt64)), .second, .val (.double x0), .second, .val (.double x1), .second, .val (.double x2), .second, .val (.ref b_1), .unset, .unset, .unset, .unset, .unset] []))
              refine Go.step (fun t k => XS.dload X_10.here hx rfl (hb hby at_177) rfl  k) ?_
              show Go p.tables e below P (T_10.setTop (mkF m 179 #[.val (.int p1), .val (.int p2), .val (.int p3), .val (.int p4), .val (.int p5), .val (.int p6), .val (.int i3), .val (.int i9), .val (.int i15), .val (.int i21), .val (.double (9218868437227405312 : UInt64)), .second, .val (.double x0), .second, .val (.double x1), .second, .val (.double x2), .second, .val (.ref b_1), .unset, .unset, .unset, .unset, .unset] [(.double x1)]))
              refine Go.step (fun t k => XS.dload X_10.here hx rfl (hb hby at_179) rfl  k) ?_
              show Go p.tables e below P (T_10.setTop (mkF m 181 #[.val (.int p1), .val (.int p2), .val (.int p3), .val (.int p4), .val (.int p5), .val (.int p6), .val (.int i3), .val (.int i9), .val (.int i15), .val (.int i21), .val (.double (9218868437227405312 : UInt64)), .second, .val (.double x0), .second, .val (.double x1), .second, .val (.double x2), .second, .val (.ref b_1), .unset, .unset, .unset, .unset, .unset] [(.double x0), (.double x1)]))
              refine Go.step (fun t k => XS.dcmpS X_10.here hx rfl (hb hby at_181) rfl rfl k) ?_
              show Go p.tables e below P (T_10.setTop (mkF m 182 #[.val (.int p1), .val (.int p2), .val (.int p3), .val (.int p4), .val (.int p5), .val (.int p6), .val (.int i3), .val (.int i9), .val (.int i15), .val (.int i21), .val (.double (9218868437227405312 : UInt64)), .second, .val (.double x0), .second, .val (.double x1), .second, .val (.double x2), .second, .val (.ref b_1), .unset, .unset, .unset, .unset, .unset] [(.int (cmpValue (FP.dcmp x1 x0) .g))]))
              by_cases hc182 : (zv x0) ≤ (zv x1)
              · refine Go.step (fun t k => XS.ifYes X_10.here hx rfl (pc0 := 182) (pc' := 190) rfl (hb hby at_182) rfl (dcY (cd := .ge) (zcmp hx1 hx0) hc182) (by decide) (by decide) k) ?_
                show Go p.tables e below P (T_10.setTop (mkF m 190 #[.val (.int p1), .val (.int p2), .val (.int p3), .val (.int p4), .val (.int p5), .val (.int p6), .val (.int i3), .val (.int i9), .val (.int i15), .val (.int i21), .val (.double (9218868437227405312 : UInt64)), .second, .val (.double x0), .second, .val (.double x1), .second, .val (.double x2), .second, .val (.ref b_1), .unset, .unset, .unset, .unset, .unset] []))
                have e2 : i3 = ix2 ∧ x0 = ds2 := by rcases of2 with ⟨h1, _⟩ | ⟨_, h1, h2⟩; omega; exact ⟨h1.symm, h2.symm⟩
                obtain ⟨rfl, rfl⟩ := e2
                show Go p.tables e below P (T_10.setTop (mkF m 190 #[.val (.int p1), .val (.int p2), .val (.int p3), .val (.int p4), .val (.int p5), .val (.int p6), .val (.int i3), .val (.int i9), .val (.int i15), .val (.int i21), .val (.double (9218868437227405312 : UInt64)), .second, .val (.double x0), .second, .val (.double x1), .second, .val (.double x2), .second, .val (.ref b_1), .unset, .unset, .unset, .unset, .unset] []))
                refine Go.step (fun t k => XS.dload X_10.here hx rfl (hb hby at_190) rfl  k) ?_
                show Go p.tables e below P (T_10.setTop (mkF m 192 #[.val (.int p1), .val (.int p2), .val (.int p3), .val (.int p4), .val (.int p5), .val (.int p6), .val (.int i3), .val (.int i9), .val (.int i15), .val (.int i21), .val (.double (9218868437227405312 : UInt64)), .second, .val (.double x0), .second, .val (.double x1), .second, .val (.double x2), .second, .val (.ref b_1), .unset, .unset, .unset, .unset, .unset] [(.double x0)]))
                refine Go.step (fun t k => XS.dstore X_10.here hx rfl (hb hby at_192) rfl (l' := #[.val (.int p1), .val (.int p2), .val (.int p3), .val (.int p4), .val (.int p5), .val (.int p6), .val (.int i3), .val (.int i9), .val (.int i15), .val (.int i21), .val (.double (9218868437227405312 : UInt64)), .second, .val (.double x0), .second, .val (.double x1), .second, .val (.double x2), .second, .val (.ref b_1), .unset, .val (.double x0), .second, .unset, .unset]) rfl k) ?_
                show Go p.tables e below P (T_10.setTop (mkF m 194 #[.val (.int p1), .val (.int p2), .val (.int p3), .val (.int p4), .val (.int p5), .val (.int p6), .val (.int i3), .val (.int i9), .val (.int i15), .val (.int i21), .val (.double (9218868437227405312 : UInt64)), .second, .val (.double x0), .second, .val (.double x1), .second, .val (.double x2), .second, .val (.ref b_1), .unset, .val (.double x0), .second, .unset, .unset] []))
                refine Go.step (fun t k => XS.dload X_10.here hx rfl (hb hby at_194) rfl  k) ?_
                show Go p.tables e below P (T_10.setTop (mkF m 196 #[.val (.int p1), .val (.int p2), .val (.int p3), .val (.int p4), .val (.int p5), .val (.int p6), .val (.int i3), .val (.int i9), .val (.int i15), .val (.int i21), .val (.double (9218868437227405312 : UInt64)), .second, .val (.double x0), .second, .val (.double x1), .second, .val (.double x2), .second, .val (.ref b_1), .unset, .val (.double x0), .second, .unset, .unset] [(.double x0)]))
                refine Go.step (fun t k => XS.dload X_10.here hx rfl (hb hby at_196) rfl  k) ?_
                show Go p.tables e below P (T_10.setTop (mkF m 198 #[.val (.int p1), .val (.int p2), .val (.int p3), .val (.int p4), .val (.int p5), .val (.int p6), .val (.int i3), .val (.int i9), .val (.int i15), .val (.int i21), .val (.double (9218868437227405312 : UInt64)), .second, .val (.double x0), .second, .val (.double x1), .second, .val (.double x2), .second, .val (.ref b_1), .unset, .val (.double x0), .second, .unset, .unset] [(.double x0), (.double x0)]))
                refine Go.step (fun t k => XS.dcmpS X_10.here hx rfl (hb hby at_198) rfl rfl k) ?_
                show Go p.tables e below P (T_10.setTop (mkF m 199 #[.val (.int p1), .val (.int p2), .val (.int p3), .val (.int p4), .val (.int p5), .val (.int p6), .val (.int i3), .val (.int i9), .val (.int i15), .val (.int i21), .val (.double (9218868437227405312 : UInt64)), .second, .val (.double x0), .second, .val (.double x1), .second, .val (.double x2), .second, .val (.ref b_1), .unset, .val (.double x0), .second, .unset, .unset] [(.int (cmpValue (FP.dcmp x0 x0) .l))]))
                refine Go.step (fun t k => XS.ifNo X_10.here hx rfl (hb hby at_199) rfl (dcN (cd := .ne) (zcmp hx0 hx0) (fun q => q rfl)) k) ?_
                show Go p.tables e below P (T_10.setTop (mkF m 202 #[.val (.int p1), .val (.int p2), .val (.int p3), .val (.int p4), .val (.int p5), .val (.int p6), .val (.int i3), .val (.int i9), .val (.int i15), .val (.int i21), .val (.double (9218868437227405312 : UInt64)), .second, .val (.double x0), .second, .val (.double x1), .second, .val (.double x2), .second, .val (.ref b_1), .unset, .val (.double x0), .second, .unset, .unset] []))
                refine Go.step (fun t k => XS.iload X_10.here hx rfl (hb hby at_202) rfl  k) ?_
                show Go p.tables e below P (T_10.setTop (mkF m 204 #[.val (.int p1), .val (.int p2), .val (.int p3), .val (.int p4), .val (.int p5), .val (.int p6), .val (.int i3), .val (.int i9), .val (.int i15), .val (.int i21), .val (.double (9218868437227405312 : UInt64)), .second, .val (.double x0), .second, .val (.double x1), .second, .val (.double x2), .second, .val (.ref b_1), .unset, .val (.double x0), .second, .unset, .unset] [(.int i3)]))
                refine Go.step (fun t k => XS.goto X_10.here hx rfl (pc0 := 204) (pc' := 209) rfl (hb hby at_204) (by decide) (by decide) k) ?_
                show Go p.tables e below P (T_10.setTop (mkF m 209 #[.val (.int p1), .val (.int p2), .val (.int p3), .val (.int p4), .val (.int p5), .val (.int p6), .val (.int i3), .val (.int i9), .val (.int i15), .val (.int i21), .val (.double (9218868437227405312 : UInt64)), .second, .val (.double x0), .second, .val (.double x1), .second, .val (.double x2), .second, .val (.ref b_1), .unset, .val (.double x0), .second, .unset, .unset] [(.int i3)]))
                refine Go.step (fun t k => XS.istore X_10.here hx rfl (hb hby at_209) rfl (l' := #[.val (.int p1), .val (.int p2), .val (.int p3), .val (.int p4), .val (.int p5), .val (.int p6), .val (.int i3), .val (.int i9), .val (.int i15), .val (.int i21), .val (.double (9218868437227405312 : UInt64)), .second, .val (.double x0), .second, .val (.double x1), .second, .val (.double x2), .second, .val (.ref b_1), .val (.int i3), .val (.double x0), .second, .unset, .unset]) rfl k) ?_
                show Go p.tables e below P (T_10.setTop (mkF m 211 #[.val (.int p1), .val (.int p2), .val (.int p3), .val (.int p4), .val (.int p5), .val (.int p6), .val (.int i3), .val (.int i9), .val (.int i15), .val (.int i21), .val (.double (9218868437227405312 : UInt64)), .second, .val (.double x0), .second, .val (.double x1), .second, .val (.double x2), .second, .val (.ref b_1), .val (.int i3), .val (.double x0), .second, .unset, .unset] []))
                refine Go.step (fun t k => XS.goto X_10.here hx rfl (pc0 := 211) (pc' := 278) rfl (hb hby at_211) (by decide) (by decide) k) ?_
                show Go p.tables e below P (T_10.setTop (mkF m 278 #[.val (.int p1), .val (.int p2), .val (.int p3), .val (.int p4), .val (.int p5), .val (.int p6), .val (.int i3), .val (.int i9), .val (.int i15), .val (.int i21), .val (.double (9218868437227405312 : UInt64)), .second, .val (.double x0), .second, .val (.double x1), .second, .val (.double x2), .second, .val (.ref b_1), .val (.int i3), .val (.double x0), .second, .unset, .unset] []))
                refine Go.step (fun t k => XS.aload X_10.here hx rfl (hb hby at_278) rfl rfl k) ?_
                show Go p.tables e below P (T_10.setTop (mkF m 280 #[.val (.int p1), .val (.int p2), .val (.int p3), .val (.int p4), .val (.int p5), .val (.int p6), .val (.int i3), .val (.int i9), .val (.int i15), .val (.int i21), .val (.double (9218868437227405312 : UInt64)), .second, .val (.double x0), .second, .val (.double x1), .second, .val (.double x2), .second, .val (.ref b_1), .val (.int i3), .val (.double x0), .second, .unset, .unset] [(.ref b_1)]))
                obtain ⟨cq_11, kq_11, q_11a, q_11b, q_11c⟩ := isOf hZ rfl (((A_1.keep Kc_2).keep Kc_6).keep Kc_10)
                obtain ⟨_, _, ⟨T_11, L_11, k_11, n_11⟩, -, X_11, ⟨Lc_11, hQ_11, l_11, y_11, z_11⟩, st_11⟩ := X_10.virtualBack hx (y := (⟨"com/example/fieldroster/fieldroster/policy/Nearest", "found", "()Z"⟩ : MethodName)) (z := (⟨"com/example/fieldroster/fieldroster/policy/Nearest", "found", "()Z"⟩ : MethodName)) hown (mvT hZ (hw _ (List.mem_of_getElem? (i := 16) rfl))) (mvT hZ (hw _ (List.mem_of_getElem? (i := 17) rfl))) (notFace_of_selects (args := #[]) (mvT hZ (hw _ (List.mem_of_getElem? (i := 19) rfl)))) (mvT hZ (hw _ (List.mem_of_getElem? (i := 19) rfl))) (mvT hZ (hw _ (List.mem_of_getElem? (i := 18) rfl))) (by decide) (backOf (W := 0) (rm3 l Z a0 hw [] b_1 i3 T_10.heap n0 Z_10 Fi_10) hZ (hw _ (List.mem_of_getElem? (i := 20) rfl)) (hw _ (List.mem_of_getElem? (i := 4) rfl)) (by decide) (by decide)) q_11a q_11c (g := (mkF m 280 #[.val (.int p1), .val (.int p2), .val (.int p3), .val (.int p4), .val (.int p5), .val (.int p6), .val (.int i3), .val (.int i9), .val (.int i15), .val (.int i21), .val (.double (9218868437227405312 : UInt64)), .second, .val (.double x0), .second, .val (.double x1), .second, .val (.double x2), .second, .val (.ref b_1), .val (.int i3), .val (.double x0), .second, .unset, .unset] [(.ref b_1)])) rfl (by rw [hml]; rfl) (Steps.refl _) (argsL := []) (rest := []) (lenOf pd_1 rfl) rfl (by show 2 * 0 + _ ≤ _; exact Nat.le_of_eq rfl) (hb hby at_280) (fun _ _ => ⟨rfl, rfl, (by decide : 1 + 0 ≤ _), (by decide : 2 + 0 ≤ _)⟩)
                dsimp only [Pt.U, Pt.locs, Pt.cells, Pt.slots] at X_11 l_11 y_11 z_11 st_11 hQ_11
                subst l_11 y_11 z_11
                obtain ⟨fr, rfl, hfr, N_11q, eh_11⟩ := hQ_11
                have N_11 := Fr.app N_10 N_11q
                refine Go.tr st_11 ?_
                show Go p.tables e below P (T_11.setTop (mkF m 283 #[.val (.int p1), .val (.int p2), .val (.int p3), .val (.int p4), .val (.int p5), .val (.int p6), .val (.int i3), .val (.int i9), .val (.int i15), .val (.int i21), .val (.double (9218868437227405312 : UInt64)), .second, .val (.double x0), .second, .val (.double x1), .second, .val (.double x2), .second, .val (.ref b_1), .val (.int i3), .val (.double x0), .second, .unset, .unset] [(.int fr)]))
                refine Go.step (fun t k => XS.iload X_11.here hx rfl (hb hby at_283) rfl  k) ?_
                show Go p.tables e below P (T_11.setTop (mkF m 285 #[.val (.int p1), .val (.int p2), .val (.int p3), .val (.int p4), .val (.int p5), .val (.int p6), .val (.int i3), .val (.int i9), .val (.int i15), .val (.int i21), .val (.double (9218868437227405312 : UInt64)), .second, .val (.double x0), .second, .val (.double x1), .second, .val (.double x2), .second, .val (.ref b_1), .val (.int i3), .val (.double x0), .second, .unset, .unset] [(.int i21), (.int fr)]))
                refine Go.step (fun t k => XS.iconst X_11.here hx rfl (hb hby at_285) k) ?_
                show Go p.tables e below P (T_11.setTop (mkF m 286 #[.val (.int p1), .val (.int p2), .val (.int p3), .val (.int p4), .val (.int p5), .val (.int p6), .val (.int i3), .val (.int i9), .val (.int i15), .val (.int i21), .val (.double (9218868437227405312 : UInt64)), .second, .val (.double x0), .second, .val (.double x1), .second, .val (.double x2), .second, .val (.ref b_1), .val (.int i3), .val (.double x0), .second, .unset, .unset] [(.int (1 : Int32)), (.int i21), (.int fr)]))
                refine Go.step (fun t k => XS.icmpNo X_11.here hx rfl (hb hby at_286) rfl (icN (cd := .lt) (by omega : ¬ (i21.toInt < (1 : Int)))) k) ?_
                show Go p.tables e below P (T_11.setTop (mkF m 289 #[.val (.int p1), .val (.int p2), .val (.int p3), .val (.int p4), .val (.int p5), .val (.int p6), .val (.int i3), .val (.int i9), .val (.int i15), .val (.int i21), .val (.double (9218868437227405312 : UInt64)), .second, .val (.double x0), .second, .val (.double x1), .second, .val (.double x2), .second, .val (.ref b_1), .val (.int i3), .val (.double x0), .second, .unset, .unset] [(.int fr)]))
                refine Go.step (fun t k => XS.iconst X_11.here hx rfl (hb hby at_289) k) ?_
                show Go p.tables e below P (T_11.setTop (mkF m 290 #[.val (.int p1), .val (.int p2), .val (.int p3), .val (.int p4), .val (.int p5), .val (.int p6), .val (.int i3), .val (.int i9), .val (.int i15), .val (.int i21), .val (.double (9218868437227405312 : UInt64)), .second, .val (.double x0), .second, .val (.double x1), .second, .val (.double x2), .second, .val (.ref b_1), .val (.int i3), .val (.double x0), .second, .unset, .unset] [(.int (1 : Int32)), (.int fr)]))
                refine Go.step (fun t k => XS.goto X_11.here hx rfl (pc0 := 290) (pc' := 294) rfl (hb hby at_290) (by decide) (by decide) k) ?_
                show Go p.tables e below P (T_11.setTop (mkF m 294 #[.val (.int p1), .val (.int p2), .val (.int p3), .val (.int p4), .val (.int p5), .val (.int p6), .val (.int i3), .val (.int i9), .val (.int i15), .val (.int i21), .val (.double (9218868437227405312 : UInt64)), .second, .val (.double x0), .second, .val (.double x1), .second, .val (.double x2), .second, .val (.ref b_1), .val (.int i3), .val (.double x0), .second, .unset, .unset] [(.int (1 : Int32)), (.int fr)]))
                refine Go.step (fun t k => XS.icmpNo X_11.here hx rfl (hb hby at_294) rfl (icN (cd := .ne) (by omega : ¬ (¬ fr.toInt = (1 : Int)))) k) ?_
                show Go p.tables e below P (T_11.setTop (mkF m 297 #[.val (.int p1), .val (.int p2), .val (.int p3), .val (.int p4), .val (.int p5), .val (.int p6), .val (.int i3), .val (.int i9), .val (.int i15), .val (.int i21), .val (.double (9218868437227405312 : UInt64)), .second, .val (.double x0), .second, .val (.double x1), .second, .val (.double x2), .second, .val (.ref b_1), .val (.int i3), .val (.double x0), .second, .unset, .unset] []))
                refine Go.step (fun t k => XS.aload X_11.here hx rfl (hb hby at_297) rfl rfl k) ?_
                show Go p.tables e below P (T_11.setTop (mkF m 299 #[.val (.int p1), .val (.int p2), .val (.int p3), .val (.int p4), .val (.int p5), .val (.int p6), .val (.int i3), .val (.int i9), .val (.int i15), .val (.int i21), .val (.double (9218868437227405312 : UInt64)), .second, .val (.double x0), .second, .val (.double x1), .second, .val (.double x2), .second, .val (.ref b_1), .val (.int i3), .val (.double x0), .second, .unset, .unset] [(.ref b_1)]))
                obtain ⟨cq_12, kq_12, q_12a, q_12b, q_12c⟩ := isOf hZ eh_11 (((A_1.keep Kc_2).keep Kc_6).keep Kc_10)
                obtain ⟨_, _, ⟨T_12, L_12, k_12, n_12⟩, -, X_12, ⟨Lc_12, hQ_12, l_12, y_12, z_12⟩, st_12⟩ := X_11.virtualBack hx (y := (⟨"com/example/fieldroster/fieldroster/policy/Nearest", "index", "()I"⟩ : MethodName)) (z := (⟨"com/example/fieldroster/fieldroster/policy/Nearest", "index", "()I"⟩ : MethodName)) hown (mvT hZ (hw _ (List.mem_of_getElem? (i := 21) rfl))) (mvT hZ (hw _ (List.mem_of_getElem? (i := 22) rfl))) (notFace_of_selects (args := #[]) (mvT hZ (hw _ (List.mem_of_getElem? (i := 24) rfl)))) (mvT hZ (hw _ (List.mem_of_getElem? (i := 24) rfl))) (mvT hZ (hw _ (List.mem_of_getElem? (i := 23) rfl))) (by decide) (backOf (W := 0) (rm4 l Z a0 hw [] b_1 i3 T_10.heap n0 Z_10 Fi_10) hZ (hw _ (List.mem_of_getElem? (i := 25) rfl)) (hw _ (List.mem_of_getElem? (i := 4) rfl)) (by decide) (by decide)) q_12a q_12c (g := (mkF m 299 #[.val (.int p1), .val (.int p2), .val (.int p3), .val (.int p4), .val (.int p5), .val (.int p6), .val (.int i3), .val (.int i9), .val (.int i15), .val (.int i21), .val (.double (9218868437227405312 : UInt64)), .second, .val (.double x0), .second, .val (.double x1), .second, .val (.double x2), .second, .val (.ref b_1), .val (.int i3), .val (.double x0), .second, .unset, .unset] [(.ref b_1)])) rfl (by rw [hml]; rfl) (Steps.refl _) (argsL := []) (rest := []) (lenOf pd_2 rfl) rfl (by show 2 * 0 + _ ≤ _; exact Nat.le_of_eq rfl) (hb hby at_299) (fun _ _ => ⟨rfl, eh_11, (by decide : 1 + 0 ≤ _), (by decide : 2 + 0 ≤ _)⟩)
                dsimp only [Pt.U, Pt.locs, Pt.cells, Pt.slots] at X_12 l_12 y_12 z_12 st_12 hQ_12
                subst l_12 y_12 z_12
                obtain ⟨rfl, N_12q, eh_12⟩ := hQ_12
                have N_12 := Fr.app N_11 N_12q
                refine Go.tr st_12 ?_
                show Go p.tables e below P (T_12.setTop (mkF m 302 #[.val (.int p1), .val (.int p2), .val (.int p3), .val (.int p4), .val (.int p5), .val (.int p6), .val (.int i3), .val (.int i9), .val (.int i15), .val (.int i21), .val (.double (9218868437227405312 : UInt64)), .second, .val (.double x0), .second, .val (.double x1), .second, .val (.double x2), .second, .val (.ref b_1), .val (.int i3), .val (.double x0), .second, .unset, .unset] [(.int i3)]))
                refine Go.step (fun t k => XS.iload X_12.here hx rfl (hb hby at_302) rfl  k) ?_
                show Go p.tables e below P (T_12.setTop (mkF m 304 #[.val (.int p1), .val (.int p2), .val (.int p3), .val (.int p4), .val (.int p5), .val (.int p6), .val (.int i3), .val (.int i9), .val (.int i15), .val (.int i21), .val (.double (9218868437227405312 : UInt64)), .second, .val (.double x0), .second, .val (.double x1), .second, .val (.double x2), .second, .val (.ref b_1), .val (.int i3), .val (.double x0), .second, .unset, .unset] [(.int i3), (.int i3)]))
                refine Go.step (fun t k => XS.icmpNo X_12.here hx rfl (hb hby at_304) rfl (icN (cd := .ne) (fun q => q rfl)) k) ?_
                show Go p.tables e below P (T_12.setTop (mkF m 307 #[.val (.int p1), .val (.int p2), .val (.int p3), .val (.int p4), .val (.int p5), .val (.int p6), .val (.int i3), .val (.int i9), .val (.int i15), .val (.int i21), .val (.double (9218868437227405312 : UInt64)), .second, .val (.double x0), .second, .val (.double x1), .second, .val (.double x2), .second, .val (.ref b_1), .val (.int i3), .val (.double x0), .second, .unset, .unset] []))
                refine Go.step (fun t k => XS.aload X_12.here hx rfl (hb hby at_307) rfl rfl k) ?_
                show Go p.tables e below P (T_12.setTop (mkF m 309 #[.val (.int p1), .val (.int p2), .val (.int p3), .val (.int p4), .val (.int p5), .val (.int p6), .val (.int i3), .val (.int i9), .val (.int i15), .val (.int i21), .val (.double (9218868437227405312 : UInt64)), .second, .val (.double x0), .second, .val (.double x1), .second, .val (.double x2), .second, .val (.ref b_1), .val (.int i3), .val (.double x0), .second, .unset, .unset] [(.ref b_1)]))
                obtain ⟨cq_13, kq_13, q_13a, q_13b, q_13c⟩ := isOf hZ eh_12 (((A_1.keep Kc_2).keep Kc_6).keep Kc_10)
                obtain ⟨_, _, ⟨T_13, L_13, k_13, n_13⟩, -, X_13, ⟨Lc_13, hQ_13, l_13, y_13, z_13⟩, st_13⟩ := X_12.virtualBack hx (y := (⟨"com/example/fieldroster/fieldroster/policy/Nearest", "distance", "()D"⟩ : MethodName)) (z := (⟨"com/example/fieldroster/fieldroster/policy/Nearest", "distance", "()D"⟩ : MethodName)) hown (mvT hZ (hw _ (List.mem_of_getElem? (i := 26) rfl))) (mvT hZ (hw _ (List.mem_of_getElem? (i := 27) rfl))) (notFace_of_selects (args := #[]) (mvT hZ (hw _ (List.mem_of_getElem? (i := 29) rfl)))) (mvT hZ (hw _ (List.mem_of_getElem? (i := 29) rfl))) (mvT hZ (hw _ (List.mem_of_getElem? (i := 28) rfl))) (by decide) (backOf (W := 0) (rm5 l Z a0 hw [] b_1 x0 T_10.heap n0 Z_10 Fd_10) hZ (hw _ (List.mem_of_getElem? (i := 30) rfl)) (hw _ (List.mem_of_getElem? (i := 4) rfl)) (by decide) (by decide)) q_13a q_13c (g := (mkF m 309 #[.val (.int p1), .val (.int p2), .val (.int p3), .val (.int p4), .val (.int p5), .val (.int p6), .val (.int i3), .val (.int i9), .val (.int i15), .val (.int i21), .val (.double (9218868437227405312 : UInt64)), .second, .val (.double x0), .second, .val (.double x1), .second, .val (.double x2), .second, .val (.ref b_1), .val (.int i3), .val (.double x0), .second, .unset, .unset] [(.ref b_1)])) rfl (by rw [hml]; rfl) (Steps.refl _) (argsL := []) (rest := []) (lenOf pd_3 rfl) rfl (by show 2 * 0 + _ ≤ _; exact Nat.le_of_eq rfl) (hb hby at_309) (fun _ _ => ⟨rfl, eh_12, (by decide : 1 + 0 ≤ _), (by decide : 2 + 0 ≤ _)⟩)
                dsimp only [Pt.U, Pt.locs, Pt.cells, Pt.slots] at X_13 l_13 y_13 z_13 st_13 hQ_13
                subst l_13 y_13 z_13
                obtain ⟨rfl, N_13q, eh_13⟩ := hQ_13
                have N_13 := Fr.app N_12 N_13q
                refine Go.tr st_13 ?_
                show Go p.tables e below P (T_13.setTop (mkF m 312 #[.val (.int p1), .val (.int p2), .val (.int p3), .val (.int p4), .val (.int p5), .val (.int p6), .val (.int i3), .val (.int i9), .val (.int i15), .val (.int i21), .val (.double (9218868437227405312 : UInt64)), .second, .val (.double x0), .second, .val (.double x1), .second, .val (.double x2), .second, .val (.ref b_1), .val (.int i3), .val (.double x0), .second, .unset, .unset] [(.double x0)]))
                refine Go.step (fun t k => XS.dload X_13.here hx rfl (hb hby at_312) rfl  k) ?_
                show Go p.tables e below P (T_13.setTop (mkF m 314 #[.val (.int p1), .val (.int p2), .val (.int p3), .val (.int p4), .val (.int p5), .val (.int p6), .val (.int i3), .val (.int i9), .val (.int i15), .val (.int i21), .val (.double (9218868437227405312 : UInt64)), .second, .val (.double x0), .second, .val (.double x1), .second, .val (.double x2), .second, .val (.ref b_1), .val (.int i3), .val (.double x0), .second, .unset, .unset] [(.double x0), (.double x0)]))
                refine Go.step (fun t k => XS.dcmpS X_13.here hx rfl (hb hby at_314) rfl rfl k) ?_
                show Go p.tables e below P (T_13.setTop (mkF m 315 #[.val (.int p1), .val (.int p2), .val (.int p3), .val (.int p4), .val (.int p5), .val (.int p6), .val (.int i3), .val (.int i9), .val (.int i15), .val (.int i21), .val (.double (9218868437227405312 : UInt64)), .second, .val (.double x0), .second, .val (.double x1), .second, .val (.double x2), .second, .val (.ref b_1), .val (.int i3), .val (.double x0), .second, .unset, .unset] [(.int (cmpValue (FP.dcmp x0 x0) .l))]))
                refine Go.step (fun t k => XS.ifNo X_13.here hx rfl (hb hby at_315) rfl (dcN (cd := .ne) (zcmp hx0 hx0) (fun q => q rfl)) k) ?_
                show Go p.tables e below P (T_13.setTop (mkF m 318 #[.val (.int p1), .val (.int p2), .val (.int p3), .val (.int p4), .val (.int p5), .val (.int p6), .val (.int i3), .val (.int i9), .val (.int i15), .val (.int i21), .val (.double (9218868437227405312 : UInt64)), .second, .val (.double x0), .second, .val (.double x1), .second, .val (.double x2), .second, .val (.ref b_1), .val (.int i3), .val (.double x0), .second, .unset, .unset] []))
                refine Go.step (fun t k => XS.iconst X_13.here hx rfl (hb hby at_318) k) ?_
                show Go p.tables e below P (T_13.setTop (mkF m 319 #[.val (.int p1), .val (.int p2), .val (.int p3), .val (.int p4), .val (.int p5), .val (.int p6), .val (.int i3), .val (.int i9), .val (.int i15), .val (.int i21), .val (.double (9218868437227405312 : UInt64)), .second, .val (.double x0), .second, .val (.double x1), .second, .val (.double x2), .second, .val (.ref b_1), .val (.int i3), .val (.double x0), .second, .unset, .unset] [(.int (1 : Int32))]))
                refine Go.step (fun t k => XS.goto X_13.here hx rfl (pc0 := 319) (pc' := 323) rfl (hb hby at_319) (by decide) (by decide) k) ?_
                show Go p.tables e below P (T_13.setTop (mkF m 323 #[.val (.int p1), .val (.int p2), .val (.int p3), .val (.int p4), .val (.int p5), .val (.int p6), .val (.int i3), .val (.int i9), .val (.int i15), .val (.int i21), .val (.double (9218868437227405312 : UInt64)), .second, .val (.double x0), .second, .val (.double x1), .second, .val (.double x2), .second, .val (.ref b_1), .val (.int i3), .val (.double x0), .second, .unset, .unset] [(.int (1 : Int32))]))
                exact retGo X_13 hx hP Bd.returns hlk rfl (Or.inl ⟨rfl, Or.inr (Or.inl rfl), _, rfl⟩) (hb hby at_323) (by decide) (by decide) (by rw [eh_13]; exact ⟨rfl, N_13⟩)
              · refine Go.step (fun t k => XS.ifNo X_10.here hx rfl (hb hby at_182) rfl (dcN (cd := .ge) (zcmp hx1 hx0) hc182) k) ?_
                show Go p.tables e below P (T_10.setTop (mkF m 185 #[.val (.int p1), .val (.int p2), .val (.int p3), .val (.int p4), .val (.int p5), .val (.int p6), .val (.int i3), .val (.int i9), .val (.int i15), .val (.int i21), .val (.double (9218868437227405312 : UInt64)), .second, .val (.double x0), .second, .val (.double x1), .second, .val (.double x2), .second, .val (.ref b_1), .unset, .unset, .unset, .unset, .unset] []))
                have e2 : i9 = ix2 ∧ x1 = ds2 := by rcases of2 with ⟨_, h1, h2⟩ | ⟨h1, _⟩; exact ⟨h1.symm, h2.symm⟩; exact absurd (Or.inr (by omega)) h1
                obtain ⟨rfl, rfl⟩ := e2
                show Go p.tables e below P (T_10.setTop (mkF m 185 #[.val (.int p1), .val (.int p2), .val (.int p3), .val (.int p4), .val (.int p5), .val (.int p6), .val (.int i3), .val (.int i9), .val (.int i15), .val (.int i21), .val (.double (9218868437227405312 : UInt64)), .second, .val (.double x0), .second, .val (.double x1), .second, .val (.double x2), .second, .val (.ref b_1), .unset, .unset, .unset, .unset, .unset] []))
                refine Go.step (fun t k => XS.dload X_10.here hx rfl (hb hby at_185) rfl  k) ?_
                show Go p.tables e below P (T_10.setTop (mkF m 187 #[.val (.int p1), .val (.int p2), .val (.int p3), .val (.int p4), .val (.int p5), .val (.int p6), .val (.int i3), .val (.int i9), .val (.int i15), .val (.int i21), .val (.double (9218868437227405312 : UInt64)), .second, .val (.double x0), .second, .val (.double x1), .second, .val (.double x2), .second, .val (.ref b_1), .unset, .unset, .unset, .unset, .unset] [(.double x1)]))
                refine Go.step (fun t k => XS.goto X_10.here hx rfl (pc0 := 187) (pc' := 192) rfl (hb hby at_187) (by decide) (by decide) k) ?_
                show Go p.tables e below P (T_10.setTop (mkF m 192 #[.val (.int p1), .val (.int p2), .val (.int p3), .val (.int p4), .val (.int p5), .val (.int p6), .val (.int i3), .val (.int i9), .val (.int i15), .val (.int i21), .val (.double (9218868437227405312 : UInt64)), .second, .val (.double x0), .second, .val (.double x1), .second, .val (.double x2), .second, .val (.ref b_1), .unset, .unset, .unset, .unset, .unset] [(.double x1)]))
                refine Go.step (fun t k => XS.dstore X_10.here hx rfl (hb hby at_192) rfl (l' := #[.val (.int p1), .val (.int p2), .val (.int p3), .val (.int p4), .val (.int p5), .val (.int p6), .val (.int i3), .val (.int i9), .val (.int i15), .val (.int i21), .val (.double (9218868437227405312 : UInt64)), .second, .val (.double x0), .second, .val (.double x1), .second, .val (.double x2), .second, .val (.ref b_1), .unset, .val (.double x1), .second, .unset, .unset]) rfl k) ?_
                show Go p.tables e below P (T_10.setTop (mkF m 194 #[.val (.int p1), .val (.int p2), .val (.int p3), .val (.int p4), .val (.int p5), .val (.int p6), .val (.int i3), .val (.int i9), .val (.int i15), .val (.int i21), .val (.double (9218868437227405312 : UInt64)), .second, .val (.double x0), .second, .val (.double x1), .second, .val (.double x2), .second, .val (.ref b_1), .unset, .val (.double x1), .second, .unset, .unset] []))
                refine Go.step (fun t k => XS.dload X_10.here hx rfl (hb hby at_194) rfl  k) ?_
                show Go p.tables e below P (T_10.setTop (mkF m 196 #[.val (.int p1), .val (.int p2), .val (.int p3), .val (.int p4), .val (.int p5), .val (.int p6), .val (.int i3), .val (.int i9), .val (.int i15), .val (.int i21), .val (.double (9218868437227405312 : UInt64)), .second, .val (.double x0), .second, .val (.double x1), .second, .val (.double x2), .second, .val (.ref b_1), .unset, .val (.double x1), .second, .unset, .unset] [(.double x0)]))
                refine Go.step (fun t k => XS.dload X_10.here hx rfl (hb hby at_196) rfl  k) ?_
                show Go p.tables e below P (T_10.setTop (mkF m 198 #[.val (.int p1), .val (.int p2), .val (.int p3), .val (.int p4), .val (.int p5), .val (.int p6), .val (.int i3), .val (.int i9), .val (.int i15), .val (.int i21), .val (.double (9218868437227405312 : UInt64)), .second, .val (.double x0), .second, .val (.double x1), .second, .val (.double x2), .second, .val (.ref b_1), .unset, .val (.double x1), .second, .unset, .unset] [(.double x1), (.double x0)]))
                refine Go.step (fun t k => XS.dcmpS X_10.here hx rfl (hb hby at_198) rfl rfl k) ?_
                show Go p.tables e below P (T_10.setTop (mkF m 199 #[.val (.int p1), .val (.int p2), .val (.int p3), .val (.int p4), .val (.int p5), .val (.int p6), .val (.int i3), .val (.int i9), .val (.int i15), .val (.int i21), .val (.double (9218868437227405312 : UInt64)), .second, .val (.double x0), .second, .val (.double x1), .second, .val (.double x2), .second, .val (.ref b_1), .unset, .val (.double x1), .second, .unset, .unset] [(.int (cmpValue (FP.dcmp x0 x1) .l))]))
                refine Go.step (fun t k => XS.ifYes X_10.here hx rfl (pc0 := 199) (pc' := 207) rfl (hb hby at_199) rfl (dcY (cd := .ne) (zcmp hx0 hx1) (by omega : ¬ (zv x0) = (zv x1))) (by decide) (by decide) k) ?_
                show Go p.tables e below P (T_10.setTop (mkF m 207 #[.val (.int p1), .val (.int p2), .val (.int p3), .val (.int p4), .val (.int p5), .val (.int p6), .val (.int i3), .val (.int i9), .val (.int i15), .val (.int i21), .val (.double (9218868437227405312 : UInt64)), .second, .val (.double x0), .second, .val (.double x1), .second, .val (.double x2), .second, .val (.ref b_1), .unset, .val (.double x1), .second, .unset, .unset] []))
                refine Go.step (fun t k => XS.iload X_10.here hx rfl (hb hby at_207) rfl  k) ?_
                show Go p.tables e below P (T_10.setTop (mkF m 209 #[.val (.int p1), .val (.int p2), .val (.int p3), .val (.int p4), .val (.int p5), .val (.int p6), .val (.int i3), .val (.int i9), .val (.int i15), .val (.int i21), .val (.double (9218868437227405312 : UInt64)), .second, .val (.double x0), .second, .val (.double x1), .second, .val (.double x2), .second, .val (.ref b_1), .unset, .val (.double x1), .second, .unset, .unset] [(.int i9)]))
                refine Go.step (fun t k => XS.istore X_10.here hx rfl (hb hby at_209) rfl (l' := #[.val (.int p1), .val (.int p2), .val (.int p3), .val (.int p4), .val (.int p5), .val (.int p6), .val (.int i3), .val (.int i9), .val (.int i15), .val (.int i21), .val (.double (9218868437227405312 : UInt64)), .second, .val (.double x0), .second, .val (.double x1), .second, .val (.double x2), .second, .val (.ref b_1), .val (.int i9), .val (.double x1), .second, .unset, .unset]) rfl k) ?_
                show Go p.tables e below P (T_10.setTop (mkF m 211 #[.val (.int p1), .val (.int p2), .val (.int p3), .val (.int p4), .val (.int p5), .val (.int p6), .val (.int i3), .val (.int i9), .val (.int i15), .val (.int i21), .val (.double (9218868437227405312 : UInt64)), .second, .val (.double x0), .second, .val (.double x1), .second, .val (.double x2), .second, .val (.ref b_1), .val (.int i9), .val (.double x1), .second, .unset, .unset] []))
                refine Go.step (fun t k => XS.goto X_10.here hx rfl (pc0 := 211) (pc' := 278) rfl (hb hby at_211) (by decide) (by decide) k) ?_
                show Go p.tables e below P (T_10.setTop (mkF m 278 #[.val (.int p1), .val (.int p2), .val (.int p3), .val (.int p4), .val (.int p5), .val (.int p6), .val (.int i3), .val (.int i9), .val (.int i15), .val (.int i21), .val (.double (9218868437227405312 : UInt64)), .second, .val (.double x0), .second, .val (.double x1), .second, .val (.double x2), .second, .val (.ref b_1), .val (.int i9), .val (.double x1), .second, .unset, .unset] []))
                refine Go.step (fun t k => XS.aload X_10.here hx rfl (hb hby at_278) rfl rfl k) ?_
                show Go p.tables e below P (T_10.setTop (mkF m 280 #[.val (.int p1), .val (.int p2), .val (.int p3), .val (.int p4), .val (.int p5), .val (.int p6), .val (.int i3), .val (.int i9), .val (.int i15), .val (.int i21), .val (.double (9218868437227405312 : UInt64)), .second, .val (.double x0), .second, .val (.double x1), .second, .val (.double x2), .second, .val (.ref b_1), .val (.int i9), .val (.double x1), .second, .unset, .unset] [(.ref b_1)]))
                obtain ⟨cq_14, kq_14, q_14a, q_14b, q_14c⟩ := isOf hZ rfl (((A_1.keep Kc_2).keep Kc_6).keep Kc_10)
                obtain ⟨_, _, ⟨T_14, L_14, k_14, n_14⟩, -, X_14, ⟨Lc_14, hQ_14, l_14, y_14, z_14⟩, st_14⟩ := X_10.virtualBack hx (y := (⟨"com/example/fieldroster/fieldroster/policy/Nearest", "found", "()Z"⟩ : MethodName)) (z := (⟨"com/example/fieldroster/fieldroster/policy/Nearest", "found", "()Z"⟩ : MethodName)) hown (mvT hZ (hw _ (List.mem_of_getElem? (i := 16) rfl))) (mvT hZ (hw _ (List.mem_of_getElem? (i := 17) rfl))) (notFace_of_selects (args := #[]) (mvT hZ (hw _ (List.mem_of_getElem? (i := 19) rfl)))) (mvT hZ (hw _ (List.mem_of_getElem? (i := 19) rfl))) (mvT hZ (hw _ (List.mem_of_getElem? (i := 18) rfl))) (by decide) (backOf (W := 0) (rm3 l Z a0 hw [] b_1 i9 T_10.heap n0 Z_10 Fi_10) hZ (hw _ (List.mem_of_getElem? (i := 20) rfl)) (hw _ (List.mem_of_getElem? (i := 4) rfl)) (by decide) (by decide)) q_14a q_14c (g := (mkF m 280 #[.val (.int p1), .val (.int p2), .val (.int p3), .val (.int p4), .val (.int p5), .val (.int p6), .val (.int i3), .val (.int i9), .val (.int i15), .val (.int i21), .val (.double (9218868437227405312 : UInt64)), .second, .val (.double x0), .second, .val (.double x1), .second, .val (.double x2), .second, .val (.ref b_1), .val (.int i9), .val (.double x1), .second, .unset, .unset] [(.ref b_1)])) rfl (by rw [hml]; rfl) (Steps.refl _) (argsL := []) (rest := []) (lenOf pd_1 rfl) rfl (by show 2 * 0 + _ ≤ _; exact Nat.le_of_eq rfl) (hb hby at_280) (fun _ _ => ⟨rfl, rfl, (by decide : 1 + 0 ≤ _), (by decide : 2 + 0 ≤ _)⟩)
                dsimp only [Pt.U, Pt.locs, Pt.cells, Pt.slots] at X_14 l_14 y_14 z_14 st_14 hQ_14
                subst l_14 y_14 z_14
                obtain ⟨fr, rfl, hfr, N_14q, eh_14⟩ := hQ_14
                have N_14 := Fr.app N_10 N_14q
                refine Go.tr st_14 ?_
                show Go p.tables e below P (T_14.setTop (mkF m 283 #[.val (.int p1), .val (.int p2), .val (.int p3), .val (.int p4), .val (.int p5), .val (.int p6), .val (.int i3), .val (.int i9), .val (.int i15), .val (.int i21), .val (.double (9218868437227405312 : UInt64)), .second, .val (.double x0), .second, .val (.double x1), .second, .val (.double x2), .second, .val (.ref b_1), .val (.int i9), .val (.double x1), .second, .unset, .unset] [(.int fr)]))
                refine Go.step (fun t k => XS.iload X_14.here hx rfl (hb hby at_283) rfl  k) ?_
                show Go p.tables e below P (T_14.setTop (mkF m 285 #[.val (.int p1), .val (.int p2), .val (.int p3), .val (.int p4), .val (.int p5), .val (.int p6), .val (.int i3), .val (.int i9), .val (.int i15), .val (.int i21), .val (.double (9218868437227405312 : UInt64)), .second, .val (.double x0), .second, .val (.double x1), .second, .val (.double x2), .second, .val (.ref b_1), .val (.int i9), .val (.double x1), .second, .unset, .unset] [(.int i21), (.int fr)]))
                refine Go.step (fun t k => XS.iconst X_14.here hx rfl (hb hby at_285) k) ?_
                show Go p.tables e below P (T_14.setTop (mkF m 286 #[.val (.int p1), .val (.int p2), .val (.int p3), .val (.int p4), .val (.int p5), .val (.int p6), .val (.int i3), .val (.int i9), .val (.int i15), .val (.int i21), .val (.double (9218868437227405312 : UInt64)), .second, .val (.double x0), .second, .val (.double x1), .second, .val (.double x2), .second, .val (.ref b_1), .val (.int i9), .val (.double x1), .second, .unset, .unset] [(.int (1 : Int32)), (.int i21), (.int fr)]))
                refine Go.step (fun t k => XS.icmpNo X_14.here hx rfl (hb hby at_286) rfl (icN (cd := .lt) (by omega : ¬ (i21.toInt < (1 : Int)))) k) ?_
                show Go p.tables e below P (T_14.setTop (mkF m 289 #[.val (.int p1), .val (.int p2), .val (.int p3), .val (.int p4), .val (.int p5), .val (.int p6), .val (.int i3), .val (.int i9), .val (.int i15), .val (.int i21), .val (.double (9218868437227405312 : UInt64)), .second, .val (.double x0), .second, .val (.double x1), .second, .val (.double x2), .second, .val (.ref b_1), .val (.int i9), .val (.double x1), .second, .unset, .unset] [(.int fr)]))
                refine Go.step (fun t k => XS.iconst X_14.here hx rfl (hb hby at_289) k) ?_
                show Go p.tables e below P (T_14.setTop (mkF m 290 #[.val (.int p1), .val (.int p2), .val (.int p3), .val (.int p4), .val (.int p5), .val (.int p6), .val (.int i3), .val (.int i9), .val (.int i15), .val (.int i21), .val (.double (9218868437227405312 : UInt64)), .second, .val (.double x0), .second, .val (.double x1), .second, .val (.double x2), .second, .val (.ref b_1), .val (.int i9), .val (.double x1), .second, .unset, .unset] [(.int (1 : Int32)), (.int fr)]))
                refine Go.step (fun t k => XS.goto X_14.here hx rfl (pc0 := 290) (pc' := 294) rfl (hb hby at_290) (by decide) (by decide) k) ?_
                show Go p.tables e below P (T_14.setTop (mkF m 294 #[.val (.int p1), .val (.int p2), .val (.int p3), .val (.int p4), .val (.int p5), .val (.int p6), .val (.int i3), .val (.int i9), .val (.int i15), .val (.int i21), .val (.double (9218868437227405312 : UInt64)), .second, .val (.double x0), .second, .val (.double x1), .second, .val (.double x2), .second, .val (.ref b_1), .val (.int i9), .val (.double x1), .second, .unset, .unset] [(.int (1 : Int32)), (.int fr)]))
                refine Go.step (fun t k => XS.icmpNo X_14.here hx rfl (hb hby at_294) rfl (icN (cd := .ne) (by omega : ¬ (¬ fr.toInt = (1 : Int)))) k) ?_
                show Go p.tables e below P (T_14.setTop (mkF m 297 #[.val (.int p1), .val (.int p2), .val (.int p3), .val (.int p4), .val (.int p5), .val (.int p6), .val (.int i3), .val (.int i9), .val (.int i15), .val (.int i21), .val (.double (9218868437227405312 : UInt64)), .second, .val (.double x0), .second, .val (.double x1), .second, .val (.double x2), .second, .val (.ref b_1), .val (.int i9), .val (.double x1), .second, .unset, .unset] []))
                refine Go.step (fun t k => XS.aload X_14.here hx rfl (hb hby at_297) rfl rfl k) ?_
                show Go p.tables e below P (T_14.setTop (mkF m 299 #[.val (.int p1), .val (.int p2), .val (.int p3), .val (.int p4), .val (.int p5), .val (.int p6), .val (.int i3), .val (.int i9), .val (.int i15), .val (.int i21), .val (.double (9218868437227405312 : UInt64)), .second, .val (.double x0), .second, .val (.double x1), .second, .val (.double x2), .second, .val (.ref b_1), .val (.int i9), .val (.double x1), .second, .unset, .unset] [(.ref b_1)]))
                obtain ⟨cq_15, kq_15, q_15a, q_15b, q_15c⟩ := isOf hZ eh_14 (((A_1.keep Kc_2).keep Kc_6).keep Kc_10)
                obtain ⟨_, _, ⟨T_15, L_15, k_15, n_15⟩, -, X_15, ⟨Lc_15, hQ_15, l_15, y_15, z_15⟩, st_15⟩ := X_14.virtualBack hx (y := (⟨"com/example/fieldroster/fieldroster/policy/Nearest", "index", "()I"⟩ : MethodName)) (z := (⟨"com/example/fieldroster/fieldroster/policy/Nearest", "index", "()I"⟩ : MethodName)) hown (mvT hZ (hw _ (List.mem_of_getElem? (i := 21) rfl))) (mvT hZ (hw _ (List.mem_of_getElem? (i := 22) rfl))) (notFace_of_selects (args := #[]) (mvT hZ (hw _ (List.mem_of_getElem? (i := 24) rfl)))) (mvT hZ (hw _ (List.mem_of_getElem? (i := 24) rfl))) (mvT hZ (hw _ (List.mem_of_getElem? (i := 23) rfl))) (by decide) (backOf (W := 0) (rm4 l Z a0 hw [] b_1 i9 T_10.heap n0 Z_10 Fi_10) hZ (hw _ (List.mem_of_getElem? (i := 25) rfl)) (hw _ (List.mem_of_getElem? (i := 4) rfl)) (by decide) (by decide)) q_15a q_15c (g := (mkF m 299 #[.val (.int p1), .val (.int p2), .val (.int p3), .val (.int p4), .val (.int p5), .val (.int p6), .val (.int i3), .val (.int i9), .val (.int i15), .val (.int i21), .val (.double (9218868437227405312 : UInt64)), .second, .val (.double x0), .second, .val (.double x1), .second, .val (.double x2), .second, .val (.ref b_1), .val (.int i9), .val (.double x1), .second, .unset, .unset] [(.ref b_1)])) rfl (by rw [hml]; rfl) (Steps.refl _) (argsL := []) (rest := []) (lenOf pd_2 rfl) rfl (by show 2 * 0 + _ ≤ _; exact Nat.le_of_eq rfl) (hb hby at_299) (fun _ _ => ⟨rfl, eh_14, (by decide : 1 + 0 ≤ _), (by decide : 2 + 0 ≤ _)⟩)
                dsimp only [Pt.U, Pt.locs, Pt.cells, Pt.slots] at X_15 l_15 y_15 z_15 st_15 hQ_15
                subst l_15 y_15 z_15
                obtain ⟨rfl, N_15q, eh_15⟩ := hQ_15
                have N_15 := Fr.app N_14 N_15q
                refine Go.tr st_15 ?_
                show Go p.tables e below P (T_15.setTop (mkF m 302 #[.val (.int p1), .val (.int p2), .val (.int p3), .val (.int p4), .val (.int p5), .val (.int p6), .val (.int i3), .val (.int i9), .val (.int i15), .val (.int i21), .val (.double (9218868437227405312 : UInt64)), .second, .val (.double x0), .second, .val (.double x1), .second, .val (.double x2), .second, .val (.ref b_1), .val (.int i9), .val (.double x1), .second, .unset, .unset] [(.int i9)]))
                refine Go.step (fun t k => XS.iload X_15.here hx rfl (hb hby at_302) rfl  k) ?_
                show Go p.tables e below P (T_15.setTop (mkF m 304 #[.val (.int p1), .val (.int p2), .val (.int p3), .val (.int p4), .val (.int p5), .val (.int p6), .val (.int i3), .val (.int i9), .val (.int i15), .val (.int i21), .val (.double (9218868437227405312 : UInt64)), .second, .val (.double x0), .second, .val (.double x1), .second, .val (.double x2), .second, .val (.ref b_1), .val (.int i9), .val (.double x1), .second, .unset, .unset] [(.int i9), (.int i9)]))
                refine Go.step (fun t k => XS.icmpNo X_15.here hx rfl (hb hby at_304) rfl (icN (cd := .ne) (fun q => q rfl)) k) ?_
                show Go p.tables e below P (T_15.setTop (mkF m 307 #[.val (.int p1), .val (.int p2), .val (.int p3), .val (.int p4), .val (.int p5), .val (.int p6), .val (.int i3), .val (.int i9), .val (.int i15), .val (.int i21), .val (.double (9218868437227405312 : UInt64)), .second, .val (.double x0), .second, .val (.double x1), .second, .val (.double x2), .second, .val (.ref b_1), .val (.int i9), .val (.double x1), .second, .unset, .unset] []))
                refine Go.step (fun t k => XS.aload X_15.here hx rfl (hb hby at_307) rfl rfl k) ?_
                show Go p.tables e below P (T_15.setTop (mkF m 309 #[.val (.int p1), .val (.int p2), .val (.int p3), .val (.int p4), .val (.int p5), .val (.int p6), .val (.int i3), .val (.int i9), .val (.int i15), .val (.int i21), .val (.double (9218868437227405312 : UInt64)), .second, .val (.double x0), .second, .val (.double x1), .second, .val (.double x2), .second, .val (.ref b_1), .val (.int i9), .val (.double x1), .second, .unset, .unset] [(.ref b_1)]))
                obtain ⟨cq_16, kq_16, q_16a, q_16b, q_16c⟩ := isOf hZ eh_15 (((A_1.keep Kc_2).keep Kc_6).keep Kc_10)
                obtain ⟨_, _, ⟨T_16, L_16, k_16, n_16⟩, -, X_16, ⟨Lc_16, hQ_16, l_16, y_16, z_16⟩, st_16⟩ := X_15.virtualBack hx (y := (⟨"com/example/fieldroster/fieldroster/policy/Nearest", "distance", "()D"⟩ : MethodName)) (z := (⟨"com/example/fieldroster/fieldroster/policy/Nearest", "distance", "()D"⟩ : MethodName)) hown (mvT hZ (hw _ (List.mem_of_getElem? (i := 26) rfl))) (mvT hZ (hw _ (List.mem_of_getElem? (i := 27) rfl))) (notFace_of_selects (args := #[]) (mvT hZ (hw _ (List.mem_of_getElem? (i := 29) rfl)))) (mvT hZ (hw _ (List.mem_of_getElem? (i := 29) rfl))) (mvT hZ (hw _ (List.mem_of_getElem? (i := 28) rfl))) (by decide) (backOf (W := 0) (rm5 l Z a0 hw [] b_1 x1 T_10.heap n0 Z_10 Fd_10) hZ (hw _ (List.mem_of_getElem? (i := 30) rfl)) (hw _ (List.mem_of_getElem? (i := 4) rfl)) (by decide) (by decide)) q_16a q_16c (g := (mkF m 309 #[.val (.int p1), .val (.int p2), .val (.int p3), .val (.int p4), .val (.int p5), .val (.int p6), .val (.int i3), .val (.int i9), .val (.int i15), .val (.int i21), .val (.double (9218868437227405312 : UInt64)), .second, .val (.double x0), .second, .val (.double x1), .second, .val (.double x2), .second, .val (.ref b_1), .val (.int i9), .val (.double x1), .second, .unset, .unset] [(.ref b_1)])) rfl (by rw [hml]; rfl) (Steps.refl _) (argsL := []) (rest := []) (lenOf pd_3 rfl) rfl (by show 2 * 0 + _ ≤ _; exact Nat.le_of_eq rfl) (hb hby at_309) (fun _ _ => ⟨rfl, eh_15, (by decide : 1 + 0 ≤ _), (by decide : 2 + 0 ≤ _)⟩)
                dsimp only [Pt.U, Pt.locs, Pt.cells, Pt.slots] at X_16 l_16 y_16 z_16 st_16 hQ_16
                subst l_16 y_16 z_16
                obtain ⟨rfl, N_16q, eh_16⟩ := hQ_16
                have N_16 := Fr.app N_15 N_16q
                refine Go.tr st_16 ?_
                show Go p.tables e below P (T_16.setTop (mkF m 312 #[.val (.int p1), .val (.int p2), .val (.int p3), .val (.int p4), .val (.int p5), .val (.int p6), .val (.int i3), .val (.int i9), .val (.int i15), .val (.int i21), .val (.double (9218868437227405312 : UInt64)), .second, .val (.double x0), .second, .val (.double x1), .second, .val (.double x2), .second, .val (.ref b_1), .val (.int i9), .val (.double x1), .second, .unset, .unset] [(.double x1)]))
                refine Go.step (fun t k => XS.dload X_16.here hx rfl (hb hby at_312) rfl  k) ?_
                show Go p.tables e below P (T_16.setTop (mkF m 314 #[.val (.int p1), .val (.int p2), .val (.int p3), .val (.int p4), .val (.int p5), .val (.int p6), .val (.int i3), .val (.int i9), .val (.int i15), .val (.int i21), .val (.double (9218868437227405312 : UInt64)), .second, .val (.double x0), .second, .val (.double x1), .second, .val (.double x2), .second, .val (.ref b_1), .val (.int i9), .val (.double x1), .second, .unset, .unset] [(.double x1), (.double x1)]))
                refine Go.step (fun t k => XS.dcmpS X_16.here hx rfl (hb hby at_314) rfl rfl k) ?_
                show Go p.tables e below P (T_16.setTop (mkF m 315 #[.val (.int p1), .val (.int p2), .val (.int p3), .val (.int p4), .val (.int p5), .val (.int p6), .val (.int i3), .val (.int i9), .val (.int i15), .val (.int i21), .val (.double (9218868437227405312 : UInt64)), .second, .val (.double x0), .second, .val (.double x1), .second, .val (.double x2), .second, .val (.ref b_1), .val (.int i9), .val (.double x1), .second, .unset, .unset] [(.int (cmpValue (FP.dcmp x1 x1) .l))]))
                refine Go.step (fun t k => XS.ifNo X_16.here hx rfl (hb hby at_315) rfl (dcN (cd := .ne) (zcmp hx1 hx1) (fun q => q rfl)) k) ?_
                show Go p.tables e below P (T_16.setTop (mkF m 318 #[.val (.int p1), .val (.int p2), .val (.int p3), .val (.int p4), .val (.int p5), .val (.int p6), .val (.int i3), .val (.int i9), .val (.int i15), .val (.int i21), .val (.double (9218868437227405312 : UInt64)), .second, .val (.double x0), .second, .val (.double x1), .second, .val (.double x2), .second, .val (.ref b_1), .val (.int i9), .val (.double x1), .second, .unset, .unset] []))
                refine Go.step (fun t k => XS.iconst X_16.here hx rfl (hb hby at_318) k) ?_
                show Go p.tables e below P (T_16.setTop (mkF m 319 #[.val (.int p1), .val (.int p2), .val (.int p3), .val (.int p4), .val (.int p5), .val (.int p6), .val (.int i3), .val (.int i9), .val (.int i15), .val (.int i21), .val (.double (9218868437227405312 : UInt64)), .second, .val (.double x0), .second, .val (.double x1), .second, .val (.double x2), .second, .val (.ref b_1), .val (.int i9), .val (.double x1), .second, .unset, .unset] [(.int (1 : Int32))]))
                refine Go.step (fun t k => XS.goto X_16.here hx rfl (pc0 := 319) (pc' := 323) rfl (hb hby at_319) (by decide) (by decide) k) ?_
                show Go p.tables e below P (T_16.setTop (mkF m 323 #[.val (.int p1), .val (.int p2), .val (.int p3), .val (.int p4), .val (.int p5), .val (.int p6), .val (.int i3), .val (.int i9), .val (.int i15), .val (.int i21), .val (.double (9218868437227405312 : UInt64)), .second, .val (.double x0), .second, .val (.double x1), .second, .val (.double x2), .second, .val (.ref b_1), .val (.int i9), .val (.double x1), .second, .unset, .unset] [(.int (1 : Int32))]))
                exact retGo X_16 hx hP Bd.returns hlk rfl (Or.inl ⟨rfl, Or.inr (Or.inl rfl), _, rfl⟩) (hb hby at_323) (by decide) (by decide) (by rw [eh_16]; exact ⟨rfl, N_16⟩)
            · refine Go.step (fun t k => XS.icmpNo X_10.here hx rfl (hb hby at_127) rfl (icN (cd := .lt) hc127) k) ?_
              show Go p.tables e below P (T_10.setTop (mkF m 130 #[.val (.int p1), .val (.int p2), .val (.int p3), .val (.int p4), .val (.int p5), .val (.int p6), .val (.int i3), .val (.int i9), .val (.int i15), .val (.int i21), .val (.double (9218868437227405312 : UInt64)), .second, .val (.double x0), .second, .val (.double x1), .second, .val (.double x2), .second, .val (.ref b_1), .unset, .unset, .unset, .unset, .unset] []))
              refine Go.step (fun t k => XS.aload X_10.here hx rfl (hb hby at_130) rfl rfl k) ?_
              show Go p.tables e below P (T_10.setTop (mkF m 132 #[.val (.int p1), .val (.int p2), .val (.int p3), .val (.int p4), .val (.int p5), .val (.int p6), .val (.int i3), .val (.int i9), .val (.int i15), .val (.int i21), .val (.double (9218868437227405312 : UInt64)), .second, .val (.double x0), .second, .val (.double x1), .second, .val (.double x2), .second, .val (.ref b_1), .unset, .unset, .unset, .unset, .unset] [(.ref b_1)]))
              refine Go.step (fun t k => XS.iload X_10.here hx rfl (hb hby at_132) rfl  k) ?_
              show Go p.tables e below P (T_10.setTop (mkF m 134 #[.val (.int p1), .val (.int p2), .val (.int p3), .val (.int p4), .val (.int p5), .val (.int p6), .val (.int i3), .val (.int i9), .val (.int i15), .val (.int i21), .val (.double (9218868437227405312 : UInt64)), .second, .val (.double x0), .second, .val (.double x1), .second, .val (.double x2), .second, .val (.ref b_1), .unset, .unset, .unset, .unset, .unset] [(.int i15), (.ref b_1)]))
              refine Go.step (fun t k => XS.dload X_10.here hx rfl (hb hby at_134) rfl  k) ?_
              show Go p.tables e below P (T_10.setTop (mkF m 136 #[.val (.int p1), .val (.int p2), .val (.int p3), .val (.int p4), .val (.int p5), .val (.int p6), .val (.int i3), .val (.int i9), .val (.int i15), .val (.int i21), .val (.double (9218868437227405312 : UInt64)), .second, .val (.double x0), .second, .val (.double x1), .second, .val (.double x2), .second, .val (.ref b_1), .unset, .unset, .unset, .unset, .unset] [(.double x2), (.int i15), (.ref b_1)]))
              obtain ⟨cq_17, kq_17, q_17a, q_17b, q_17c⟩ := isOf hZ rfl (((A_1.keep Kc_2).keep Kc_6).keep Kc_10)
              obtain ⟨_, _, ⟨T_17, L_17, k_17, n_17⟩, -, X_17, ⟨Lc_17, hQ_17, l_17, y_17, z_17⟩, st_17⟩ := X_10.virtualBack hx (y := (⟨"com/example/fieldroster/fieldroster/policy/Nearest", "offer", "(ID)V"⟩ : MethodName)) (z := (⟨"com/example/fieldroster/fieldroster/policy/Nearest", "offer", "(ID)V"⟩ : MethodName)) hown (mvT hZ (hw _ (List.mem_of_getElem? (i := 31) rfl))) (mvT hZ (hw _ (List.mem_of_getElem? (i := 32) rfl))) (notFace_of_selects (args := #[]) (mvT hZ (hw _ (List.mem_of_getElem? (i := 34) rfl)))) (mvT hZ (hw _ (List.mem_of_getElem? (i := 34) rfl))) (mvT hZ (hw _ (List.mem_of_getElem? (i := 33) rfl))) (by decide) (backOf (W := 0) (rm2 l Z a0 hw [] b_1 i15 x2 ix2 ds2 T_10.heap n0 Z_10 (((A_1.keep Kc_2).keep Kc_6).keep Kc_10) Fi_10 Fd_10 g_b_1 hx2 nn2) hZ (hw _ (List.mem_of_getElem? (i := 35) rfl)) (hw _ (List.mem_of_getElem? (i := 4) rfl)) (by decide) (by decide)) q_17a q_17c (g := (mkF m 136 #[.val (.int p1), .val (.int p2), .val (.int p3), .val (.int p4), .val (.int p5), .val (.int p6), .val (.int i3), .val (.int i9), .val (.int i15), .val (.int i21), .val (.double (9218868437227405312 : UInt64)), .second, .val (.double x0), .second, .val (.double x1), .second, .val (.double x2), .second, .val (.ref b_1), .unset, .unset, .unset, .unset, .unset] [(.double x2), (.int i15), (.ref b_1)])) rfl (by rw [hml]; rfl) (Steps.refl _) (argsL := [(.int i15), (.double x2)]) (rest := []) (lenOf pd_4 rfl) rfl (by show 2 * 0 + _ ≤ _; exact Nat.le_of_eq rfl) (hb hby at_136) (fun _ _ => ⟨rfl, rfl, (by decide : 1 + 0 ≤ _), (by decide : 2 + 0 ≤ _)⟩)
              dsimp only [Pt.U, Pt.locs, Pt.cells, Pt.slots] at X_17 l_17 y_17 z_17 st_17 hQ_17
              subst l_17 y_17 z_17
              obtain ⟨rfl, N_17q, Kc_17, Ee_17, ix3, ds3, Fi_17, Fd_17, of3⟩ := hQ_17
              have N_17 := Fr.app N_10 N_17q
              have K_17 : Keep h0 T_17.heap [] := K_10.trans Kc_17 (allS (Or.inr sz_b_1) all0)
              have Z_17 : n0 ≤ T_17.heap.size := Nat.le_trans Z_10 Kc_17.1
              refine Go.tr st_17 ?_
              show Go p.tables e below P (T_17.setTop (mkF m 139 #[.val (.int p1), .val (.int p2), .val (.int p3), .val (.int p4), .val (.int p5), .val (.int p6), .val (.int i3), .val (.int i9), .val (.int i15), .val (.int i21), .val (.double (9218868437227405312 : UInt64)), .second, .val (.double x0), .second, .val (.double x1), .second, .val (.double x2), .second, .val (.ref b_1), .unset, .unset, .unset, .unset, .unset] []))
              refine Go.step (fun t k => XS.iload X_17.here hx rfl (hb hby at_139) rfl  k) ?_
              show Go p.tables e below P (T_17.setTop (mkF m 141 #[.val (.int p1), .val (.int p2), .val (.int p3), .val (.int p4), .val (.int p5), .val (.int p6), .val (.int i3), .val (.int i9), .val (.int i15), .val (.int i21), .val (.double (9218868437227405312 : UInt64)), .second, .val (.double x0), .second, .val (.double x1), .second, .val (.double x2), .second, .val (.ref b_1), .unset, .unset, .unset, .unset, .unset] [(.int i21)]))
              refine Go.step (fun t k => XS.ifYes X_17.here hx rfl (pc0 := 141) (pc' := 154) rfl (hb hby at_141) rfl (ifY (cd := .ne) (by omega : ¬ i21.toInt = 0)) (by decide) (by decide) k) ?_
              show Go p.tables e below P (T_17.setTop (mkF m 154 #[.val (.int p1), .val (.int p2), .val (.int p3), .val (.int p4), .val (.int p5), .val (.int p6), .val (.int i3), .val (.int i9), .val (.int i15), .val (.int i21), .val (.double (9218868437227405312 : UInt64)), .second, .val (.double x0), .second, .val (.double x1), .second, .val (.double x2), .second, .val (.ref b_1), .unset, .unset, .unset, .unset, .unset] []))
              refine Go.step (fun t k => XS.iload X_17.here hx rfl (hb hby at_154) rfl  k) ?_
              show Go p.tables e below P (T_17.setTop (mkF m 156 #[.val (.int p1), .val (.int p2), .val (.int p3), .val (.int p4), .val (.int p5), .val (.int p6), .val (.int i3), .val (.int i9), .val (.int i15), .val (.int i21), .val (.double (9218868437227405312 : UInt64)), .second, .val (.double x0), .second, .val (.double x1), .second, .val (.double x2), .second, .val (.ref b_1), .unset, .unset, .unset, .unset, .unset] [(.int i21)]))
              refine Go.step (fun t k => XS.iconst X_17.here hx rfl (hb hby at_156) k) ?_
              show Go p.tables e below P (T_17.setTop (mkF m 157 #[.val (.int p1), .val (.int p2), .val (.int p3), .val (.int p4), .val (.int p5), .val (.int p6), .val (.int i3), .val (.int i9), .val (.int i15), .val (.int i21), .val (.double (9218868437227405312 : UInt64)), .second, .val (.double x0), .second, .val (.double x1), .second, .val (.double x2), .second, .val (.ref b_1), .unset, .unset, .unset, .unset, .unset] [(.int (1 : Int32)), (.int i21)]))
              refine Go.step (fun t k => XS.icmpYes X_17.here hx rfl (pc0 := 157) (pc' := 171) rfl (hb hby at_157) rfl (icY (cd := .ne) (by omega : ¬ i21.toInt = (1 : Int))) (by decide) (by decide) k) ?_
              show Go p.tables e below P (T_17.setTop (mkF m 171 #[.val (.int p1), .val (.int p2), .val (.int p3), .val (.int p4), .val (.int p5), .val (.int p6), .val (.int i3), .val (.int i9), .val (.int i15), .val (.int i21), .val (.double (9218868437227405312 : UInt64)), .second, .val (.double x0), .second, .val (.double x1), .second, .val (.double x2), .second, .val (.ref b_1), .unset, .unset, .unset, .unset, .unset] []))
              refine Go.step (fun t k => XS.iload X_17.here hx rfl (hb hby at_171) rfl  k) ?_
              show Go p.tables e below P (T_17.setTop (mkF m 173 #[.val (.int p1), .val (.int p2), .val (.int p3), .val (.int p4), .val (.int p5), .val (.int p6), .val (.int i3), .val (.int i9), .val (.int i15), .val (.int i21), .val (.double (9218868437227405312 : UInt64)), .second, .val (.double x0), .second, .val (.double x1), .second, .val (.double x2), .second, .val (.ref b_1), .unset, .unset, .unset, .unset, .unset] [(.int i21)]))
              refine Go.step (fun t k => XS.iconst X_17.here hx rfl (hb hby at_173) k) ?_
              show Go p.tables e below P (T_17.setTop (mkF m 174 #[.val (.int p1), .val (.int p2), .val (.int p3), .val (.int p4), .val (.int p5), .val (.int p6), .val (.int i3), .val (.int i9), .val (.int i15), .val (.int i21), .val (.double (9218868437227405312 : UInt64)), .second, .val (.double x0), .second, .val (.double x1), .second, .val (.double x2), .second, .val (.ref b_1), .unset, .unset, .unset, .unset, .unset] [(.int (2 : Int32)), (.int i21)]))
              refine Go.step (fun t k => XS.icmpYes X_17.here hx rfl (pc0 := 174) (pc' := 214) rfl (hb hby at_174) rfl (icY (cd := .ne) (by omega : ¬ i21.toInt = (2 : Int))) (by decide) (by decide) k) ?_
              show Go p.tables e below P (T_17.setTop (mkF m 214 #[.val (.int p1), .val (.int p2), .val (.int p3), .val (.int p4), .val (.int p5), .val (.int p6), .val (.int i3), .val (.int i9), .val (.int i15), .val (.int i21), .val (.double (9218868437227405312 : UInt64)), .second, .val (.double x0), .second, .val (.double x1), .second, .val (.double x2), .second, .val (.ref b_1), .unset, .unset, .unset, .unset, .unset] []))
              have e1 : i3 = ix1 ∧ x0 = ds1 := by rcases of1 with ⟨_, h1, h2⟩ | ⟨h1, _⟩; exact ⟨h1.symm, h2.symm⟩; exact absurd (Or.inl (by decide)) h1
              obtain ⟨rfl, rfl⟩ := e1
              show Go p.tables e below P (T_17.setTop (mkF m 214 #[.val (.int p1), .val (.int p2), .val (.int p3), .val (.int p4), .val (.int p5), .val (.int p6), .val (.int i3), .val (.int i9), .val (.int i15), .val (.int i21), .val (.double (9218868437227405312 : UInt64)), .second, .val (.double x0), .second, .val (.double x1), .second, .val (.double x2), .second, .val (.ref b_1), .unset, .unset, .unset, .unset, .unset] []))
              refine Go.step (fun t k => XS.dload X_17.here hx rfl (hb hby at_214) rfl  k) ?_
              show Go p.tables e below P (T_17.setTop (mkF m 216 #[.val (.int p1), .val (.int p2), .val (.int p3), .val (.int p4), .val (.int p5), .val (.int p6), .val (.int i3), .val (.int i9), .val (.int i15), .val (.int i21), .val (.double (9218868437227405312 : UInt64)), .second, .val (.double x0), .second, .val (.double x1), .second, .val (.double x2), .second, .val (.ref b_1), .unset, .unset, .unset, .unset, .unset] [(.double x1)]))
              refine Go.step (fun t k => XS.dload X_17.here hx rfl (hb hby at_216) rfl  k) ?_
              show Go p.tables e below P (T_17.setTop (mkF m 218 #[.val (.int p1), .val (.int p2), .val (.int p3), .val (.int p4), .val (.int p5), .val (.int p6), .val (.int i3), .val (.int i9), .val (.int i15), .val (.int i21), .val (.double (9218868437227405312 : UInt64)), .second, .val (.double x0), .second, .val (.double x1), .second, .val (.double x2), .second, .val (.ref b_1), .unset, .unset, .unset, .unset, .unset] [(.double x0), (.double x1)]))
              refine Go.step (fun t k => XS.dcmpS X_17.here hx rfl (hb hby at_218) rfl rfl k) ?_
              show Go p.tables e below P (T_17.setTop (mkF m 219 #[.val (.int p1), .val (.int p2), .val (.int p3), .val (.int p4), .val (.int p5), .val (.int p6), .val (.int i3), .val (.int i9), .val (.int i15), .val (.int i21), .val (.double (9218868437227405312 : UInt64)), .second, .val (.double x0), .second, .val (.double x1), .second, .val (.double x2), .second, .val (.ref b_1), .unset, .unset, .unset, .unset, .unset] [(.int (cmpValue (FP.dcmp x1 x0) .g))]))
              by_cases hc219 : (zv x0) ≤ (zv x1)
              · refine Go.step (fun t k => XS.ifYes X_17.here hx rfl (pc0 := 219) (pc' := 227) rfl (hb hby at_219) rfl (dcY (cd := .ge) (zcmp hx1 hx0) hc219) (by decide) (by decide) k) ?_
                show Go p.tables e below P (T_17.setTop (mkF m 227 #[.val (.int p1), .val (.int p2), .val (.int p3), .val (.int p4), .val (.int p5), .val (.int p6), .val (.int i3), .val (.int i9), .val (.int i15), .val (.int i21), .val (.double (9218868437227405312 : UInt64)), .second, .val (.double x0), .second, .val (.double x1), .second, .val (.double x2), .second, .val (.ref b_1), .unset, .unset, .unset, .unset, .unset] []))
                have e2 : i3 = ix2 ∧ x0 = ds2 := by rcases of2 with ⟨h1, _⟩ | ⟨_, h1, h2⟩; omega; exact ⟨h1.symm, h2.symm⟩
                obtain ⟨rfl, rfl⟩ := e2
                show Go p.tables e below P (T_17.setTop (mkF m 227 #[.val (.int p1), .val (.int p2), .val (.int p3), .val (.int p4), .val (.int p5), .val (.int p6), .val (.int i3), .val (.int i9), .val (.int i15), .val (.int i21), .val (.double (9218868437227405312 : UInt64)), .second, .val (.double x0), .second, .val (.double x1), .second, .val (.double x2), .second, .val (.ref b_1), .unset, .unset, .unset, .unset, .unset] []))
                refine Go.step (fun t k => XS.dload X_17.here hx rfl (hb hby at_227) rfl  k) ?_
                show Go p.tables e below P (T_17.setTop (mkF m 229 #[.val (.int p1), .val (.int p2), .val (.int p3), .val (.int p4), .val (.int p5), .val (.int p6), .val (.int i3), .val (.int i9), .val (.int i15), .val (.int i21), .val (.double (9218868437227405312 : UInt64)), .second, .val (.double x0), .second, .val (.double x1), .second, .val (.double x2), .second, .val (.ref b_1), .unset, .unset, .unset, .unset, .unset] [(.double x0)]))
                refine Go.step (fun t k => XS.dstore X_17.here hx rfl (hb hby at_229) rfl (l' := #[.val (.int p1), .val (.int p2), .val (.int p3), .val (.int p4), .val (.int p5), .val (.int p6), .val (.int i3), .val (.int i9), .val (.int i15), .val (.int i21), .val (.double (9218868437227405312 : UInt64)), .second, .val (.double x0), .second, .val (.double x1), .second, .val (.double x2), .second, .val (.ref b_1), .unset, .unset, .unset, .val (.double x0), .second]) rfl k) ?_
                show Go p.tables e below P (T_17.setTop (mkF m 231 #[.val (.int p1), .val (.int p2), .val (.int p3), .val (.int p4), .val (.int p5), .val (.int p6), .val (.int i3), .val (.int i9), .val (.int i15), .val (.int i21), .val (.double (9218868437227405312 : UInt64)), .second, .val (.double x0), .second, .val (.double x1), .second, .val (.double x2), .second, .val (.ref b_1), .unset, .unset, .unset, .val (.double x0), .second] []))
                refine Go.step (fun t k => XS.dload X_17.here hx rfl (hb hby at_231) rfl  k) ?_
                show Go p.tables e below P (T_17.setTop (mkF m 233 #[.val (.int p1), .val (.int p2), .val (.int p3), .val (.int p4), .val (.int p5), .val (.int p6), .val (.int i3), .val (.int i9), .val (.int i15), .val (.int i21), .val (.double (9218868437227405312 : UInt64)), .second, .val (.double x0), .second, .val (.double x1), .second, .val (.double x2), .second, .val (.ref b_1), .unset, .unset, .unset, .val (.double x0), .second] [(.double x2)]))
                refine Go.step (fun t k => XS.dload X_17.here hx rfl (hb hby at_233) rfl  k) ?_
                show Go p.tables e below P (T_17.setTop (mkF m 235 #[.val (.int p1), .val (.int p2), .val (.int p3), .val (.int p4), .val (.int p5), .val (.int p6), .val (.int i3), .val (.int i9), .val (.int i15), .val (.int i21), .val (.double (9218868437227405312 : UInt64)), .second, .val (.double x0), .second, .val (.double x1), .second, .val (.double x2), .second, .val (.ref b_1), .unset, .unset, .unset, .val (.double x0), .second] [(.double x0), (.double x2)]))
                refine Go.step (fun t k => XS.dcmpS X_17.here hx rfl (hb hby at_235) rfl rfl k) ?_
                show Go p.tables e below P (T_17.setTop (mkF m 236 #[.val (.int p1), .val (.int p2), .val (.int p3), .val (.int p4), .val (.int p5), .val (.int p6), .val (.int i3), .val (.int i9), .val (.int i15), .val (.int i21), .val (.double (9218868437227405312 : UInt64)), .second, .val (.double x0), .second, .val (.double x1), .second, .val (.double x2), .second, .val (.ref b_1), .unset, .unset, .unset, .val (.double x0), .second] [(.int (cmpValue (FP.dcmp x2 x0) .g))]))
                by_cases hc236 : (zv x0) ≤ (zv x2)
                · refine Go.step (fun t k => XS.ifYes X_17.here hx rfl (pc0 := 236) (pc' := 244) rfl (hb hby at_236) rfl (dcY (cd := .ge) (zcmp hx2 hx0) hc236) (by decide) (by decide) k) ?_
                  show Go p.tables e below P (T_17.setTop (mkF m 244 #[.val (.int p1), .val (.int p2), .val (.int p3), .val (.int p4), .val (.int p5), .val (.int p6), .val (.int i3), .val (.int i9), .val (.int i15), .val (.int i21), .val (.double (9218868437227405312 : UInt64)), .second, .val (.double x0), .second, .val (.double x1), .second, .val (.double x2), .second, .val (.ref b_1), .unset, .unset, .unset, .val (.double x0), .second] []))
                  have e3 : i3 = ix3 ∧ x0 = ds3 := by rcases of3 with ⟨h1, _⟩ | ⟨_, h1, h2⟩; omega; exact ⟨h1.symm, h2.symm⟩
                  obtain ⟨rfl, rfl⟩ := e3
                  show Go p.tables e below P (T_17.setTop (mkF m 244 #[.val (.int p1), .val (.int p2), .val (.int p3), .val (.int p4), .val (.int p5), .val (.int p6), .val (.int i3), .val (.int i9), .val (.int i15), .val (.int i21), .val (.double (9218868437227405312 : UInt64)), .second, .val (.double x0), .second, .val (.double x1), .second, .val (.double x2), .second, .val (.ref b_1), .unset, .unset, .unset, .val (.double x0), .second] []))
                  refine Go.step (fun t k => XS.dload X_17.here hx rfl (hb hby at_244) rfl  k) ?_
                  show Go p.tables e below P (T_17.setTop (mkF m 246 #[.val (.int p1), .val (.int p2), .val (.int p3), .val (.int p4), .val (.int p5), .val (.int p6), .val (.int i3), .val (.int i9), .val (.int i15), .val (.int i21), .val (.double (9218868437227405312 : UInt64)), .second, .val (.double x0), .second, .val (.double x1), .second, .val (.double x2), .second, .val (.ref b_1), .unset, .unset, .unset, .val (.double x0), .second] [(.double x0)]))
                  refine Go.step (fun t k => XS.dstore X_17.here hx rfl (hb hby at_246) rfl (l' := #[.val (.int p1), .val (.int p2), .val (.int p3), .val (.int p4), .val (.int p5), .val (.int p6), .val (.int i3), .val (.int i9), .val (.int i15), .val (.int i21), .val (.double (9218868437227405312 : UInt64)), .second, .val (.double x0), .second, .val (.double x1), .second, .val (.double x2), .second, .val (.ref b_1), .unset, .val (.double x0), .second, .val (.double x0), .second]) rfl k) ?_
                  show Go p.tables e below P (T_17.setTop (mkF m 248 #[.val (.int p1), .val (.int p2), .val (.int p3), .val (.int p4), .val (.int p5), .val (.int p6), .val (.int i3), .val (.int i9), .val (.int i15), .val (.int i21), .val (.double (9218868437227405312 : UInt64)), .second, .val (.double x0), .second, .val (.double x1), .second, .val (.double x2), .second, .val (.ref b_1), .unset, .val (.double x0), .second, .val (.double x0), .second] []))
                  refine Go.step (fun t k => XS.dload X_17.here hx rfl (hb hby at_248) rfl  k) ?_
                  show Go p.tables e below P (T_17.setTop (mkF m 250 #[.val (.int p1), .val (.int p2), .val (.int p3), .val (.int p4), .val (.int p5), .val (.int p6), .val (.int i3), .val (.int i9), .val (.int i15), .val (.int i21), .val (.double (9218868437227405312 : UInt64)), .second, .val (.double x0), .second, .val (.double x1), .second, .val (.double x2), .second, .val (.ref b_1), .unset, .val (.double x0), .second, .val (.double x0), .second] [(.double x0)]))
                  refine Go.step (fun t k => XS.dload X_17.here hx rfl (hb hby at_250) rfl  k) ?_
                  show Go p.tables e below P (T_17.setTop (mkF m 252 #[.val (.int p1), .val (.int p2), .val (.int p3), .val (.int p4), .val (.int p5), .val (.int p6), .val (.int i3), .val (.int i9), .val (.int i15), .val (.int i21), .val (.double (9218868437227405312 : UInt64)), .second, .val (.double x0), .second, .val (.double x1), .second, .val (.double x2), .second, .val (.ref b_1), .unset, .val (.double x0), .second, .val (.double x0), .second] [(.double x0), (.double x0)]))
                  refine Go.step (fun t k => XS.dcmpS X_17.here hx rfl (hb hby at_252) rfl rfl k) ?_
                  show Go p.tables e below P (T_17.setTop (mkF m 253 #[.val (.int p1), .val (.int p2), .val (.int p3), .val (.int p4), .val (.int p5), .val (.int p6), .val (.int i3), .val (.int i9), .val (.int i15), .val (.int i21), .val (.double (9218868437227405312 : UInt64)), .second, .val (.double x0), .second, .val (.double x1), .second, .val (.double x2), .second, .val (.ref b_1), .unset, .val (.double x0), .second, .val (.double x0), .second] [(.int (cmpValue (FP.dcmp x0 x0) .l))]))
                  refine Go.step (fun t k => XS.ifNo X_17.here hx rfl (hb hby at_253) rfl (dcN (cd := .ne) (zcmp hx0 hx0) (fun q => q rfl)) k) ?_
                  show Go p.tables e below P (T_17.setTop (mkF m 256 #[.val (.int p1), .val (.int p2), .val (.int p3), .val (.int p4), .val (.int p5), .val (.int p6), .val (.int i3), .val (.int i9), .val (.int i15), .val (.int i21), .val (.double (9218868437227405312 : UInt64)), .second, .val (.double x0), .second, .val (.double x1), .second, .val (.double x2), .second, .val (.ref b_1), .unset, .val (.double x0), .second, .val (.double x0), .second] []))
                  refine Go.step (fun t k => XS.iload X_17.here hx rfl (hb hby at_256) rfl  k) ?_
                  show Go p.tables e below P (T_17.setTop (mkF m 258 #[.val (.int p1), .val (.int p2), .val (.int p3), .val (.int p4), .val (.int p5), .val (.int p6), .val (.int i3), .val (.int i9), .val (.int i15), .val (.int i21), .val (.double (9218868437227405312 : UInt64)), .second, .val (.double x0), .second, .val (.double x1), .second, .val (.double x2), .second, .val (.ref b_1), .unset, .val (.double x0), .second, .val (.double x0), .second] [(.int i3)]))
                  refine Go.step (fun t k => XS.goto X_17.here hx rfl (pc0 := 258) (pc' := 276) rfl (hb hby at_258) (by decide) (by decide) k) ?_
                  show Go p.tables e below P (T_17.setTop (mkF m 276 #[.val (.int p1), .val (.int p2), .val (.int p3), .val (.int p4), .val (.int p5), .val (.int p6), .val (.int i3), .val (.int i9), .val (.int i15), .val (.int i21), .val (.double (9218868437227405312 : UInt64)), .second, .val (.double x0), .second, .val (.double x1), .second, .val (.double x2), .second, .val (.ref b_1), .unset, .val (.double x0), .second, .val (.double x0), .second] [(.int i3)]))
                  refine Go.step (fun t k => XS.istore X_17.here hx rfl (hb hby at_276) rfl (l' := #[.val (.int p1), .val (.int p2), .val (.int p3), .val (.int p4), .val (.int p5), .val (.int p6), .val (.int i3), .val (.int i9), .val (.int i15), .val (.int i21), .val (.double (9218868437227405312 : UInt64)), .second, .val (.double x0), .second, .val (.double x1), .second, .val (.double x2), .second, .val (.ref b_1), .val (.int i3), .val (.double x0), .second, .val (.double x0), .second]) rfl k) ?_
                  show Go p.tables e below P (T_17.setTop (mkF m 278 #[.val (.int p1), .val (.int p2), .val (.int p3), .val (.int p4), .val (.int p5), .val (.int p6), .val (.int i3), .val (.int i9), .val (.int i15), .val (.int i21), .val (.double (9218868437227405312 : UInt64)), .second, .val (.double x0), .second, .val (.double x1), .second, .val (.double x2), .second, .val (.ref b_1), .val (.int i3), .val (.double x0), .second, .val (.double x0), .second] []))
                  refine Go.step (fun t k => XS.aload X_17.here hx rfl (hb hby at_278) rfl rfl k) ?_
                  show Go p.tables e below P (T_17.setTop (mkF m 280 #[.val (.int p1), .val (.int p2), .val (.int p3), .val (.int p4), .val (.int p5), .val (.int p6), .val (.int i3), .val (.int i9), .val (.int i15), .val (.int i21), .val (.double (9218868437227405312 : UInt64)), .second, .val (.double x0), .second, .val (.double x1), .second, .val (.double x2), .second, .val (.ref b_1), .val (.int i3), .val (.double x0), .second, .val (.double x0), .second] [(.ref b_1)]))
                  obtain ⟨cq_18, kq_18, q_18a, q_18b, q_18c⟩ := isOf hZ rfl ((((A_1.keep Kc_2).keep Kc_6).keep Kc_10).keep Kc_17)
                  obtain ⟨_, _, ⟨T_18, L_18, k_18, n_18⟩, -, X_18, ⟨Lc_18, hQ_18, l_18, y_18, z_18⟩, st_18⟩ := X_17.virtualBack hx (y := (⟨"com/example/fieldroster/fieldroster/policy/Nearest", "found", "()Z"⟩ : MethodName)) (z := (⟨"com/example/fieldroster/fieldroster/policy/Nearest", "found", "()Z"⟩ : MethodName)) hown (mvT hZ (hw _ (List.mem_of_getElem? (i := 16) rfl))) (mvT hZ (hw _ (List.mem_of_getElem? (i := 17) rfl))) (notFace_of_selects (args := #[]) (mvT hZ (hw _ (List.mem_of_getElem? (i := 19) rfl)))) (mvT hZ (hw _ (List.mem_of_getElem? (i := 19) rfl))) (mvT hZ (hw _ (List.mem_of_getElem? (i := 18) rfl))) (by decide) (backOf (W := 0) (rm3 l Z a0 hw [] b_1 i3 T_17.heap n0 Z_17 Fi_17) hZ (hw _ (List.mem_of_getElem? (i := 20) rfl)) (hw _ (List.mem_of_getElem? (i := 4) rfl)) (by decide) (by decide)) q_18a q_18c (g := (mkF m 280 #[.val (.int p1), .val (.int p2), .val (.int p3), .val (.int p4), .val (.int p5), .val (.int p6), .val (.int i3), .val (.int i9), .val (.int i15), .val (.int i21), .val (.double (9218868437227405312 : UInt64)), .second, .val (.double x0), .second, .val (.double x1), .second, .val (.double x2), .second, .val (.ref b_1), .val (.int i3), .val (.double x0), .second, .val (.double x0), .second] [(.ref b_1)])) rfl (by rw [hml]; rfl) (Steps.refl _) (argsL := []) (rest := []) (lenOf pd_1 rfl) rfl (by show 2 * 0 + _ ≤ _; exact Nat.le_of_eq rfl) (hb hby at_280) (fun _ _ => ⟨rfl, rfl, (by decide : 1 + 0 ≤ _), (by decide : 2 + 0 ≤ _)⟩)
                  dsimp only [Pt.U, Pt.locs, Pt.cells, Pt.slots] at X_18 l_18 y_18 z_18 st_18 hQ_18
                  subst l_18 y_18 z_18
                  obtain ⟨fr, rfl, hfr, N_18q, eh_18⟩ := hQ_18
                  have N_18 := Fr.app N_17 N_18q
                  refine Go.tr st_18 ?_
                  show Go p.tables e below P (T_18.setTop (mkF m 283 #[.val (.int p1), .val (.int p2), .val (.int p3), .val (.int p4), .val (.int p5), .val (.int p6), .val (.int i3), .val (.int i9), .val (.int i15), .val (.int i21), .val (.double (9218868437227405312 : UInt64)), .second, .val (.double x0), .second, .val (.double x1), .second, .val (.double x2), .second, .val (.ref b_1), .val (.int i3), .val (.double x0), .second, .val (.double x0), .second] [(.int fr)]))
                  refine Go.step (fun t k => XS.iload X_18.here hx rfl (hb hby at_283) rfl  k) ?_
                  show Go p.tables e below P (T_18.setTop (mkF m 285 #[.val (.int p1), .val (.int p2), .val (.int p3), .val (.int p4), .val (.int p5), .val (.int p6), .val (.int i3), .val (.int i9), .val (.int i15), .val (.int i21), .val (.double (9218868437227405312 : UInt64)), .second, .val (.double x0), .second, .val (.double x1), .second, .val (.double x2), .second, .val (.ref b_1), .val (.int i3), .val (.double x0), .second, .val (.double x0), .second] [(.int i21), (.int fr)]))
                  refine Go.step (fun t k => XS.iconst X_18.here hx rfl (hb hby at_285) k) ?_
                  show Go p.tables e below P (T_18.setTop (mkF m 286 #[.val (.int p1), .val (.int p2), .val (.int p3), .val (.int p4), .val (.int p5), .val (.int p6), .val (.int i3), .val (.int i9), .val (.int i15), .val (.int i21), .val (.double (9218868437227405312 : UInt64)), .second, .val (.double x0), .second, .val (.double x1), .second, .val (.double x2), .second, .val (.ref b_1), .val (.int i3), .val (.double x0), .second, .val (.double x0), .second] [(.int (1 : Int32)), (.int i21), (.int fr)]))
                  refine Go.step (fun t k => XS.icmpNo X_18.here hx rfl (hb hby at_286) rfl (icN (cd := .lt) (by omega : ¬ (i21.toInt < (1 : Int)))) k) ?_
                  show Go p.tables e below P (T_18.setTop (mkF m 289 #[.val (.int p1), .val (.int p2), .val (.int p3), .val (.int p4), .val (.int p5), .val (.int p6), .val (.int i3), .val (.int i9), .val (.int i15), .val (.int i21), .val (.double (9218868437227405312 : UInt64)), .second, .val (.double x0), .second, .val (.double x1), .second, .val (.double x2), .second, .val (.ref b_1), .val (.int i3), .val (.double x0), .second, .val (.double x0), .second] [(.int fr)]))
                  refine Go.step (fun t k => XS.iconst X_18.here hx rfl (hb hby at_289) k) ?_
                  show Go p.tables e below P (T_18.setTop (mkF m 290 #[.val (.int p1), .val (.int p2), .val (.int p3), .val (.int p4), .val (.int p5), .val (.int p6), .val (.int i3), .val (.int i9), .val (.int i15), .val (.int i21), .val (.double (9218868437227405312 : UInt64)), .second, .val (.double x0), .second, .val (.double x1), .second, .val (.double x2), .second, .val (.ref b_1), .val (.int i3), .val (.double x0), .second, .val (.double x0), .second] [(.int (1 : Int32)), (.int fr)]))
                  refine Go.step (fun t k => XS.goto X_18.here hx rfl (pc0 := 290) (pc' := 294) rfl (hb hby at_290) (by decide) (by decide) k) ?_
                  show Go p.tables e below P (T_18.setTop (mkF m 294 #[.val (.int p1), .val (.int p2), .val (.int p3), .val (.int p4), .val (.int p5), .val (.int p6), .val (.int i3), .val (.int i9), .val (.int i15), .val (.int i21), .val (.double (9218868437227405312 : UInt64)), .second, .val (.double x0), .second, .val (.double x1), .second, .val (.double x2), .second, .val (.ref b_1), .val (.int i3), .val (.double x0), .second, .val (.double x0), .second] [(.int (1 : Int32)), (.int fr)]))
                  refine Go.step (fun t k => XS.icmpNo X_18.here hx rfl (hb hby at_294) rfl (icN (cd := .ne) (by omega : ¬ (¬ fr.toInt = (1 : Int)))) k) ?_
                  show Go p.tables e below P (T_18.setTop (mkF m 297 #[.val (.int p1), .val (.int p2), .val (.int p3), .val (.int p4), .val (.int p5), .val (.int p6), .val (.int i3), .val (.int i9), .val (.int i15), .val (.int i21), .val (.double (9218868437227405312 : UInt64)), .second, .val (.double x0), .second, .val (.double x1), .second, .val (.double x2), .second, .val (.ref b_1), .val (.int i3), .val (.double x0), .second, .val (.double x0), .second] []))
                  refine Go.step (fun t k => XS.aload X_18.here hx rfl (hb hby at_297) rfl rfl k) ?_
                  show Go p.tables e below P (T_18.setTop (mkF m 299 #[.val (.int p1), .val (.int p2), .val (.int p3), .val (.int p4), .val (.int p5), .val (.int p6), .val (.int i3), .val (.int i9), .val (.int i15), .val (.int i21), .val (.double (9218868437227405312 : UInt64)), .second, .val (.double x0), .second, .val (.double x1), .second, .val (.double x2), .second, .val (.ref b_1), .val (.int i3), .val (.double x0), .second, .val (.double x0), .second] [(.ref b_1)]))
                  obtain ⟨cq_19, kq_19, q_19a, q_19b, q_19c⟩ := isOf hZ eh_18 ((((A_1.keep Kc_2).keep Kc_6).keep Kc_10).keep Kc_17)
                  obtain ⟨_, _, ⟨T_19, L_19, k_19, n_19⟩, -, X_19, ⟨Lc_19, hQ_19, l_19, y_19, z_19⟩, st_19⟩ := X_18.virtualBack hx (y := (⟨"com/example/fieldroster/fieldroster/policy/Nearest", "index", "()I"⟩ : MethodName)) (z := (⟨"com/example/fieldroster/fieldroster/policy/Nearest", "index", "()I"⟩ : MethodName)) hown (mvT hZ (hw _ (List.mem_of_getElem? (i := 21) rfl))) (mvT hZ (hw _ (List.mem_of_getElem? (i := 22) rfl))) (notFace_of_selects (args := #[]) (mvT hZ (hw _ (List.mem_of_getElem? (i := 24) rfl)))) (mvT hZ (hw _ (List.mem_of_getElem? (i := 24) rfl))) (mvT hZ (hw _ (List.mem_of_getElem? (i := 23) rfl))) (by decide) (backOf (W := 0) (rm4 l Z a0 hw [] b_1 i3 T_17.heap n0 Z_17 Fi_17) hZ (hw _ (List.mem_of_getElem? (i := 25) rfl)) (hw _ (List.mem_of_getElem? (i := 4) rfl)) (by decide) (by decide)) q_19a q_19c (g := (mkF m 299 #[.val (.int p1), .val (.int p2), .val (.int p3), .val (.int p4), .val (.int p5), .val (.int p6), .val (.int i3), .val (.int i9), .val (.int i15), .val (.int i21), .val (.double (9218868437227405312 : UInt64)), .second, .val (.double x0), .second, .val (.double x1), .second, .val (.double x2), .second, .val (.ref b_1), .val (.int i3), .val (.double x0), .second, .val (.double x0), .second] [(.ref b_1)])) rfl (by rw [hml]; rfl) (Steps.refl _) (argsL := []) (rest := []) (lenOf pd_2 rfl) rfl (by show 2 * 0 + _ ≤ _; exact Nat.le_of_eq rfl) (hb hby at_299) (fun _ _ => ⟨rfl, eh_18, (by decide : 1 + 0 ≤ _), (by decide : 2 + 0 ≤ _)⟩)
                  dsimp only [Pt.U, Pt.locs, Pt.cells, Pt.slots] at X_19 l_19 y_19 z_19 st_19 hQ_19
                  subst l_19 y_19 z_19
                  obtain ⟨rfl, N_19q, eh_19⟩ := hQ_19
                  have N_19 := Fr.app N_18 N_19q
                  refine Go.tr st_19 ?_
                  show Go p.tables e below P (T_19.setTop (mkF m 302 #[.val (.int p1), .val (.int p2), .val (.int p3), .val (.int p4), .val (.int p5), .val (.int p6), .val (.int i3), .val (.int i9), .val (.int i15), .val (.int i21), .val (.double (9218868437227405312 : UInt64)), .second, .val (.double x0), .second, .val (.double x1), .second, .val (.double x2), .second, .val (.ref b_1), .val (.int i3), .val (.double x0), .second, .val (.double x0), .second] [(.int i3)]))
                  refine Go.step (fun t k => XS.iload X_19.here hx rfl (hb hby at_302) rfl  k) ?_
                  show Go p.tables e below P (T_19.setTop (mkF m 304 #[.val (.int p1), .val (.int p2), .val (.int p3), .val (.int p4), .val (.int p5), .val (.int p6), .val (.int i3), .val (.int i9), .val (.int i15), .val (.int i21), .val (.double (9218868437227405312 : UInt64)), .second, .val (.double x0), .second, .val (.double x1), .second, .val (.double x2), .second, .val (.ref b_1), .val (.int i3), .val (.double x0), .second, .val (.double x0), .second] [(.int i3), (.int i3)]))
                  refine Go.step (fun t k => XS.icmpNo X_19.here hx rfl (hb hby at_304) rfl (icN (cd := .ne) (fun q => q rfl)) k) ?_
                  show Go p.tables e below P (T_19.setTop (mkF m 307 #[.val (.int p1), .val (.int p2), .val (.int p3), .val (.int p4), .val (.int p5), .val (.int p6), .val (.int i3), .val (.int i9), .val (.int i15), .val (.int i21), .val (.double (9218868437227405312 : UInt64)), .second, .val (.double x0), .second, .val (.double x1), .second, .val (.double x2), .second, .val (.ref b_1), .val (.int i3), .val (.double x0), .second, .val (.double x0), .second] []))
                  refine Go.step (fun t k => XS.aload X_19.here hx rfl (hb hby at_307) rfl rfl k) ?_
                  show Go p.tables e below P (T_19.setTop (mkF m 309 #[.val (.int p1), .val (.int p2), .val (.int p3), .val (.int p4), .val (.int p5), .val (.int p6), .val (.int i3), .val (.int i9), .val (.int i15), .val (.int i21), .val (.double (9218868437227405312 : UInt64)), .second, .val (.double x0), .second, .val (.double x1), .second, .val (.double x2), .second, .val (.ref b_1), .val (.int i3), .val (.double x0), .second, .val (.double x0), .second] [(.ref b_1)]))
                  obtain ⟨cq_20, kq_20, q_20a, q_20b, q_20c⟩ := isOf hZ eh_19 ((((A_1.keep Kc_2).keep Kc_6).keep Kc_10).keep Kc_17)
                  obtain ⟨_, _, ⟨T_20, L_20, k_20, n_20⟩, -, X_20, ⟨Lc_20, hQ_20, l_20, y_20, z_20⟩, st_20⟩ := X_19.virtualBack hx (y := (⟨"com/example/fieldroster/fieldroster/policy/Nearest", "distance", "()D"⟩ : MethodName)) (z := (⟨"com/example/fieldroster/fieldroster/policy/Nearest", "distance", "()D"⟩ : MethodName)) hown (mvT hZ (hw _ (List.mem_of_getElem? (i := 26) rfl))) (mvT hZ (hw _ (List.mem_of_getElem? (i := 27) rfl))) (notFace_of_selects (args := #[]) (mvT hZ (hw _ (List.mem_of_getElem? (i := 29) rfl)))) (mvT hZ (hw _ (List.mem_of_getElem? (i := 29) rfl))) (mvT hZ (hw _ (List.mem_of_getElem? (i := 28) rfl))) (by decide) (backOf (W := 0) (rm5 l Z a0 hw [] b_1 x0 T_17.heap n0 Z_17 Fd_17) hZ (hw _ (List.mem_of_getElem? (i := 30) rfl)) (hw _ (List.mem_of_getElem? (i := 4) rfl)) (by decide) (by decide)) q_20a q_20c (g := (mkF m 309 #[.val (.int p1), .val (.int p2), .val (.int p3), .val (.int p4), .val (.int p5), .val (.int p6), .val (.int i3), .val (.int i9), .val (.int i15), .val (.int i21), .val (.double (9218868437227405312 : UInt64)), .second, .val (.double x0), .second, .val (.double x1), .second, .val (.double x2), .second, .val (.ref b_1), .val (.int i3), .val (.double x0), .second, .val (.double x0), .second] [(.ref b_1)])) rfl (by rw [hml]; rfl) (Steps.refl _) (argsL := []) (rest := []) (lenOf pd_3 rfl) rfl (by show 2 * 0 + _ ≤ _; exact Nat.le_of_eq rfl) (hb hby at_309) (fun _ _ => ⟨rfl, eh_19, (by decide : 1 + 0 ≤ _), (by decide : 2 + 0 ≤ _)⟩)
                  dsimp only [Pt.U, Pt.locs, Pt.cells, Pt.slots] at X_20 l_20 y_20 z_20 st_20 hQ_20
                  subst l_20 y_20 z_20
                  obtain ⟨rfl, N_20q, eh_20⟩ := hQ_20
                  have N_20 := Fr.app N_19 N_20q
                  refine Go.tr st_20 ?_
                  show Go p.tables e below P (T_20.setTop (mkF m 312 #[.val (.int p1), .val (.int p2), .val (.int p3), .val (.int p4), .val (.int p5), .val (.int p6), .val (.int i3), .val (.int i9), .val (.int i15), .val (.int i21), .val (.double (9218868437227405312 : UInt64)), .second, .val (.double x0), .second, .val (.double x1), .second, .val (.double x2), .second, .val (.ref b_1), .val (.int i3), .val (.double x0), .second, .val (.double x0), .second] [(.double x0)]))
                  refine Go.step (fun t k => XS.dload X_20.here hx rfl (hb hby at_312) rfl  k) ?_
                  show Go p.tables e below P (T_20.setTop (mkF m 314 #[.val (.int p1), .val (.int p2), .val (.int p3), .val (.int p4), .val (.int p5), .val (.int p6), .val (.int i3), .val (.int i9), .val (.int i15), .val (.int i21), .val (.double (9218868437227405312 : UInt64)), .second, .val (.double x0), .second, .val (.double x1), .second, .val (.double x2), .second, .val (.ref b_1), .val (.int i3), .val (.double x0), .second, .val (.double x0), .second] [(.double x0), (.double x0)]))
                  refine Go.step (fun t k => XS.dcmpS X_20.here hx rfl (hb hby at_314) rfl rfl k) ?_
                  show Go p.tables e below P (T_20.setTop (mkF m 315 #[.val (.int p1), .val (.int p2), .val (.int p3), .val (.int p4), .val (.int p5), .val (.int p6), .val (.int i3), .val (.int i9), .val (.int i15), .val (.int i21), .val (.double (9218868437227405312 : UInt64)), .second, .val (.double x0), .second, .val (.double x1), .second, .val (.double x2), .second, .val (.ref b_1), .val (.int i3), .val (.double x0), .second, .val (.double x0), .second] [(.int (cmpValue (FP.dcmp x0 x0) .l))]))
                  refine Go.step (fun t k => XS.ifNo X_20.here hx rfl (hb hby at_315) rfl (dcN (cd := .ne) (zcmp hx0 hx0) (fun q => q rfl)) k) ?_
                  show Go p.tables e below P (T_20.setTop (mkF m 318 #[.val (.int p1), .val (.int p2), .val (.int p3), .val (.int p4), .val (.int p5), .val (.int p6), .val (.int i3), .val (.int i9), .val (.int i15), .val (.int i21), .val (.double (9218868437227405312 : UInt64)), .second, .val (.double x0), .second, .val (.double x1), .second, .val (.double x2), .second, .val (.ref b_1), .val (.int i3), .val (.double x0), .second, .val (.double x0), .second] []))
                  refine Go.step (fun t k => XS.iconst X_20.here hx rfl (hb hby at_318) k) ?_
                  show Go p.tables e below P (T_20.setTop (mkF m 319 #[.val (.int p1), .val (.int p2), .val (.int p3), .val (.int p4), .val (.int p5), .val (.int p6), .val (.int i3), .val (.int i9), .val (.int i15), .val (.int i21), .val (.double (9218868437227405312 : UInt64)), .second, .val (.double x0), .second, .val (.double x1), .second, .val (.double x2), .second, .val (.ref b_1), .val (.int i3), .val (.double x0), .second, .val (.double x0), .second] [(.int (1 : Int32))]))
                  refine Go.step (fun t k => XS.goto X_20.here hx rfl (pc0 := 319) (pc' := 323) rfl (hb hby at_319) (by decide) (by decide) k) ?_
                  show Go p.tables e below P (T_20.setTop (mkF m 323 #[.val (.int p1), .val (.int p2), .val (.int p3), .val (.int p4), .val (.int p5), .val (.int p6), .val (.int i3), .val (.int i9), .val (.int i15), .val (.int i21), .val (.double (9218868437227405312 : UInt64)), .second, .val (.double x0), .second, .val (.double x1), .second, .val (.double x2), .second, .val (.ref b_1), .val (.int i3), .val (.double x0), .second, .val (.double x0), .second] [(.int (1 : Int32))]))
                  exact retGo X_20 hx hP Bd.returns hlk rfl (Or.inl ⟨rfl, Or.inr (Or.inl rfl), _, rfl⟩) (hb hby at_323) (by decide) (by decide) (by rw [eh_20]; exact ⟨rfl, N_20⟩)
                · refine Go.step (fun t k => XS.ifNo X_17.here hx rfl (hb hby at_236) rfl (dcN (cd := .ge) (zcmp hx2 hx0) hc236) k) ?_
                  show Go p.tables e below P (T_17.setTop (mkF m 239 #[.val (.int p1), .val (.int p2), .val (.int p3), .val (.int p4), .val (.int p5), .val (.int p6), .val (.int i3), .val (.int i9), .val (.int i15), .val (.int i21), .val (.double (9218868437227405312 : UInt64)), .second, .val (.double x0), .second, .val (.double x1), .second, .val (.double x2), .second, .val (.ref b_1), .unset, .unset, .unset, .val (.double x0), .second] []))
                  have e3 : i15 = ix3 ∧ x2 = ds3 := by rcases of3 with ⟨_, h1, h2⟩ | ⟨h1, _⟩; exact ⟨h1.symm, h2.symm⟩; exact absurd (Or.inr (by omega)) h1
                  obtain ⟨rfl, rfl⟩ := e3
                  show Go p.tables e below P (T_17.setTop (mkF m 239 #[.val (.int p1), .val (.int p2), .val (.int p3), .val (.int p4), .val (.int p5), .val (.int p6), .val (.int i3), .val (.int i9), .val (.int i15), .val (.int i21), .val (.double (9218868437227405312 : UInt64)), .second, .val (.double x0), .second, .val (.double x1), .second, .val (.double x2), .second, .val (.ref b_1), .unset, .unset, .unset, .val (.double x0), .second] []))
                  refine Go.step (fun t k => XS.dload X_17.here hx rfl (hb hby at_239) rfl  k) ?_
                  show Go p.tables e below P (T_17.setTop (mkF m 241 #[.val (.int p1), .val (.int p2), .val (.int p3), .val (.int p4), .val (.int p5), .val (.int p6), .val (.int i3), .val (.int i9), .val (.int i15), .val (.int i21), .val (.double (9218868437227405312 : UInt64)), .second, .val (.double x0), .second, .val (.double x1), .second, .val (.double x2), .second, .val (.ref b_1), .unset, .unset, .unset, .val (.double x0), .second] [(.double x2)]))
                  refine Go.step (fun t k => XS.goto X_17.here hx rfl (pc0 := 241) (pc' := 246) rfl (hb hby at_241) (by decide) (by decide) k) ?_
                  show Go p.tables e below P (T_17.setTop (mkF m 246 #[.val (.int p1), .val (.int p2), .val (.int p3), .val (.int p4), .val (.int p5), .val (.int p6), .val (.int i3), .val (.int i9), .val (.int i15), .val (.int i21), .val (.double (9218868437227405312 : UInt64)), .second, .val (.double x0), .second, .val (.double x1), .second, .val (.double x2), .second, .val (.ref b_1), .unset, .unset, .unset, .val (.double x0), .second] [(.double x2)]))
                  refine Go.step (fun t k => XS.dstore X_17.here hx rfl (hb hby at_246) rfl (l' := #[.val (.int p1), .val (.int p2), .val (.int p3), .val (.int p4), .val (.int p5), .val (.int p6), .val (.int i3), .val (.int i9), .val (.int i15), .val (.int i21), .val (.double (9218868437227405312 : UInt64)), .second, .val (.double x0), .second, .val (.double x1), .second, .val (.double x2), .second, .val (.ref b_1), .unset, .val (.double x2), .second, .val (.double x0), .second]) rfl k) ?_
                  show Go p.tables e below P (T_17.setTop (mkF m 248 #[.val (.int p1), .val (.int p2), .val (.int p3), .val (.int p4), .val (.int p5), .val (.int p6), .val (.int i3), .val (.int i9), .val (.int i15), .val (.int i21), .val (.double (9218868437227405312 : UInt64)), .second, .val (.double x0), .second, .val (.double x1), .second, .val (.double x2), .second, .val (.ref b_1), .unset, .val (.double x2), .second, .val (.double x0), .second] []))
                  refine Go.step (fun t k => XS.dload X_17.here hx rfl (hb hby at_248) rfl  k) ?_
                  show Go p.tables e below P (T_17.setTop (mkF m 250 #[.val (.int p1), .val (.int p2), .val (.int p3), .val (.int p4), .val (.int p5), .val (.int p6), .val (.int i3), .val (.int i9), .val (.int i15), .val (.int i21), .val (.double (9218868437227405312 : UInt64)), .second, .val (.double x0), .second, .val (.double x1), .second, .val (.double x2), .second, .val (.ref b_1), .unset, .val (.double x2), .second, .val (.double x0), .second] [(.double x0)]))
                  refine Go.step (fun t k => XS.dload X_17.here hx rfl (hb hby at_250) rfl  k) ?_
                  show Go p.tables e below P (T_17.setTop (mkF m 252 #[.val (.int p1), .val (.int p2), .val (.int p3), .val (.int p4), .val (.int p5), .val (.int p6), .val (.int i3), .val (.int i9), .val (.int i15), .val (.int i21), .val (.double (9218868437227405312 : UInt64)), .second, .val (.double x0), .second, .val (.double x1), .second, .val (.double x2), .second, .val (.ref b_1), .unset, .val (.double x2), .second, .val (.double x0), .second] [(.double x2), (.double x0)]))
                  refine Go.step (fun t k => XS.dcmpS X_17.here hx rfl (hb hby at_252) rfl rfl k) ?_
                  show Go p.tables e below P (T_17.setTop (mkF m 253 #[.val (.int p1), .val (.int p2), .val (.int p3), .val (.int p4), .val (.int p5), .val (.int p6), .val (.int i3), .val (.int i9), .val (.int i15), .val (.int i21), .val (.double (9218868437227405312 : UInt64)), .second, .val (.double x0), .second, .val (.double x1), .second, .val (.double x2), .second, .val (.ref b_1), .unset, .val (.double x2), .second, .val (.double x0), .second] [(.int (cmpValue (FP.dcmp x0 x2) .l))]))
                  refine Go.step (fun t k => XS.ifYes X_17.here hx rfl (pc0 := 253) (pc' := 261) rfl (hb hby at_253) rfl (dcY (cd := .ne) (zcmp hx0 hx2) (by omega : ¬ (zv x0) = (zv x2))) (by decide) (by decide) k) ?_
                  show Go p.tables e below P (T_17.setTop (mkF m 261 #[.val (.int p1), .val (.int p2), .val (.int p3), .val (.int p4), .val (.int p5), .val (.int p6), .val (.int i3), .val (.int i9), .val (.int i15), .val (.int i21), .val (.double (9218868437227405312 : UInt64)), .second, .val (.double x0), .second, .val (.double x1), .second, .val (.double x2), .second, .val (.ref b_1), .unset, .val (.double x2), .second, .val (.double x0), .second] []))
                  refine Go.step (fun t k => XS.dload X_17.here hx rfl (hb hby at_261) rfl  k) ?_
                  show Go p.tables e below P (T_17.setTop (mkF m 263 #[.val (.int p1), .val (.int p2), .val (.int p3), .val (.int p4), .val (.int p5), .val (.int p6), .val (.int i3), .val (.int i9), .val (.int i15), .val (.int i21), .val (.double (9218868437227405312 : UInt64)), .second, .val (.double x0), .second, .val (.double x1), .second, .val (.double x2), .second, .val (.ref b_1), .unset, .val (.double x2), .second, .val (.double x0), .second] [(.double x1)]))
                  refine Go.step (fun t k => XS.dload X_17.here hx rfl (hb hby at_263) rfl  k) ?_
                  show Go p.tables e below P (T_17.setTop (mkF m 265 #[.val (.int p1), .val (.int p2), .val (.int p3), .val (.int p4), .val (.int p5), .val (.int p6), .val (.int i3), .val (.int i9), .val (.int i15), .val (.int i21), .val (.double (9218868437227405312 : UInt64)), .second, .val (.double x0), .second, .val (.double x1), .second, .val (.double x2), .second, .val (.ref b_1), .unset, .val (.double x2), .second, .val (.double x0), .second] [(.double x2), (.double x1)]))
                  refine Go.step (fun t k => XS.dcmpS X_17.here hx rfl (hb hby at_265) rfl rfl k) ?_
                  show Go p.tables e below P (T_17.setTop (mkF m 266 #[.val (.int p1), .val (.int p2), .val (.int p3), .val (.int p4), .val (.int p5), .val (.int p6), .val (.int i3), .val (.int i9), .val (.int i15), .val (.int i21), .val (.double (9218868437227405312 : UInt64)), .second, .val (.double x0), .second, .val (.double x1), .second, .val (.double x2), .second, .val (.ref b_1), .unset, .val (.double x2), .second, .val (.double x0), .second] [(.int (cmpValue (FP.dcmp x1 x2) .l))]))
                  refine Go.step (fun t k => XS.ifYes X_17.here hx rfl (pc0 := 266) (pc' := 274) rfl (hb hby at_266) rfl (dcY (cd := .ne) (zcmp hx1 hx2) (by omega : ¬ (zv x1) = (zv x2))) (by decide) (by decide) k) ?_
                  show Go p.tables e below P (T_17.setTop (mkF m 274 #[.val (.int p1), .val (.int p2), .val (.int p3), .val (.int p4), .val (.int p5), .val (.int p6), .val (.int i3), .val (.int i9), .val (.int i15), .val (.int i21), .val (.double (9218868437227405312 : UInt64)), .second, .val (.double x0), .second, .val (.double x1), .second, .val (.double x2), .second, .val (.ref b_1), .unset, .val (.double x2), .second, .val (.double x0), .second] []))
                  refine Go.step (fun t k => XS.iload X_17.here hx rfl (hb hby at_274) rfl  k) ?_
                  show Go p.tables e below P (T_17.setTop (mkF m 276 #[.val (.int p1), .val (.int p2), .val (.int p3), .val (.int p4), .val (.int p5), .val (.int p6), .val (.int i3), .val (.int i9), .val (.int i15), .val (.int i21), .val (.double (9218868437227405312 : UInt64)), .second, .val (.double x0), .second, .val (.double x1), .second, .val (.double x2), .second, .val (.ref b_1), .unset, .val (.double x2), .second, .val (.double x0), .second] [(.int i15)]))
                  refine Go.step (fun t k => XS.istore X_17.here hx rfl (hb hby at_276) rfl (l' := #[.val (.int p1), .val (.int p2), .val (.int p3), .val (.int p4), .val (.int p5), .val (.int p6), .val (.int i3), .val (.int i9), .val (.int i15), .val (.int i21), .val (.double (9218868437227405312 : UInt64)), .second, .val (.double x0), .second, .val (.double x1), .second, .val (.double x2), .second, .val (.ref b_1), .val (.int i15), .val (.double x2), .second, .val (.double x0), .second]) rfl k) ?_
                  show Go p.tables e below P (T_17.setTop (mkF m 278 #[.val (.int p1), .val (.int p2), .val (.int p3), .val (.int p4), .val (.int p5), .val (.int p6), .val (.int i3), .val (.int i9), .val (.int i15), .val (.int i21), .val (.double (9218868437227405312 : UInt64)), .second, .val (.double x0), .second, .val (.double x1), .second, .val (.double x2), .second, .val (.ref b_1), .val (.int i15), .val (.double x2), .second, .val (.double x0), .second] []))
                  refine Go.step (fun t k => XS.aload X_17.here hx rfl (hb hby at_278) rfl rfl k) ?_
                  show Go p.tables e below P (T_17.setTop (mkF m 280 #[.val (.int p1), .val (.int p2), .val (.int p3), .val (.int p4), .val (.int p5), .val (.int p6), .val (.int i3), .val (.int i9), .val (.int i15), .val (.int i21), .val (.double (9218868437227405312 : UInt64)), .second, .val (.double x0), .second, .val (.double x1), .second, .val (.double x2), .second, .val (.ref b_1), .val (.int i15), .val (.double x2), .second, .val (.double x0), .second] [(.ref b_1)]))
                  obtain ⟨cq_21, kq_21, q_21a, q_21b, q_21c⟩ := isOf hZ rfl ((((A_1.keep Kc_2).keep Kc_6).keep Kc_10).keep Kc_17)
                  obtain ⟨_, _, ⟨T_21, L_21, k_21, n_21⟩, -, X_21, ⟨Lc_21, hQ_21, l_21, y_21, z_21⟩, st_21⟩ := X_17.virtualBack hx (y := (⟨"com/example/fieldroster/fieldroster/policy/Nearest", "found", "()Z"⟩ : MethodName)) (z := (⟨"com/example/fieldroster/fieldroster/policy/Nearest", "found", "()Z"⟩ : MethodName)) hown (mvT hZ (hw _ (List.mem_of_getElem? (i := 16) rfl))) (mvT hZ (hw _ (List.mem_of_getElem? (i := 17) rfl))) (notFace_of_selects (args := #[]) (mvT hZ (hw _ (List.mem_of_getElem? (i := 19) rfl)))) (mvT hZ (hw _ (List.mem_of_getElem? (i := 19) rfl))) (mvT hZ (hw _ (List.mem_of_getElem? (i := 18) rfl))) (by decide) (backOf (W := 0) (rm3 l Z a0 hw [] b_1 i15 T_17.heap n0 Z_17 Fi_17) hZ (hw _ (List.mem_of_getElem? (i := 20) rfl)) (hw _ (List.mem_of_getElem? (i := 4) rfl)) (by decide) (by decide)) q_21a q_21c (g := (mkF m 280 #[.val (.int p1), .val (.int p2), .val (.int p3), .val (.int p4), .val (.int p5), .val (.int p6), .val (.int i3), .val (.int i9), .val (.int i15), .val (.int i21), .val (.double (9218868437227405312 : UInt64)), .second, .val (.double x0), .second, .val (.double x1), .second, .val (.double x2), .second, .val (.ref b_1), .val (.int i15), .val (.double x2), .second, .val (.double x0), .second] [(.ref b_1)])) rfl (by rw [hml]; rfl) (Steps.refl _) (argsL := []) (rest := []) (lenOf pd_1 rfl) rfl (by show 2 * 0 + _ ≤ _; exact Nat.le_of_eq rfl) (hb hby at_280) (fun _ _ => ⟨rfl, rfl, (by decide : 1 + 0 ≤ _), (by decide : 2 + 0 ≤ _)⟩)
                  dsimp only [Pt.U, Pt.locs, Pt.cells, Pt.slots] at X_21 l_21 y_21 z_21 st_21 hQ_21
                  subst l_21 y_21 z_21
                  obtain ⟨fr, rfl, hfr, N_21q, eh_21⟩ := hQ_21
                  have N_21 := Fr.app N_17 N_21q
                  refine Go.tr st_21 ?_
                  show Go p.tables e below P (T_21.setTop (mkF m 283 #[.val (.int p1), .val (.int p2), .val (.int p3), .val (.int p4), .val (.int p5), .val (.int p6), .val (.int i3), .val (.int i9), .val (.int i15), .val (.int i21), .val (.double (9218868437227405312 : UInt64)), .second, .val (.double x0), .second, .val (.double x1), .second, .val (.double x2), .second, .val (.ref b_1), .val (.int i15), .val (.double x2), .second, .val (.double x0), .second] [(.int fr)]))
                  refine Go.step (fun t k => XS.iload X_21.here hx rfl (hb hby at_283) rfl  k) ?_
                  show Go p.tables e below P (T_21.setTop (mkF m 285 #[.val (.int p1), .val (.int p2), .val (.int p3), .val (.int p4), .val (.int p5), .val (.int p6), .val (.int i3), .val (.int i9), .val (.int i15), .val (.int i21), .val (.double (9218868437227405312 : UInt64)), .second, .val (.double x0), .second, .val (.double x1), .second, .val (.double x2), .second, .val (.ref b_1), .val (.int i15), .val (.double x2), .second, .val (.double x0), .second] [(.int i21), (.int fr)]))
                  refine Go.step (fun t k => XS.iconst X_21.here hx rfl (hb hby at_285) k) ?_
                  show Go p.tables e below P (T_21.setTop (mkF m 286 #[.val (.int p1), .val (.int p2), .val (.int p3), .val (.int p4), .val (.int p5), .val (.int p6), .val (.int i3), .val (.int i9), .val (.int i15), .val (.int i21), .val (.double (9218868437227405312 : UInt64)), .second, .val (.double x0), .second, .val (.double x1), .second, .val (.double x2), .second, .val (.ref b_1), .val (.int i15), .val (.double x2), .second, .val (.double x0), .second] [(.int (1 : Int32)), (.int i21), (.int fr)]))
                  refine Go.step (fun t k => XS.icmpNo X_21.here hx rfl (hb hby at_286) rfl (icN (cd := .lt) (by omega : ¬ (i21.toInt < (1 : Int)))) k) ?_
                  show Go p.tables e below P (T_21.setTop (mkF m 289 #[.val (.int p1), .val (.int p2), .val (.int p3), .val (.int p4), .val (.int p5), .val (.int p6), .val (.int i3), .val (.int i9), .val (.int i15), .val (.int i21), .val (.double (9218868437227405312 : UInt64)), .second, .val (.double x0), .second, .val (.double x1), .second, .val (.double x2), .second, .val (.ref b_1), .val (.int i15), .val (.double x2), .second, .val (.double x0), .second] [(.int fr)]))
                  refine Go.step (fun t k => XS.iconst X_21.here hx rfl (hb hby at_289) k) ?_
                  show Go p.tables e below P (T_21.setTop (mkF m 290 #[.val (.int p1), .val (.int p2), .val (.int p3), .val (.int p4), .val (.int p5), .val (.int p6), .val (.int i3), .val (.int i9), .val (.int i15), .val (.int i21), .val (.double (9218868437227405312 : UInt64)), .second, .val (.double x0), .second, .val (.double x1), .second, .val (.double x2), .second, .val (.ref b_1), .val (.int i15), .val (.double x2), .second, .val (.double x0), .second] [(.int (1 : Int32)), (.int fr)]))
                  refine Go.step (fun t k => XS.goto X_21.here hx rfl (pc0 := 290) (pc' := 294) rfl (hb hby at_290) (by decide) (by decide) k) ?_
                  show Go p.tables e below P (T_21.setTop (mkF m 294 #[.val (.int p1), .val (.int p2), .val (.int p3), .val (.int p4), .val (.int p5), .val (.int p6), .val (.int i3), .val (.int i9), .val (.int i15), .val (.int i21), .val (.double (9218868437227405312 : UInt64)), .second, .val (.double x0), .second, .val (.double x1), .second, .val (.double x2), .second, .val (.ref b_1), .val (.int i15), .val (.double x2), .second, .val (.double x0), .second] [(.int (1 : Int32)), (.int fr)]))
                  refine Go.step (fun t k => XS.icmpNo X_21.here hx rfl (hb hby at_294) rfl (icN (cd := .ne) (by omega : ¬ (¬ fr.toInt = (1 : Int)))) k) ?_
                  show Go p.tables e below P (T_21.setTop (mkF m 297 #[.val (.int p1), .val (.int p2), .val (.int p3), .val (.int p4), .val (.int p5), .val (.int p6), .val (.int i3), .val (.int i9), .val (.int i15), .val (.int i21), .val (.double (9218868437227405312 : UInt64)), .second, .val (.double x0), .second, .val (.double x1), .second, .val (.double x2), .second, .val (.ref b_1), .val (.int i15), .val (.double x2), .second, .val (.double x0), .second] []))
                  refine Go.step (fun t k => XS.aload X_21.here hx rfl (hb hby at_297) rfl rfl k) ?_
                  show Go p.tables e below P (T_21.setTop (mkF m 299 #[.val (.int p1), .val (.int p2), .val (.int p3), .val (.int p4), .val (.int p5), .val (.int p6), .val (.int i3), .val (.int i9), .val (.int i15), .val (.int i21), .val (.double (9218868437227405312 : UInt64)), .second, .val (.double x0), .second, .val (.double x1), .second, .val (.double x2), .second, .val (.ref b_1), .val (.int i15), .val (.double x2), .second, .val (.double x0), .second] [(.ref b_1)]))
                  obtain ⟨cq_22, kq_22, q_22a, q_22b, q_22c⟩ := isOf hZ eh_21 ((((A_1.keep Kc_2).keep Kc_6).keep Kc_10).keep Kc_17)
                  obtain ⟨_, _, ⟨T_22, L_22, k_22, n_22⟩, -, X_22, ⟨Lc_22, hQ_22, l_22, y_22, z_22⟩, st_22⟩ := X_21.virtualBack hx (y := (⟨"com/example/fieldroster/fieldroster/policy/Nearest", "index", "()I"⟩ : MethodName)) (z := (⟨"com/example/fieldroster/fieldroster/policy/Nearest", "index", "()I"⟩ : MethodName)) hown (mvT hZ (hw _ (List.mem_of_getElem? (i := 21) rfl))) (mvT hZ (hw _ (List.mem_of_getElem? (i := 22) rfl))) (notFace_of_selects (args := #[]) (mvT hZ (hw _ (List.mem_of_getElem? (i := 24) rfl)))) (mvT hZ (hw _ (List.mem_of_getElem? (i := 24) rfl))) (mvT hZ (hw _ (List.mem_of_getElem? (i := 23) rfl))) (by decide) (backOf (W := 0) (rm4 l Z a0 hw [] b_1 i15 T_17.heap n0 Z_17 Fi_17) hZ (hw _ (List.mem_of_getElem? (i := 25) rfl)) (hw _ (List.mem_of_getElem? (i := 4) rfl)) (by decide) (by decide)) q_22a q_22c (g := (mkF m 299 #[.val (.int p1), .val (.int p2), .val (.int p3), .val (.int p4), .val (.int p5), .val (.int p6), .val (.int i3), .val (.int i9), .val (.int i15), .val (.int i21), .val (.double (9218868437227405312 : UInt64)), .second, .val (.double x0), .second, .val (.double x1), .second, .val (.double x2), .second, .val (.ref b_1), .val (.int i15), .val (.double x2), .second, .val (.double x0), .second] [(.ref b_1)])) rfl (by rw [hml]; rfl) (Steps.refl _) (argsL := []) (rest := []) (lenOf pd_2 rfl) rfl (by show 2 * 0 + _ ≤ _; exact Nat.le_of_eq rfl) (hb hby at_299) (fun _ _ => ⟨rfl, eh_21, (by decide : 1 + 0 ≤ _), (by decide : 2 + 0 ≤ _)⟩)
                  dsimp only [Pt.U, Pt.locs, Pt.cells, Pt.slots] at X_22 l_22 y_22 z_22 st_22 hQ_22
                  subst l_22 y_22 z_22
                  obtain ⟨rfl, N_22q, eh_22⟩ := hQ_22
                  have N_22 := Fr.app N_21 N_22q
                  refine Go.tr st_22 ?_
                  show Go p.tables e below P (T_22.setTop (mkF m 302 #[.val (.int p1), .val (.int p2), .val (.int p3), .val (.int p4), .val (.int p5), .val (.int p6), .val (.int i3), .val (.int i9), .val (.int i15), .val (.int i21), .val (.double (9218868437227405312 : UInt64)), .second, .val (.double x0), .second, .val (.double x1), .second, .val (.double x2), .second, .val (.ref b_1), .val (.int i15), .val (.double x2), .second, .val (.double x0), .second] [(.int i15)]))
                  refine Go.step (fun t k => XS.iload X_22.here hx rfl (hb hby at_302) rfl  k) ?_
                  show Go p.tables e below P (T_22.setTop (mkF m 304 #[.val (.int p1), .val (.int p2), .val (.int p3), .val (.int p4), .val (.int p5), .val (.int p6), .val (.int i3), .val (.int i9), .val (.int i15), .val (.int i21), .val (.double (9218868437227405312 : UInt64)), .second, .val (.double x0), .second, .val (.double x1), .second, .val (.double x2), .second, .val (.ref b_1), .val (.int i15), .val (.double x2), .second, .val (.double x0), .second] [(.int i15), (.int i15)]))
                  refine Go.step (fun t k => XS.icmpNo X_22.here hx rfl (hb hby at_304) rfl (icN (cd := .ne) (fun q => q rfl)) k) ?_
                  show Go p.tables e below P (T_22.setTop (mkF m 307 #[.val (.int p1), .val (.int p2), .val (.int p3), .val (.int p4), .val (.int p5), .val (.int p6), .val (.int i3), .val (.int i9), .val (.int i15), .val (.int i21), .val (.double (9218868437227405312 : UInt64)), .second, .val (.double x0), .second, .val (.double x1), .second, .val (.double x2), .second, .val (.ref b_1), .val (.int i15), .val (.double x2), .second, .val (.double x0), .second] []))
                  refine Go.step (fun t k => XS.aload X_22.here hx rfl (hb hby at_307) rfl rfl k) ?_
                  show Go p.tables e below P (T_22.setTop (mkF m 309 #[.val (.int p1), .val (.int p2), .val (.int p3), .val (.int p4), .val (.int p5), .val (.int p6), .val (.int i3), .val (.int i9), .val (.int i15), .val (.int i21), .val (.double (9218868437227405312 : UInt64)), .second, .val (.double x0), .second, .val (.double x1), .second, .val (.double x2), .second, .val (.ref b_1), .val (.int i15), .val (.double x2), .second, .val (.double x0), .second] [(.ref b_1)]))
                  obtain ⟨cq_23, kq_23, q_23a, q_23b, q_23c⟩ := isOf hZ eh_22 ((((A_1.keep Kc_2).keep Kc_6).keep Kc_10).keep Kc_17)
                  obtain ⟨_, _, ⟨T_23, L_23, k_23, n_23⟩, -, X_23, ⟨Lc_23, hQ_23, l_23, y_23, z_23⟩, st_23⟩ := X_22.virtualBack hx (y := (⟨"com/example/fieldroster/fieldroster/policy/Nearest", "distance", "()D"⟩ : MethodName)) (z := (⟨"com/example/fieldroster/fieldroster/policy/Nearest", "distance", "()D"⟩ : MethodName)) hown (mvT hZ (hw _ (List.mem_of_getElem? (i := 26) rfl))) (mvT hZ (hw _ (List.mem_of_getElem? (i := 27) rfl))) (notFace_of_selects (args := #[]) (mvT hZ (hw _ (List.mem_of_getElem? (i := 29) rfl)))) (mvT hZ (hw _ (List.mem_of_getElem? (i := 29) rfl))) (mvT hZ (hw _ (List.mem_of_getElem? (i := 28) rfl))) (by decide) (backOf (W := 0) (rm5 l Z a0 hw [] b_1 x2 T_17.heap n0 Z_17 Fd_17) hZ (hw _ (List.mem_of_getElem? (i := 30) rfl)) (hw _ (List.mem_of_getElem? (i := 4) rfl)) (by decide) (by decide)) q_23a q_23c (g := (mkF m 309 #[.val (.int p1), .val (.int p2), .val (.int p3), .val (.int p4), .val (.int p5), .val (.int p6), .val (.int i3), .val (.int i9), .val (.int i15), .val (.int i21), .val (.double (9218868437227405312 : UInt64)), .second, .val (.double x0), .second, .val (.double x1), .second, .val (.double x2), .second, .val (.ref b_1), .val (.int i15), .val (.double x2), .second, .val (.double x0), .second] [(.ref b_1)])) rfl (by rw [hml]; rfl) (Steps.refl _) (argsL := []) (rest := []) (lenOf pd_3 rfl) rfl (by show 2 * 0 + _ ≤ _; exact Nat.le_of_eq rfl) (hb hby at_309) (fun _ _ => ⟨rfl, eh_22, (by decide : 1 + 0 ≤ _), (by decide : 2 + 0 ≤ _)⟩)
                  dsimp only [Pt.U, Pt.locs, Pt.cells, Pt.slots] at X_23 l_23 y_23 z_23 st_23 hQ_23
                  subst l_23 y_23 z_23
                  obtain ⟨rfl, N_23q, eh_23⟩ := hQ_23
                  have N_23 := Fr.app N_22 N_23q
                  refine Go.tr st_23 ?_
                  show Go p.tables e below P (T_23.setTop (mkF m 312 #[.val (.int p1), .val (.int p2), .val (.int p3), .val (.int p4), .val (.int p5), .val (.int p6), .val (.int i3), .val (.int i9), .val (.int i15), .val (.int i21), .val (.double (9218868437227405312 : UInt64)), .second, .val (.double x0), .second, .val (.double x1), .second, .val (.double x2), .second, .val (.ref b_1), .val (.int i15), .val (.double x2), .second, .val (.double x0), .second] [(.double x2)]))
                  refine Go.step (fun t k => XS.dload X_23.here hx rfl (hb hby at_312) rfl  k) ?_
                  show Go p.tables e below P (T_23.setTop (mkF m 314 #[.val (.int p1), .val (.int p2), .val (.int p3), .val (.int p4), .val (.int p5), .val (.int p6), .val (.int i3), .val (.int i9), .val (.int i15), .val (.int i21), .val (.double (9218868437227405312 : UInt64)), .second, .val (.double x0), .second, .val (.double x1), .second, .val (.double x2), .second, .val (.ref b_1), .val (.int i15), .val (.double x2), .second, .val (.double x0), .second] [(.double x2), (.double x2)]))
                  refine Go.step (fun t k => XS.dcmpS X_23.here hx rfl (hb hby at_314) rfl rfl k) ?_
                  show Go p.tables e below P (T_23.setTop (mkF m 315 #[.val (.int p1), .val (.int p2), .val (.int p3), .val (.int p4), .val (.int p5), .val (.int p6), .val (.int i3), .val (.int i9), .val (.int i15), .val (.int i21), .val (.double (9218868437227405312 : UInt64)), .second, .val (.double x0), .second, .val (.double x1), .second, .val (.double x2), .second, .val (.ref b_1), .val (.int i15), .val (.double x2), .second, .val (.double x0), .second] [(.int (cmpValue (FP.dcmp x2 x2) .l))]))
                  refine Go.step (fun t k => XS.ifNo X_23.here hx rfl (hb hby at_315) rfl (dcN (cd := .ne) (zcmp hx2 hx2) (fun q => q rfl)) k) ?_
                  show Go p.tables e below P (T_23.setTop (mkF m 318 #[.val (.int p1), .val (.int p2), .val (.int p3), .val (.int p4), .val (.int p5), .val (.int p6), .val (.int i3), .val (.int i9), .val (.int i15), .val (.int i21), .val (.double (9218868437227405312 : UInt64)), .second, .val (.double x0), .second, .val (.double x1), .second, .val (.double x2), .second, .val (.ref b_1), .val (.int i15), .val (.double x2), .second, .val (.double x0), .second] []))
                  refine Go.step (fun t k => XS.iconst X_23.here hx rfl (hb hby at_318) k) ?_
                  show Go p.tables e below P (T_23.setTop (mkF m 319 #[.val (.int p1), .val (.int p2), .val (.int p3), .val (.int p4), .val (.int p5), .val (.int p6), .val (.int i3), .val (.int i9), .val (.int i15), .val (.int i21), .val (.double (9218868437227405312 : UInt64)), .second, .val (.double x0), .second, .val (.double x1), .second, .val (.double x2), .second, .val (.ref b_1), .val (.int i15), .val (.double x2), .second, .val (.double x0), .second] [(.int (1 : Int32))]))
                  refine Go.step (fun t k => XS.goto X_23.here hx rfl (pc0 := 319) (pc' := 323) rfl (hb hby at_319) (by decide) (by decide) k) ?_
                  show Go p.tables e below P (T_23.setTop (mkF m 323 #[.val (.int p1), .val (.int p2), .val (.int p3), .val (.int p4), .val (.int p5), .val (.int p6), .val (.int i3), .val (.int i9), .val (.int i15), .val (.int i21), .val (.double (9218868437227405312 : UInt64)), .second, .val (.double x0), .second, .val (.double x1), .second, .val (.double x2), .second, .val (.ref b_1), .val (.int i15), .val (.double x2), .second, .val (.double x0), .second] [(.int (1 : Int32))]))
                  exact retGo X_23 hx hP Bd.returns hlk rfl (Or.inl ⟨rfl, Or.inr (Or.inl rfl), _, rfl⟩) (hb hby at_323) (by decide) (by decide) (by rw [eh_23]; exact ⟨rfl, N_23⟩)
              · refine Go.step (fun t k => XS.ifNo X_17.here hx rfl (hb hby at_219) rfl (dcN (cd := .ge) (zcmp hx1 hx0) hc219) k) ?_
                show Go p.tables e below P (T_17.setTop (mkF m 222 #[.val (.int p1), .val (.int p2), .val (.int p3), .val (.int p4), .val (.int p5), .val (.int p6), .val (.int i3), .val (.int i9), .val (.int i15), .val (.int i21), .val (.double (9218868437227405312 : UInt64)), .second, .val (.double x0), .second, .val (.double x1), .second, .val (.double x2), .second, .val (.ref b_1), .unset, .unset, .unset, .unset, .unset] []))
                have e2 : i9 = ix2 ∧ x1 = ds2 := by rcases of2 with ⟨_, h1, h2⟩ | ⟨h1, _⟩; exact ⟨h1.symm, h2.symm⟩; exact absurd (Or.inr (by omega)) h1
                obtain ⟨rfl, rfl⟩ := e2
                show Go p.tables e below P (T_17.setTop (mkF m 222 #[.val (.int p1), .val (.int p2), .val (.int p3), .val (.int p4), .val (.int p5), .val (.int p6), .val (.int i3), .val (.int i9), .val (.int i15), .val (.int i21), .val (.double (9218868437227405312 : UInt64)), .second, .val (.double x0), .second, .val (.double x1), .second, .val (.double x2), .second, .val (.ref b_1), .unset, .unset, .unset, .unset, .unset] []))
                refine Go.step (fun t k => XS.dload X_17.here hx rfl (hb hby at_222) rfl  k) ?_
                show Go p.tables e below P (T_17.setTop (mkF m 224 #[.val (.int p1), .val (.int p2), .val (.int p3), .val (.int p4), .val (.int p5), .val (.int p6), .val (.int i3), .val (.int i9), .val (.int i15), .val (.int i21), .val (.double (9218868437227405312 : UInt64)), .second, .val (.double x0), .second, .val (.double x1), .second, .val (.double x2), .second, .val (.ref b_1), .unset, .unset, .unset, .unset, .unset] [(.double x1)]))
                refine Go.step (fun t k => XS.goto X_17.here hx rfl (pc0 := 224) (pc' := 229) rfl (hb hby at_224) (by decide) (by decide) k) ?_
                show Go p.tables e below P (T_17.setTop (mkF m 229 #[.val (.int p1), .val (.int p2), .val (.int p3), .val (.int p4), .val (.int p5), .val (.int p6), .val (.int i3), .val (.int i9), .val (.int i15), .val (.int i21), .val (.double (9218868437227405312 : UInt64)), .second, .val (.double x0), .second, .val (.double x1), .second, .val (.double x2), .second, .val (.ref b_1), .unset, .unset, .unset, .unset, .unset] [(.double x1)]))
                refine Go.step (fun t k => XS.dstore X_17.here hx rfl (hb hby at_229) rfl (l' := #[.val (.int p1), .val (.int p2), .val (.int p3), .val (.int p4), .val (.int p5), .val (.int p6), .val (.int i3), .val (.int i9), .val (.int i15), .val (.int i21), .val (.double (9218868437227405312 : UInt64)), .second, .val (.double x0), .second, .val (.double x1), .second, .val (.double x2), .second, .val (.ref b_1), .unset, .unset, .unset, .val (.double x1), .second]) rfl k) ?_
                show Go p.tables e below P (T_17.setTop (mkF m 231 #[.val (.int p1), .val (.int p2), .val (.int p3), .val (.int p4), .val (.int p5), .val (.int p6), .val (.int i3), .val (.int i9), .val (.int i15), .val (.int i21), .val (.double (9218868437227405312 : UInt64)), .second, .val (.double x0), .second, .val (.double x1), .second, .val (.double x2), .second, .val (.ref b_1), .unset, .unset, .unset, .val (.double x1), .second] []))
                refine Go.step (fun t k => XS.dload X_17.here hx rfl (hb hby at_231) rfl  k) ?_
                show Go p.tables e below P (T_17.setTop (mkF m 233 #[.val (.int p1), .val (.int p2), .val (.int p3), .val (.int p4), .val (.int p5), .val (.int p6), .val (.int i3), .val (.int i9), .val (.int i15), .val (.int i21), .val (.double (9218868437227405312 : UInt64)), .second, .val (.double x0), .second, .val (.double x1), .second, .val (.double x2), .second, .val (.ref b_1), .unset, .unset, .unset, .val (.double x1), .second] [(.double x2)]))
                refine Go.step (fun t k => XS.dload X_17.here hx rfl (hb hby at_233) rfl  k) ?_
                show Go p.tables e below P (T_17.setTop (mkF m 235 #[.val (.int p1), .val (.int p2), .val (.int p3), .val (.int p4), .val (.int p5), .val (.int p6), .val (.int i3), .val (.int i9), .val (.int i15), .val (.int i21), .val (.double (9218868437227405312 : UInt64)), .second, .val (.double x0), .second, .val (.double x1), .second, .val (.double x2), .second, .val (.ref b_1), .unset, .unset, .unset, .val (.double x1), .second] [(.double x1), (.double x2)]))
                refine Go.step (fun t k => XS.dcmpS X_17.here hx rfl (hb hby at_235) rfl rfl k) ?_
                show Go p.tables e below P (T_17.setTop (mkF m 236 #[.val (.int p1), .val (.int p2), .val (.int p3), .val (.int p4), .val (.int p5), .val (.int p6), .val (.int i3), .val (.int i9), .val (.int i15), .val (.int i21), .val (.double (9218868437227405312 : UInt64)), .second, .val (.double x0), .second, .val (.double x1), .second, .val (.double x2), .second, .val (.ref b_1), .unset, .unset, .unset, .val (.double x1), .second] [(.int (cmpValue (FP.dcmp x2 x1) .g))]))
                by_cases hc236 : (zv x1) ≤ (zv x2)
                · refine Go.step (fun t k => XS.ifYes X_17.here hx rfl (pc0 := 236) (pc' := 244) rfl (hb hby at_236) rfl (dcY (cd := .ge) (zcmp hx2 hx1) hc236) (by decide) (by decide) k) ?_
                  show Go p.tables e below P (T_17.setTop (mkF m 244 #[.val (.int p1), .val (.int p2), .val (.int p3), .val (.int p4), .val (.int p5), .val (.int p6), .val (.int i3), .val (.int i9), .val (.int i15), .val (.int i21), .val (.double (9218868437227405312 : UInt64)), .second, .val (.double x0), .second, .val (.double x1), .second, .val (.double x2), .second, .val (.ref b_1), .unset, .unset, .unset, .val (.double x1), .second] []))
                  have e3 : i9 = ix3 ∧ x1 = ds3 := by rcases of3 with ⟨h1, _⟩ | ⟨_, h1, h2⟩; omega; exact ⟨h1.symm, h2.symm⟩
                  obtain ⟨rfl, rfl⟩ := e3
                  show Go p.tables e below P (T_17.setTop (mkF m 244 #[.val (.int p1), .val (.int p2), .val (.int p3), .val (.int p4), .val (.int p5), .val (.int p6), .val (.int i3), .val (.int i9), .val (.int i15), .val (.int i21), .val (.double (9218868437227405312 : UInt64)), .second, .val (.double x0), .second, .val (.double x1), .second, .val (.double x2), .second, .val (.ref b_1), .unset, .unset, .unset, .val (.double x1), .second] []))
                  refine Go.step (fun t k => XS.dload X_17.here hx rfl (hb hby at_244) rfl  k) ?_
                  show Go p.tables e below P (T_17.setTop (mkF m 246 #[.val (.int p1), .val (.int p2), .val (.int p3), .val (.int p4), .val (.int p5), .val (.int p6), .val (.int i3), .val (.int i9), .val (.int i15), .val (.int i21), .val (.double (9218868437227405312 : UInt64)), .second, .val (.double x0), .second, .val (.double x1), .second, .val (.double x2), .second, .val (.ref b_1), .unset, .unset, .unset, .val (.double x1), .second] [(.double x1)]))
                  refine Go.step (fun t k => XS.dstore X_17.here hx rfl (hb hby at_246) rfl (l' := #[.val (.int p1), .val (.int p2), .val (.int p3), .val (.int p4), .val (.int p5), .val (.int p6), .val (.int i3), .val (.int i9), .val (.int i15), .val (.int i21), .val (.double (9218868437227405312 : UInt64)), .second, .val (.double x0), .second, .val (.double x1), .second, .val (.double x2), .second, .val (.ref b_1), .unset, .val (.double x1), .second, .val (.double x1), .second]) rfl k) ?_
                  show Go p.tables e below P (T_17.setTop (mkF m 248 #[.val (.int p1), .val (.int p2), .val (.int p3), .val (.int p4), .val (.int p5), .val (.int p6), .val (.int i3), .val (.int i9), .val (.int i15), .val (.int i21), .val (.double (9218868437227405312 : UInt64)), .second, .val (.double x0), .second, .val (.double x1), .second, .val (.double x2), .second, .val (.ref b_1), .unset, .val (.double x1), .second, .val (.double x1), .second] []))
                  refine Go.step (fun t k => XS.dload X_17.here hx rfl (hb hby at_248) rfl  k) ?_
                  show Go p.tables e below P (T_17.setTop (mkF m 250 #[.val (.int p1), .val (.int p2), .val (.int p3), .val (.int p4), .val (.int p5), .val (.int p6), .val (.int i3), .val (.int i9), .val (.int i15), .val (.int i21), .val (.double (9218868437227405312 : UInt64)), .second, .val (.double x0), .second, .val (.double x1), .second, .val (.double x2), .second, .val (.ref b_1), .unset, .val (.double x1), .second, .val (.double x1), .second] [(.double x0)]))
                  refine Go.step (fun t k => XS.dload X_17.here hx rfl (hb hby at_250) rfl  k) ?_
                  show Go p.tables e below P (T_17.setTop (mkF m 252 #[.val (.int p1), .val (.int p2), .val (.int p3), .val (.int p4), .val (.int p5), .val (.int p6), .val (.int i3), .val (.int i9), .val (.int i15), .val (.int i21), .val (.double (9218868437227405312 : UInt64)), .second, .val (.double x0), .second, .val (.double x1), .second, .val (.double x2), .second, .val (.ref b_1), .unset, .val (.double x1), .second, .val (.double x1), .second] [(.double x1), (.double x0)]))
                  refine Go.step (fun t k => XS.dcmpS X_17.here hx rfl (hb hby at_252) rfl rfl k) ?_
                  show Go p.tables e below P (T_17.setTop (mkF m 253 #[.val (.int p1), .val (.int p2), .val (.int p3), .val (.int p4), .val (.int p5), .val (.int p6), .val (.int i3), .val (.int i9), .val (.int i15), .val (.int i21), .val (.double (9218868437227405312 : UInt64)), .second, .val (.double x0), .second, .val (.double x1), .second, .val (.double x2), .second, .val (.ref b_1), .unset, .val (.double x1), .second, .val (.double x1), .second] [(.int (cmpValue (FP.dcmp x0 x1) .l))]))
                  refine Go.step (fun t k => XS.ifYes X_17.here hx rfl (pc0 := 253) (pc' := 261) rfl (hb hby at_253) rfl (dcY (cd := .ne) (zcmp hx0 hx1) (by omega : ¬ (zv x0) = (zv x1))) (by decide) (by decide) k) ?_
                  show Go p.tables e below P (T_17.setTop (mkF m 261 #[.val (.int p1), .val (.int p2), .val (.int p3), .val (.int p4), .val (.int p5), .val (.int p6), .val (.int i3), .val (.int i9), .val (.int i15), .val (.int i21), .val (.double (9218868437227405312 : UInt64)), .second, .val (.double x0), .second, .val (.double x1), .second, .val (.double x2), .second, .val (.ref b_1), .unset, .val (.double x1), .second, .val (.double x1), .second] []))
                  refine Go.step (fun t k => XS.dload X_17.here hx rfl (hb hby at_261) rfl  k) ?_
                  show Go p.tables e below P (T_17.setTop (mkF m 263 #[.val (.int p1), .val (.int p2), .val (.int p3), .val (.int p4), .val (.int p5), .val (.int p6), .val (.int i3), .val (.int i9), .val (.int i15), .val (.int i21), .val (.double (9218868437227405312 : UInt64)), .second, .val (.double x0), .second, .val (.double x1), .second, .val (.double x2), .second, .val (.ref b_1), .unset, .val (.double x1), .second, .val (.double x1), .second] [(.double x1)]))
                  refine Go.step (fun t k => XS.dload X_17.here hx rfl (hb hby at_263) rfl  k) ?_
                  show Go p.tables e below P (T_17.setTop (mkF m 265 #[.val (.int p1), .val (.int p2), .val (.int p3), .val (.int p4), .val (.int p5), .val (.int p6), .val (.int i3), .val (.int i9), .val (.int i15), .val (.int i21), .val (.double (9218868437227405312 : UInt64)), .second, .val (.double x0), .second, .val (.double x1), .second, .val (.double x2), .second, .val (.ref b_1), .unset, .val (.double x1), .second, .val (.double x1), .second] [(.double x1), (.double x1)]))
                  refine Go.step (fun t k => XS.dcmpS X_17.here hx rfl (hb hby at_265) rfl rfl k) ?_
                  show Go p.tables e below P (T_17.setTop (mkF m 266 #[.val (.int p1), .val (.int p2), .val (.int p3), .val (.int p4), .val (.int p5), .val (.int p6), .val (.int i3), .val (.int i9), .val (.int i15), .val (.int i21), .val (.double (9218868437227405312 : UInt64)), .second, .val (.double x0), .second, .val (.double x1), .second, .val (.double x2), .second, .val (.ref b_1), .unset, .val (.double x1), .second, .val (.double x1), .second] [(.int (cmpValue (FP.dcmp x1 x1) .l))]))
                  refine Go.step (fun t k => XS.ifNo X_17.here hx rfl (hb hby at_266) rfl (dcN (cd := .ne) (zcmp hx1 hx1) (fun q => q rfl)) k) ?_
                  show Go p.tables e below P (T_17.setTop (mkF m 269 #[.val (.int p1), .val (.int p2), .val (.int p3), .val (.int p4), .val (.int p5), .val (.int p6), .val (.int i3), .val (.int i9), .val (.int i15), .val (.int i21), .val (.double (9218868437227405312 : UInt64)), .second, .val (.double x0), .second, .val (.double x1), .second, .val (.double x2), .second, .val (.ref b_1), .unset, .val (.double x1), .second, .val (.double x1), .second] []))
                  refine Go.step (fun t k => XS.iload X_17.here hx rfl (hb hby at_269) rfl  k) ?_
                  show Go p.tables e below P (T_17.setTop (mkF m 271 #[.val (.int p1), .val (.int p2), .val (.int p3), .val (.int p4), .val (.int p5), .val (.int p6), .val (.int i3), .val (.int i9), .val (.int i15), .val (.int i21), .val (.double (9218868437227405312 : UInt64)), .second, .val (.double x0), .second, .val (.double x1), .second, .val (.double x2), .second, .val (.ref b_1), .unset, .val (.double x1), .second, .val (.double x1), .second] [(.int i9)]))
                  refine Go.step (fun t k => XS.goto X_17.here hx rfl (pc0 := 271) (pc' := 276) rfl (hb hby at_271) (by decide) (by decide) k) ?_
                  show Go p.tables e below P (T_17.setTop (mkF m 276 #[.val (.int p1), .val (.int p2), .val (.int p3), .val (.int p4), .val (.int p5), .val (.int p6), .val (.int i3), .val (.int i9), .val (.int i15), .val (.int i21), .val (.double (9218868437227405312 : UInt64)), .second, .val (.double x0), .second, .val (.double x1), .second, .val (.double x2), .second, .val (.ref b_1), .unset, .val (.double x1), .second, .val (.double x1), .second] [(.int i9)]))
                  refine Go.step (fun t k => XS.istore X_17.here hx rfl (hb hby at_276) rfl (l' := #[.val (.int p1), .val (.int p2), .val (.int p3), .val (.int p4), .val (.int p5), .val (.int p6), .val (.int i3), .val (.int i9), .val (.int i15), .val (.int i21), .val (.double (9218868437227405312 : UInt64)), .second, .val (.double x0), .second, .val (.double x1), .second, .val (.double x2), .second, .val (.ref b_1), .val (.int i9), .val (.double x1), .second, .val (.double x1), .second]) rfl k) ?_
                  show Go p.tables e below P (T_17.setTop (mkF m 278 #[.val (.int p1), .val (.int p2), .val (.int p3), .val (.int p4), .val (.int p5), .val (.int p6), .val (.int i3), .val (.int i9), .val (.int i15), .val (.int i21), .val (.double (9218868437227405312 : UInt64)), .second, .val (.double x0), .second, .val (.double x1), .second, .val (.double x2), .second, .val (.ref b_1), .val (.int i9), .val (.double x1), .second, .val (.double x1), .second] []))
                  refine Go.step (fun t k => XS.aload X_17.here hx rfl (hb hby at_278) rfl rfl k) ?_
                  show Go p.tables e below P (T_17.setTop (mkF m 280 #[.val (.int p1), .val (.int p2), .val (.int p3), .val (.int p4), .val (.int p5), .val (.int p6), .val (.int i3), .val (.int i9), .val (.int i15), .val (.int i21), .val (.double (9218868437227405312 : UInt64)), .second, .val (.double x0), .second, .val (.double x1), .second, .val (.double x2), .second, .val (.ref b_1), .val (.int i9), .val (.double x1), .second, .val (.double x1), .second] [(.ref b_1)]))
                  obtain ⟨cq_24, kq_24, q_24a, q_24b, q_24c⟩ := isOf hZ rfl ((((A_1.keep Kc_2).keep Kc_6).keep Kc_10).keep Kc_17)
                  obtain ⟨_, _, ⟨T_24, L_24, k_24, n_24⟩, -, X_24, ⟨Lc_24, hQ_24, l_24, y_24, z_24⟩, st_24⟩ := X_17.virtualBack hx (y := (⟨"com/example/fieldroster/fieldroster/policy/Nearest", "found", "()Z"⟩ : MethodName)) (z := (⟨"com/example/fieldroster/fieldroster/policy/Nearest", "found", "()Z"⟩ : MethodName)) hown (mvT hZ (hw _ (List.mem_of_getElem? (i := 16) rfl))) (mvT hZ (hw _ (List.mem_of_getElem? (i := 17) rfl))) (notFace_of_selects (args := #[]) (mvT hZ (hw _ (List.mem_of_getElem? (i := 19) rfl)))) (mvT hZ (hw _ (List.mem_of_getElem? (i := 19) rfl))) (mvT hZ (hw _ (List.mem_of_getElem? (i := 18) rfl))) (by decide) (backOf (W := 0) (rm3 l Z a0 hw [] b_1 i9 T_17.heap n0 Z_17 Fi_17) hZ (hw _ (List.mem_of_getElem? (i := 20) rfl)) (hw _ (List.mem_of_getElem? (i := 4) rfl)) (by decide) (by decide)) q_24a q_24c (g := (mkF m 280 #[.val (.int p1), .val (.int p2), .val (.int p3), .val (.int p4), .val (.int p5), .val (.int p6), .val (.int i3), .val (.int i9), .val (.int i15), .val (.int i21), .val (.double (9218868437227405312 : UInt64)), .second, .val (.double x0), .second, .val (.double x1), .second, .val (.double x2), .second, .val (.ref b_1), .val (.int i9), .val (.double x1), .second, .val (.double x1), .second] [(.ref b_1)])) rfl (by rw [hml]; rfl) (Steps.refl _) (argsL := []) (rest := []) (lenOf pd_1 rfl) rfl (by show 2 * 0 + _ ≤ _; exact Nat.le_of_eq rfl) (hb hby at_280) (fun _ _ => ⟨rfl, rfl, (by decide : 1 + 0 ≤ _), (by decide : 2 + 0 ≤ _)⟩)
                  dsimp only [Pt.U, Pt.locs, Pt.cells, Pt.slots] at X_24 l_24 y_24 z_24 st_24 hQ_24
                  subst l_24 y_24 z_24
                  obtain ⟨fr, rfl, hfr, N_24q, eh_24⟩ := hQ_24
                  have N_24 := Fr.app N_17 N_24q
                  refine Go.tr st_24 ?_
                  show Go p.tables e below P (T_24.setTop (mkF m 283 #[.val (.int p1), .val (.int p2), .val (.int p3), .val (.int p4), .val (.int p5), .val (.int p6), .val (.int i3), .val (.int i9), .val (.int i15), .val (.int i21), .val (.double (9218868437227405312 : UInt64)), .second, .val (.double x0), .second, .val (.double x1), .second, .val (.double x2), .second, .val (.ref b_1), .val (.int i9), .val (.double x1), .second, .val (.double x1), .second] [(.int fr)]))
                  refine Go.step (fun t k => XS.iload X_24.here hx rfl (hb hby at_283) rfl  k) ?_
                  show Go p.tables e below P (T_24.setTop (mkF m 285 #[.val (.int p1), .val (.int p2), .val (.int p3), .val (.int p4), .val (.int p5), .val (.int p6), .val (.int i3), .val (.int i9), .val (.int i15), .val (.int i21), .val (.double (9218868437227405312 : UInt64)), .second, .val (.double x0), .second, .val (.double x1), .second, .val (.double x2), .second, .val (.ref b_1), .val (.int i9), .val (.double x1), .second, .val (.double x1), .second] [(.int i21), (.int fr)]))
                  refine Go.step (fun t k => XS.iconst X_24.here hx rfl (hb hby at_285) k) ?_
                  show Go p.tables e below P (T_24.setTop (mkF m 286 #[.val (.int p1), .val (.int p2), .val (.int p3), .val (.int p4), .val (.int p5), .val (.int p6), .val (.int i3), .val (.int i9), .val (.int i15), .val (.int i21), .val (.double (9218868437227405312 : UInt64)), .second, .val (.double x0), .second, .val (.double x1), .second, .val (.double x2), .second, .val (.ref b_1), .val (.int i9), .val (.double x1), .second, .val (.double x1), .second] [(.int (1 : Int32)), (.int i21), (.int fr)]))
                  refine Go.step (fun t k => XS.icmpNo X_24.here hx rfl (hb hby at_286) rfl (icN (cd := .lt) (by omega : ¬ (i21.toInt < (1 : Int)))) k) ?_
                  show Go p.tables e below P (T_24.setTop (mkF m 289 #[.val (.int p1), .val (.int p2), .val (.int p3), .val (.int p4), .val (.int p5), .val (.int p6), .val (.int i3), .val (.int i9), .val (.int i15), .val (.int i21), .val (.double (9218868437227405312 : UInt64)), .second, .val (.double x0), .second, .val (.double x1), .second, .val (.double x2), .second, .val (.ref b_1), .val (.int i9), .val (.double x1), .second, .val (.double x1), .second] [(.int fr)]))
                  refine Go.step (fun t k => XS.iconst X_24.here hx rfl (hb hby at_289) k) ?_
                  show Go p.tables e below P (T_24.setTop (mkF m 290 #[.val (.int p1), .val (.int p2), .val (.int p3), .val (.int p4), .val (.int p5), .val (.int p6), .val (.int i3), .val (.int i9), .val (.int i15), .val (.int i21), .val (.double (9218868437227405312 : UInt64)), .second, .val (.double x0), .second, .val (.double x1), .second, .val (.double x2), .second, .val (.ref b_1), .val (.int i9), .val (.double x1), .second, .val (.double x1), .second] [(.int (1 : Int32)), (.int fr)]))
                  refine Go.step (fun t k => XS.goto X_24.here hx rfl (pc0 := 290) (pc' := 294) rfl (hb hby at_290) (by decide) (by decide) k) ?_
                  show Go p.tables e below P (T_24.setTop (mkF m 294 #[.val (.int p1), .val (.int p2), .val (.int p3), .val (.int p4), .val (.int p5), .val (.int p6), .val (.int i3), .val (.int i9), .val (.int i15), .val (.int i21), .val (.double (9218868437227405312 : UInt64)), .second, .val (.double x0), .second, .val (.double x1), .second, .val (.double x2), .second, .val (.ref b_1), .val (.int i9), .val (.double x1), .second, .val (.double x1), .second] [(.int (1 : Int32)), (.int fr)]))
                  refine Go.step (fun t k => XS.icmpNo X_24.here hx rfl (hb hby at_294) rfl (icN (cd := .ne) (by omega : ¬ (¬ fr.toInt = (1 : Int)))) k) ?_
                  show Go p.tables e below P (T_24.setTop (mkF m 297 #[.val (.int p1), .val (.int p2), .val (.int p3), .val (.int p4), .val (.int p5), .val (.int p6), .val (.int i3), .val (.int i9), .val (.int i15), .val (.int i21), .val (.double (9218868437227405312 : UInt64)), .second, .val (.double x0), .second, .val (.double x1), .second, .val (.double x2), .second, .val (.ref b_1), .val (.int i9), .val (.double x1), .second, .val (.double x1), .second] []))
                  refine Go.step (fun t k => XS.aload X_24.here hx rfl (hb hby at_297) rfl rfl k) ?_
                  show Go p.tables e below P (T_24.setTop (mkF m 299 #[.val (.int p1), .val (.int p2), .val (.int p3), .val (.int p4), .val (.int p5), .val (.int p6), .val (.int i3), .val (.int i9), .val (.int i15), .val (.int i21), .val (.double (9218868437227405312 : UInt64)), .second, .val (.double x0), .second, .val (.double x1), .second, .val (.double x2), .second, .val (.ref b_1), .val (.int i9), .val (.double x1), .second, .val (.double x1), .second] [(.ref b_1)]))
                  obtain ⟨cq_25, kq_25, q_25a, q_25b, q_25c⟩ := isOf hZ eh_24 ((((A_1.keep Kc_2).keep Kc_6).keep Kc_10).keep Kc_17)
                  obtain ⟨_, _, ⟨T_25, L_25, k_25, n_25⟩, -, X_25, ⟨Lc_25, hQ_25, l_25, y_25, z_25⟩, st_25⟩ := X_24.virtualBack hx (y := (⟨"com/example/fieldroster/fieldroster/policy/Nearest", "index", "()I"⟩ : MethodName)) (z := (⟨"com/example/fieldroster/fieldroster/policy/Nearest", "index", "()I"⟩ : MethodName)) hown (mvT hZ (hw _ (List.mem_of_getElem? (i := 21) rfl))) (mvT hZ (hw _ (List.mem_of_getElem? (i := 22) rfl))) (notFace_of_selects (args := #[]) (mvT hZ (hw _ (List.mem_of_getElem? (i := 24) rfl)))) (mvT hZ (hw _ (List.mem_of_getElem? (i := 24) rfl))) (mvT hZ (hw _ (List.mem_of_getElem? (i := 23) rfl))) (by decide) (backOf (W := 0) (rm4 l Z a0 hw [] b_1 i9 T_17.heap n0 Z_17 Fi_17) hZ (hw _ (List.mem_of_getElem? (i := 25) rfl)) (hw _ (List.mem_of_getElem? (i := 4) rfl)) (by decide) (by decide)) q_25a q_25c (g := (mkF m 299 #[.val (.int p1), .val (.int p2), .val (.int p3), .val (.int p4), .val (.int p5), .val (.int p6), .val (.int i3), .val (.int i9), .val (.int i15), .val (.int i21), .val (.double (9218868437227405312 : UInt64)), .second, .val (.double x0), .second, .val (.double x1), .second, .val (.double x2), .second, .val (.ref b_1), .val (.int i9), .val (.double x1), .second, .val (.double x1), .second] [(.ref b_1)])) rfl (by rw [hml]; rfl) (Steps.refl _) (argsL := []) (rest := []) (lenOf pd_2 rfl) rfl (by show 2 * 0 + _ ≤ _; exact Nat.le_of_eq rfl) (hb hby at_299) (fun _ _ => ⟨rfl, eh_24, (by decide : 1 + 0 ≤ _), (by decide : 2 + 0 ≤ _)⟩)
                  dsimp only [Pt.U, Pt.locs, Pt.cells, Pt.slots] at X_25 l_25 y_25 z_25 st_25 hQ_25
                  subst l_25 y_25 z_25
                  obtain ⟨rfl, N_25q, eh_25⟩ := hQ_25
                  have N_25 := Fr.app N_24 N_25q
                  refine Go.tr st_25 ?_
                  show Go p.tables e below P (T_25.setTop (mkF m 302 #[.val (.int p1), .val (.int p2), .val (.int p3), .val (.int p4), .val (.int p5), .val (.int p6), .val (.int i3), .val (.int i9), .val (.int i15), .val (.int i21), .val (.double (9218868437227405312 : UInt64)), .second, .val (.double x0), .second, .val (.double x1), .second, .val (.double x2), .second, .val (.ref b_1), .val (.int i9), .val (.double x1), .second, .val (.double x1), .second] [(.int i9)]))
                  refine Go.step (fun t k => XS.iload X_25.here hx rfl (hb hby at_302) rfl  k) ?_
                  show Go p.tables e below P (T_25.setTop (mkF m 304 #[.val (.int p1), .val (.int p2), .val (.int p3), .val (.int p4), .val (.int p5), .val (.int p6), .val (.int i3), .val (.int i9), .val (.int i15), .val (.int i21), .val (.double (9218868437227405312 : UInt64)), .second, .val (.double x0), .second, .val (.double x1), .second, .val (.double x2), .second, .val (.ref b_1), .val (.int i9), .val (.double x1), .second, .val (.double x1), .second] [(.int i9), (.int i9)]))
                  refine Go.step (fun t k => XS.icmpNo X_25.here hx rfl (hb hby at_304) rfl (icN (cd := .ne) (fun q => q rfl)) k) ?_
                  show Go p.tables e below P (T_25.setTop (mkF m 307 #[.val (.int p1), .val (.int p2), .val (.int p3), .val (.int p4), .val (.int p5), .val (.int p6), .val (.int i3), .val (.int i9), .val (.int i15), .val (.int i21), .val (.double (9218868437227405312 : UInt64)), .second, .val (.double x0), .second, .val (.double x1), .second, .val (.double x2), .second, .val (.ref b_1), .val (.int i9), .val (.double x1), .second, .val (.double x1), .second] []))
                  refine Go.step (fun t k => XS.aload X_25.here hx rfl (hb hby at_307) rfl rfl k) ?_
                  show Go p.tables e below P (T_25.setTop (mkF m 309 #[.val (.int p1), .val (.int p2), .val (.int p3), .val (.int p4), .val (.int p5), .val (.int p6), .val (.int i3), .val (.int i9), .val (.int i15), .val (.int i21), .val (.double (9218868437227405312 : UInt64)), .second, .val (.double x0), .second, .val (.double x1), .second, .val (.double x2), .second, .val (.ref b_1), .val (.int i9), .val (.double x1), .second, .val (.double x1), .second] [(.ref b_1)]))
                  obtain ⟨cq_26, kq_26, q_26a, q_26b, q_26c⟩ := isOf hZ eh_25 ((((A_1.keep Kc_2).keep Kc_6).keep Kc_10).keep Kc_17)
                  obtain ⟨_, _, ⟨T_26, L_26, k_26, n_26⟩, -, X_26, ⟨Lc_26, hQ_26, l_26, y_26, z_26⟩, st_26⟩ := X_25.virtualBack hx (y := (⟨"com/example/fieldroster/fieldroster/policy/Nearest", "distance", "()D"⟩ : MethodName)) (z := (⟨"com/example/fieldroster/fieldroster/policy/Nearest", "distance", "()D"⟩ : MethodName)) hown (mvT hZ (hw _ (List.mem_of_getElem? (i := 26) rfl))) (mvT hZ (hw _ (List.mem_of_getElem? (i := 27) rfl))) (notFace_of_selects (args := #[]) (mvT hZ (hw _ (List.mem_of_getElem? (i := 29) rfl)))) (mvT hZ (hw _ (List.mem_of_getElem? (i := 29) rfl))) (mvT hZ (hw _ (List.mem_of_getElem? (i := 28) rfl))) (by decide) (backOf (W := 0) (rm5 l Z a0 hw [] b_1 x1 T_17.heap n0 Z_17 Fd_17) hZ (hw _ (List.mem_of_getElem? (i := 30) rfl)) (hw _ (List.mem_of_getElem? (i := 4) rfl)) (by decide) (by decide)) q_26a q_26c (g := (mkF m 309 #[.val (.int p1), .val (.int p2), .val (.int p3), .val (.int p4), .val (.int p5), .val (.int p6), .val (.int i3), .val (.int i9), .val (.int i15), .val (.int i21), .val (.double (9218868437227405312 : UInt64)), .second, .val (.double x0), .second, .val (.double x1), .second, .val (.double x2), .second, .val (.ref b_1), .val (.int i9), .val (.double x1), .second, .val (.double x1), .second] [(.ref b_1)])) rfl (by rw [hml]; rfl) (Steps.refl _) (argsL := []) (rest := []) (lenOf pd_3 rfl) rfl (by show 2 * 0 + _ ≤ _; exact Nat.le_of_eq rfl) (hb hby at_309) (fun _ _ => ⟨rfl, eh_25, (by decide : 1 + 0 ≤ _), (by decide : 2 + 0 ≤ _)⟩)
                  dsimp only [Pt.U, Pt.locs, Pt.cells, Pt.slots] at X_26 l_26 y_26 z_26 st_26 hQ_26
                  subst l_26 y_26 z_26
                  obtain ⟨rfl, N_26q, eh_26⟩ := hQ_26
                  have N_26 := Fr.app N_25 N_26q
                  refine Go.tr st_26 ?_
                  show Go p.tables e below P (T_26.setTop (mkF m 312 #[.val (.int p1), .val (.int p2), .val (.int p3), .val (.int p4), .val (.int p5), .val (.int p6), .val (.int i3), .val (.int i9), .val (.int i15), .val (.int i21), .val (.double (9218868437227405312 : UInt64)), .second, .val (.double x0), .second, .val (.double x1), .second, .val (.double x2), .second, .val (.ref b_1), .val (.int i9), .val (.double x1), .second, .val (.double x1), .second] [(.double x1)]))
                  refine Go.step (fun t k => XS.dload X_26.here hx rfl (hb hby at_312) rfl  k) ?_
                  show Go p.tables e below P (T_26.setTop (mkF m 314 #[.val (.int p1), .val (.int p2), .val (.int p3), .val (.int p4), .val (.int p5), .val (.int p6), .val (.int i3), .val (.int i9), .val (.int i15), .val (.int i21), .val (.double (9218868437227405312 : UInt64)), .second, .val (.double x0), .second, .val (.double x1), .second, .val (.double x2), .second, .val (.ref b_1), .val (.int i9), .val (.double x1), .second, .val (.double x1), .second] [(.double x1), (.double x1)]))
                  refine Go.step (fun t k => XS.dcmpS X_26.here hx rfl (hb hby at_314) rfl rfl k) ?_
                  show Go p.tables e below P (T_26.setTop (mkF m 315 #[.val (.int p1), .val (.int p2), .val (.int p3), .val (.int p4), .val (.int p5), .val (.int p6), .val (.int i3), .val (.int i9), .val (.int i15), .val (.int i21), .val (.double (9218868437227405312 : UInt64)), .second, .val (.double x0), .second, .val (.double x1), .second, .val (.double x2), .second, .val (.ref b_1), .val (.int i9), .val (.double x1), .second, .val (.double x1), .second] [(.int (cmpValue (FP.dcmp x1 x1) .l))]))
                  refine Go.step (fun t k => XS.ifNo X_26.here hx rfl (hb hby at_315) rfl (dcN (cd := .ne) (zcmp hx1 hx1) (fun q => q rfl)) k) ?_
                  show Go p.tables e below P (T_26.setTop (mkF m 318 #[.val (.int p1), .val (.int p2), .val (.int p3), .val (.int p4), .val (.int p5), .val (.int p6), .val (.int i3), .val (.int i9), .val (.int i15), .val (.int i21), .val (.double (9218868437227405312 : UInt64)), .second, .val (.double x0), .second, .val (.double x1), .second, .val (.double x2), .second, .val (.ref b_1), .val (.int i9), .val (.double x1), .second, .val (.double x1), .second] []))
                  refine Go.step (fun t k => XS.iconst X_26.here hx rfl (hb hby at_318) k) ?_
                  show Go p.tables e below P (T_26.setTop (mkF m 319 #[.val (.int p1), .val (.int p2), .val (.int p3), .val (.int p4), .val (.int p5), .val (.int p6), .val (.int i3), .val (.int i9), .val (.int i15), .val (.int i21), .val (.double (9218868437227405312 : UInt64)), .second, .val (.double x0), .second, .val (.double x1), .second, .val (.double x2), .second, .val (.ref b_1), .val (.int i9), .val (.double x1), .second, .val (.double x1), .second] [(.int (1 : Int32))]))
                  refine Go.step (fun t k => XS.goto X_26.here hx rfl (pc0 := 319) (pc' := 323) rfl (hb hby at_319) (by decide) (by decide) k) ?_
                  show Go p.tables e below P (T_26.setTop (mkF m 323 #[.val (.int p1), .val (.int p2), .val (.int p3), .val (.int p4), .val (.int p5), .val (.int p6), .val (.int i3), .val (.int i9), .val (.int i15), .val (.int i21), .val (.double (9218868437227405312 : UInt64)), .second, .val (.double x0), .second, .val (.double x1), .second, .val (.double x2), .second, .val (.ref b_1), .val (.int i9), .val (.double x1), .second, .val (.double x1), .second] [(.int (1 : Int32))]))
                  exact retGo X_26 hx hP Bd.returns hlk rfl (Or.inl ⟨rfl, Or.inr (Or.inl rfl), _, rfl⟩) (hb hby at_323) (by decide) (by decide) (by rw [eh_26]; exact ⟨rfl, N_26⟩)
                · refine Go.step (fun t k => XS.ifNo X_17.here hx rfl (hb hby at_236) rfl (dcN (cd := .ge) (zcmp hx2 hx1) hc236) k) ?_
                  show Go p.tables e below P (T_17.setTop (mkF m 239 #[.val (.int p1), .val (.int p2), .val (.int p3), .val (.int p4), .val (.int p5), .val (.int p6), .val (.int i3), .val (.int i9), .val (.int i15), .val (.int i21), .val (.double (9218868437227405312 : UInt64)), .second, .val (.double x0), .second, .val (.double x1), .second, .val (.double x2), .second, .val (.ref b_1), .unset, .unset, .unset, .val (.double x1), .second] []))
                  have e3 : i15 = ix3 ∧ x2 = ds3 := by rcases of3 with ⟨_, h1, h2⟩ | ⟨h1, _⟩; exact ⟨h1.symm, h2.symm⟩; exact absurd (Or.inr (by omega)) h1
                  obtain ⟨rfl, rfl⟩ := e3
                  show Go p.tables e below P (T_17.setTop (mkF m 239 #[.val (.int p1), .val (.int p2), .val (.int p3), .val (.int p4), .val (.int p5), .val (.int p6), .val (.int i3), .val (.int i9), .val (.int i15), .val (.int i21), .val (.double (9218868437227405312 : UInt64)), .second, .val (.double x0), .second, .val (.double x1), .second, .val (.double x2), .second, .val (.ref b_1), .unset, .unset, .unset, .val (.double x1), .second] []))
                  refine Go.step (fun t k => XS.dload X_17.here hx rfl (hb hby at_239) rfl  k) ?_
                  show Go p.tables e below P (T_17.setTop (mkF m 241 #[.val (.int p1), .val (.int p2), .val (.int p3), .val (.int p4), .val (.int p5), .val (.int p6), .val (.int i3), .val (.int i9), .val (.int i15), .val (.int i21), .val (.double (9218868437227405312 : UInt64)), .second, .val (.double x0), .second, .val (.double x1), .second, .val (.double x2), .second, .val (.ref b_1), .unset, .unset, .unset, .val (.double x1), .second] [(.double x2)]))
                  refine Go.step (fun t k => XS.goto X_17.here hx rfl (pc0 := 241) (pc' := 246) rfl (hb hby at_241) (by decide) (by decide) k) ?_
                  show Go p.tables e below P (T_17.setTop (mkF m 246 #[.val (.int p1), .val (.int p2), .val (.int p3), .val (.int p4), .val (.int p5), .val (.int p6), .val (.int i3), .val (.int i9), .val (.int i15), .val (.int i21), .val (.double (9218868437227405312 : UInt64)), .second, .val (.double x0), .second, .val (.double x1), .second, .val (.double x2), .second, .val (.ref b_1), .unset, .unset, .unset, .val (.double x1), .second] [(.double x2)]))
                  refine Go.step (fun t k => XS.dstore X_17.here hx rfl (hb hby at_246) rfl (l' := #[.val (.int p1), .val (.int p2), .val (.int p3), .val (.int p4), .val (.int p5), .val (.int p6), .val (.int i3), .val (.int i9), .val (.int i15), .val (.int i21), .val (.double (9218868437227405312 : UInt64)), .second, .val (.double x0), .second, .val (.double x1), .second, .val (.double x2), .second, .val (.ref b_1), .unset, .val (.double x2), .second, .val (.double x1), .second]) rfl k) ?_
                  show Go p.tables e below P (T_17.setTop (mkF m 248 #[.val (.int p1), .val (.int p2), .val (.int p3), .val (.int p4), .val (.int p5), .val (.int p6), .val (.int i3), .val (.int i9), .val (.int i15), .val (.int i21), .val (.double (9218868437227405312 : UInt64)), .second, .val (.double x0), .second, .val (.double x1), .second, .val (.double x2), .second, .val (.ref b_1), .unset, .val (.double x2), .second, .val (.double x1), .second] []))
                  refine Go.step (fun t k => XS.dload X_17.here hx rfl (hb hby at_248) rfl  k) ?_
                  show Go p.tables e below P (T_17.setTop (mkF m 250 #[.val (.int p1), .val (.int p2), .val (.int p3), .val (.int p4), .val (.int p5), .val (.int p6), .val (.int i3), .val (.int i9), .val (.int i15), .val (.int i21), .val (.double (9218868437227405312 : UInt64)), .second, .val (.double x0), .second, .val (.double x1), .second, .val (.double x2), .second, .val (.ref b_1), .unset, .val (.double x2), .second, .val (.double x1), .second] [(.double x0)]))
                  refine Go.step (fun t k => XS.dload X_17.here hx rfl (hb hby at_250) rfl  k) ?_
                  show Go p.tables e below P (T_17.setTop (mkF m 252 #[.val (.int p1), .val (.int p2), .val (.int p3), .val (.int p4), .val (.int p5), .val (.int p6), .val (.int i3), .val (.int i9), .val (.int i15), .val (.int i21), .val (.double (9218868437227405312 : UInt64)), .second, .val (.double x0), .second, .val (.double x1), .second, .val (.double x2), .second, .val (.ref b_1), .unset, .val (.double x2), .second, .val (.double x1), .second] [(.double x2), (.double x0)]))
                  refine Go.step (fun t k => XS.dcmpS X_17.here hx rfl (hb hby at_252) rfl rfl k) ?_
                  show Go p.tables e below P (T_17.setTop (mkF m 253 #[.val (.int p1), .val (.int p2), .val (.int p3), .val (.int p4), .val (.int p5), .val (.int p6), .val (.int i3), .val (.int i9), .val (.int i15), .val (.int i21), .val (.double (9218868437227405312 : UInt64)), .second, .val (.double x0), .second, .val (.double x1), .second, .val (.double x2), .second, .val (.ref b_1), .unset, .val (.double x2), .second, .val (.double x1), .second] [(.int (cmpValue (FP.dcmp x0 x2) .l))]))
                  refine Go.step (fun t k => XS.ifYes X_17.here hx rfl (pc0 := 253) (pc' := 261) rfl (hb hby at_253) rfl (dcY (cd := .ne) (zcmp hx0 hx2) (by omega : ¬ (zv x0) = (zv x2))) (by decide) (by decide) k) ?_
                  show Go p.tables e below P (T_17.setTop (mkF m 261 #[.val (.int p1), .val (.int p2), .val (.int p3), .val (.int p4), .val (.int p5), .val (.int p6), .val (.int i3), .val (.int i9), .val (.int i15), .val (.int i21), .val (.double (9218868437227405312 : UInt64)), .second, .val (.double x0), .second, .val (.double x1), .second, .val (.double x2), .second, .val (.ref b_1), .unset, .val (.double x2), .second, .val (.double x1), .second] []))
                  refine Go.step (fun t k => XS.dload X_17.here hx rfl (hb hby at_261) rfl  k) ?_
                  show Go p.tables e below P (T_17.setTop (mkF m 263 #[.val (.int p1), .val (.int p2), .val (.int p3), .val (.int p4), .val (.int p5), .val (.int p6), .val (.int i3), .val (.int i9), .val (.int i15), .val (.int i21), .val (.double (9218868437227405312 : UInt64)), .second, .val (.double x0), .second, .val (.double x1), .second, .val (.double x2), .second, .val (.ref b_1), .unset, .val (.double x2), .second, .val (.double x1), .second] [(.double x1)]))
                  refine Go.step (fun t k => XS.dload X_17.here hx rfl (hb hby at_263) rfl  k) ?_
                  show Go p.tables e below P (T_17.setTop (mkF m 265 #[.val (.int p1), .val (.int p2), .val (.int p3), .val (.int p4), .val (.int p5), .val (.int p6), .val (.int i3), .val (.int i9), .val (.int i15), .val (.int i21), .val (.double (9218868437227405312 : UInt64)), .second, .val (.double x0), .second, .val (.double x1), .second, .val (.double x2), .second, .val (.ref b_1), .unset, .val (.double x2), .second, .val (.double x1), .second] [(.double x2), (.double x1)]))
                  refine Go.step (fun t k => XS.dcmpS X_17.here hx rfl (hb hby at_265) rfl rfl k) ?_
                  show Go p.tables e below P (T_17.setTop (mkF m 266 #[.val (.int p1), .val (.int p2), .val (.int p3), .val (.int p4), .val (.int p5), .val (.int p6), .val (.int i3), .val (.int i9), .val (.int i15), .val (.int i21), .val (.double (9218868437227405312 : UInt64)), .second, .val (.double x0), .second, .val (.double x1), .second, .val (.double x2), .second, .val (.ref b_1), .unset, .val (.double x2), .second, .val (.double x1), .second] [(.int (cmpValue (FP.dcmp x1 x2) .l))]))
                  refine Go.step (fun t k => XS.ifYes X_17.here hx rfl (pc0 := 266) (pc' := 274) rfl (hb hby at_266) rfl (dcY (cd := .ne) (zcmp hx1 hx2) (by omega : ¬ (zv x1) = (zv x2))) (by decide) (by decide) k) ?_
                  show Go p.tables e below P (T_17.setTop (mkF m 274 #[.val (.int p1), .val (.int p2), .val (.int p3), .val (.int p4), .val (.int p5), .val (.int p6), .val (.int i3), .val (.int i9), .val (.int i15), .val (.int i21), .val (.double (9218868437227405312 : UInt64)), .second, .val (.double x0), .second, .val (.double x1), .second, .val (.double x2), .second, .val (.ref b_1), .unset, .val (.double x2), .second, .val (.double x1), .second] []))
                  refine Go.step (fun t k => XS.iload X_17.here hx rfl (hb hby at_274) rfl  k) ?_
                  show Go p.tables e below P (T_17.setTop (mkF m 276 #[.val (.int p1), .val (.int p2), .val (.int p3), .val (.int p4), .val (.int p5), .val (.int p6), .val (.int i3), .val (.int i9), .val (.int i15), .val (.int i21), .val (.double (9218868437227405312 : UInt64)), .second, .val (.double x0), .second, .val (.double x1), .second, .val (.double x2), .second, .val (.ref b_1), .unset, .val (.double x2), .second, .val (.double x1), .second] [(.int i15)]))
                  refine Go.step (fun t k => XS.istore X_17.here hx rfl (hb hby at_276) rfl (l' := #[.val (.int p1), .val (.int p2), .val (.int p3), .val (.int p4), .val (.int p5), .val (.int p6), .val (.int i3), .val (.int i9), .val (.int i15), .val (.int i21), .val (.double (9218868437227405312 : UInt64)), .second, .val (.double x0), .second, .val (.double x1), .second, .val (.double x2), .second, .val (.ref b_1), .val (.int i15), .val (.double x2), .second, .val (.double x1), .second]) rfl k) ?_
                  show Go p.tables e below P (T_17.setTop (mkF m 278 #[.val (.int p1), .val (.int p2), .val (.int p3), .val (.int p4), .val (.int p5), .val (.int p6), .val (.int i3), .val (.int i9), .val (.int i15), .val (.int i21), .val (.double (9218868437227405312 : UInt64)), .second, .val (.double x0), .second, .val (.double x1), .second, .val (.double x2), .second, .val (.ref b_1), .val (.int i15), .val (.double x2), .second, .val (.double x1), .second] []))
                  refine Go.step (fun t k => XS.aload X_17.here hx rfl (hb hby at_278) rfl rfl k) ?_
                  show Go p.tables e below P (T_17.setTop (mkF m 280 #[.val (.int p1), .val (.int p2), .val (.int p3), .val (.int p4), .val (.int p5), .val (.int p6), .val (.int i3), .val (.int i9), .val (.int i15), .val (.int i21), .val (.double (9218868437227405312 : UInt64)), .second, .val (.double x0), .second, .val (.double x1), .second, .val (.double x2), .second, .val (.ref b_1), .val (.int i15), .val (.double x2), .second, .val (.double x1), .second] [(.ref b_1)]))
                  obtain ⟨cq_27, kq_27, q_27a, q_27b, q_27c⟩ := isOf hZ rfl ((((A_1.keep Kc_2).keep Kc_6).keep Kc_10).keep Kc_17)
                  obtain ⟨_, _, ⟨T_27, L_27, k_27, n_27⟩, -, X_27, ⟨Lc_27, hQ_27, l_27, y_27, z_27⟩, st_27⟩ := X_17.virtualBack hx (y := (⟨"com/example/fieldroster/fieldroster/policy/Nearest", "found", "()Z"⟩ : MethodName)) (z := (⟨"com/example/fieldroster/fieldroster/policy/Nearest", "found", "()Z"⟩ : MethodName)) hown (mvT hZ (hw _ (List.mem_of_getElem? (i := 16) rfl))) (mvT hZ (hw _ (List.mem_of_getElem? (i := 17) rfl))) (notFace_of_selects (args := #[]) (mvT hZ (hw _ (List.mem_of_getElem? (i := 19) rfl)))) (mvT hZ (hw _ (List.mem_of_getElem? (i := 19) rfl))) (mvT hZ (hw _ (List.mem_of_getElem? (i := 18) rfl))) (by decide) (backOf (W := 0) (rm3 l Z a0 hw [] b_1 i15 T_17.heap n0 Z_17 Fi_17) hZ (hw _ (List.mem_of_getElem? (i := 20) rfl)) (hw _ (List.mem_of_getElem? (i := 4) rfl)) (by decide) (by decide)) q_27a q_27c (g := (mkF m 280 #[.val (.int p1), .val (.int p2), .val (.int p3), .val (.int p4), .val (.int p5), .val (.int p6), .val (.int i3), .val (.int i9), .val (.int i15), .val (.int i21), .val (.double (9218868437227405312 : UInt64)), .second, .val (.double x0), .second, .val (.double x1), .second, .val (.double x2), .second, .val (.ref b_1), .val (.int i15), .val (.double x2), .second, .val (.double x1), .second] [(.ref b_1)])) rfl (by rw [hml]; rfl) (Steps.refl _) (argsL := []) (rest := []) (lenOf pd_1 rfl) rfl (by show 2 * 0 + _ ≤ _; exact Nat.le_of_eq rfl) (hb hby at_280) (fun _ _ => ⟨rfl, rfl, (by decide : 1 + 0 ≤ _), (by decide : 2 + 0 ≤ _)⟩)
                  dsimp only [Pt.U, Pt.locs, Pt.cells, Pt.slots] at X_27 l_27 y_27 z_27 st_27 hQ_27
                  subst l_27 y_27 z_27
                  obtain ⟨fr, rfl, hfr, N_27q, eh_27⟩ := hQ_27
                  have N_27 := Fr.app N_17 N_27q
                  refine Go.tr st_27 ?_
                  show Go p.tables e below P (T_27.setTop (mkF m 283 #[.val (.int p1), .val (.int p2), .val (.int p3), .val (.int p4), .val (.int p5), .val (.int p6), .val (.int i3), .val (.int i9), .val (.int i15), .val (.int i21), .val (.double (9218868437227405312 : UInt64)), .second, .val (.double x0), .second, .val (.double x1), .second, .val (.double x2), .second, .val (.ref b_1), .val (.int i15), .val (.double x2), .second, .val (.double x1), .second] [(.int fr)]))
                  refine Go.step (fun t k => XS.iload X_27.here hx rfl (hb hby at_283) rfl  k) ?_
                  show Go p.tables e below P (T_27.setTop (mkF m 285 #[.val (.int p1), .val (.int p2), .val (.int p3), .val (.int p4), .val (.int p5), .val (.int p6), .val (.int i3), .val (.int i9), .val (.int i15), .val (.int i21), .val (.double (9218868437227405312 : UInt64)), .second, .val (.double x0), .second, .val (.double x1), .second, .val (.double x2), .second, .val (.ref b_1), .val (.int i15), .val (.double x2), .second, .val (.double x1), .second] [(.int i21), (.int fr)]))
                  refine Go.step (fun t k => XS.iconst X_27.here hx rfl (hb hby at_285) k) ?_
                  show Go p.tables e below P (T_27.setTop (mkF m 286 #[.val (.int p1), .val (.int p2), .val (.int p3), .val (.int p4), .val (.int p5), .val (.int p6), .val (.int i3), .val (.int i9), .val (.int i15), .val (.int i21), .val (.double (9218868437227405312 : UInt64)), .second, .val (.double x0), .second, .val (.double x1), .second, .val (.double x2), .second, .val (.ref b_1), .val (.int i15), .val (.double x2), .second, .val (.double x1), .second] [(.int (1 : Int32)), (.int i21), (.int fr)]))
                  refine Go.step (fun t k => XS.icmpNo X_27.here hx rfl (hb hby at_286) rfl (icN (cd := .lt) (by omega : ¬ (i21.toInt < (1 : Int)))) k) ?_
                  show Go p.tables e below P (T_27.setTop (mkF m 289 #[.val (.int p1), .val (.int p2), .val (.int p3), .val (.int p4), .val (.int p5), .val (.int p6), .val (.int i3), .val (.int i9), .val (.int i15), .val (.int i21), .val (.double (9218868437227405312 : UInt64)), .second, .val (.double x0), .second, .val (.double x1), .second, .val (.double x2), .second, .val (.ref b_1), .val (.int i15), .val (.double x2), .second, .val (.double x1), .second] [(.int fr)]))
                  refine Go.step (fun t k => XS.iconst X_27.here hx rfl (hb hby at_289) k) ?_
                  show Go p.tables e below P (T_27.setTop (mkF m 290 #[.val (.int p1), .val (.int p2), .val (.int p3), .val (.int p4), .val (.int p5), .val (.int p6), .val (.int i3), .val (.int i9), .val (.int i15), .val (.int i21), .val (.double (9218868437227405312 : UInt64)), .second, .val (.double x0), .second, .val (.double x1), .second, .val (.double x2), .second, .val (.ref b_1), .val (.int i15), .val (.double x2), .second, .val (.double x1), .second] [(.int (1 : Int32)), (.int fr)]))
                  refine Go.step (fun t k => XS.goto X_27.here hx rfl (pc0 := 290) (pc' := 294) rfl (hb hby at_290) (by decide) (by decide) k) ?_
                  show Go p.tables e below P (T_27.setTop (mkF m 294 #[.val (.int p1), .val (.int p2), .val (.int p3), .val (.int p4), .val (.int p5), .val (.int p6), .val (.int i3), .val (.int i9), .val (.int i15), .val (.int i21), .val (.double (9218868437227405312 : UInt64)), .second, .val (.double x0), .second, .val (.double x1), .second, .val (.double x2), .second, .val (.ref b_1), .val (.int i15), .val (.double x2), .second, .val (.double x1), .second] [(.int (1 : Int32)), (.int fr)]))
                  refine Go.step (fun t k => XS.icmpNo X_27.here hx rfl (hb hby at_294) rfl (icN (cd := .ne) (by omega : ¬ (¬ fr.toInt = (1 : Int)))) k) ?_
                  show Go p.tables e below P (T_27.setTop (mkF m 297 #[.val (.int p1), .val (.int p2), .val (.int p3), .val (.int p4), .val (.int p5), .val (.int p6), .val (.int i3), .val (.int i9), .val (.int i15), .val (.int i21), .val (.double (9218868437227405312 : UInt64)), .second, .val (.double x0), .second, .val (.double x1), .second, .val (.double x2), .second, .val (.ref b_1), .val (.int i15), .val (.double x2), .second, .val (.double x1), .second] []))
                  refine Go.step (fun t k => XS.aload X_27.here hx rfl (hb hby at_297) rfl rfl k) ?_
                  show Go p.tables e below P (T_27.setTop (mkF m 299 #[.val (.int p1), .val (.int p2), .val (.int p3), .val (.int p4), .val (.int p5), .val (.int p6), .val (.int i3), .val (.int i9), .val (.int i15), .val (.int i21), .val (.double (9218868437227405312 : UInt64)), .second, .val (.double x0), .second, .val (.double x1), .second, .val (.double x2), .second, .val (.ref b_1), .val (.int i15), .val (.double x2), .second, .val (.double x1), .second] [(.ref b_1)]))
                  obtain ⟨cq_28, kq_28, q_28a, q_28b, q_28c⟩ := isOf hZ eh_27 ((((A_1.keep Kc_2).keep Kc_6).keep Kc_10).keep Kc_17)
                  obtain ⟨_, _, ⟨T_28, L_28, k_28, n_28⟩, -, X_28, ⟨Lc_28, hQ_28, l_28, y_28, z_28⟩, st_28⟩ := X_27.virtualBack hx (y := (⟨"com/example/fieldroster/fieldroster/policy/Nearest", "index", "()I"⟩ : MethodName)) (z := (⟨"com/example/fieldroster/fieldroster/policy/Nearest", "index", "()I"⟩ : MethodName)) hown (mvT hZ (hw _ (List.mem_of_getElem? (i := 21) rfl))) (mvT hZ (hw _ (List.mem_of_getElem? (i := 22) rfl))) (notFace_of_selects (args := #[]) (mvT hZ (hw _ (List.mem_of_getElem? (i := 24) rfl)))) (mvT hZ (hw _ (List.mem_of_getElem? (i := 24) rfl))) (mvT hZ (hw _ (List.mem_of_getElem? (i := 23) rfl))) (by decide) (backOf (W := 0) (rm4 l Z a0 hw [] b_1 i15 T_17.heap n0 Z_17 Fi_17) hZ (hw _ (List.mem_of_getElem? (i := 25) rfl)) (hw _ (List.mem_of_getElem? (i := 4) rfl)) (by decide) (by decide)) q_28a q_28c (g := (mkF m 299 #[.val (.int p1), .val (.int p2), .val (.int p3), .val (.int p4), .val (.int p5), .val (.int p6), .val (.int i3), .val (.int i9), .val (.int i15), .val (.int i21), .val (.double (9218868437227405312 : UInt64)), .second, .val (.double x0), .second, .val (.double x1), .second, .val (.double x2), .second, .val (.ref b_1), .val (.int i15), .val (.double x2), .second, .val (.double x1), .second] [(.ref b_1)])) rfl (by rw [hml]; rfl) (Steps.refl _) (argsL := []) (rest := []) (lenOf pd_2 rfl) rfl (by show 2 * 0 + _ ≤ _; exact Nat.le_of_eq rfl) (hb hby at_299) (fun _ _ => ⟨rfl, eh_27, (by decide : 1 + 0 ≤ _), (by decide : 2 + 0 ≤ _)⟩)
                  dsimp only [Pt.U, Pt.locs, Pt.cells, Pt.slots] at X_28 l_28 y_28 z_28 st_28 hQ_28
                  subst l_28 y_28 z_28
                  obtain ⟨rfl, N_28q, eh_28⟩ := hQ_28
                  have N_28 := Fr.app N_27 N_28q
                  refine Go.tr st_28 ?_
                  show Go p.tables e below P (T_28.setTop (mkF m 302 #[.val (.int p1), .val (.int p2), .val (.int p3), .val (.int p4), .val (.int p5), .val (.int p6), .val (.int i3), .val (.int i9), .val (.int i15), .val (.int i21), .val (.double (9218868437227405312 : UInt64)), .second, .val (.double x0), .second, .val (.double x1), .second, .val (.double x2), .second, .val (.ref b_1), .val (.int i15), .val (.double x2), .second, .val (.double x1), .second] [(.int i15)]))
                  refine Go.step (fun t k => XS.iload X_28.here hx rfl (hb hby at_302) rfl  k) ?_
                  show Go p.tables e below P (T_28.setTop (mkF m 304 #[.val (.int p1), .val (.int p2), .val (.int p3), .val (.int p4), .val (.int p5), .val (.int p6), .val (.int i3), .val (.int i9), .val (.int i15), .val (.int i21), .val (.double (9218868437227405312 : UInt64)), .second, .val (.double x0), .second, .val (.double x1), .second, .val (.double x2), .second, .val (.ref b_1), .val (.int i15), .val (.double x2), .second, .val (.double x1), .second] [(.int i15), (.int i15)]))
                  refine Go.step (fun t k => XS.icmpNo X_28.here hx rfl (hb hby at_304) rfl (icN (cd := .ne) (fun q => q rfl)) k) ?_
                  show Go p.tables e below P (T_28.setTop (mkF m 307 #[.val (.int p1), .val (.int p2), .val (.int p3), .val (.int p4), .val (.int p5), .val (.int p6), .val (.int i3), .val (.int i9), .val (.int i15), .val (.int i21), .val (.double (9218868437227405312 : UInt64)), .second, .val (.double x0), .second, .val (.double x1), .second, .val (.double x2), .second, .val (.ref b_1), .val (.int i15), .val (.double x2), .second, .val (.double x1), .second] []))
                  refine Go.step (fun t k => XS.aload X_28.here hx rfl (hb hby at_307) rfl rfl k) ?_
                  show Go p.tables e below P (T_28.setTop (mkF m 309 #[.val (.int p1), .val (.int p2), .val (.int p3), .val (.int p4), .val (.int p5), .val (.int p6), .val (.int i3), .val (.int i9), .val (.int i15), .val (.int i21), .val (.double (9218868437227405312 : UInt64)), .second, .val (.double x0), .second, .val (.double x1), .second, .val (.double x2), .second, .val (.ref b_1), .val (.int i15), .val (.double x2), .second, .val (.double x1), .second] [(.ref b_1)]))
                  obtain ⟨cq_29, kq_29, q_29a, q_29b, q_29c⟩ := isOf hZ eh_28 ((((A_1.keep Kc_2).keep Kc_6).keep Kc_10).keep Kc_17)
                  obtain ⟨_, _, ⟨T_29, L_29, k_29, n_29⟩, -, X_29, ⟨Lc_29, hQ_29, l_29, y_29, z_29⟩, st_29⟩ := X_28.virtualBack hx (y := (⟨"com/example/fieldroster/fieldroster/policy/Nearest", "distance", "()D"⟩ : MethodName)) (z := (⟨"com/example/fieldroster/fieldroster/policy/Nearest", "distance", "()D"⟩ : MethodName)) hown (mvT hZ (hw _ (List.mem_of_getElem? (i := 26) rfl))) (mvT hZ (hw _ (List.mem_of_getElem? (i := 27) rfl))) (notFace_of_selects (args := #[]) (mvT hZ (hw _ (List.mem_of_getElem? (i := 29) rfl)))) (mvT hZ (hw _ (List.mem_of_getElem? (i := 29) rfl))) (mvT hZ (hw _ (List.mem_of_getElem? (i := 28) rfl))) (by decide) (backOf (W := 0) (rm5 l Z a0 hw [] b_1 x2 T_17.heap n0 Z_17 Fd_17) hZ (hw _ (List.mem_of_getElem? (i := 30) rfl)) (hw _ (List.mem_of_getElem? (i := 4) rfl)) (by decide) (by decide)) q_29a q_29c (g := (mkF m 309 #[.val (.int p1), .val (.int p2), .val (.int p3), .val (.int p4), .val (.int p5), .val (.int p6), .val (.int i3), .val (.int i9), .val (.int i15), .val (.int i21), .val (.double (9218868437227405312 : UInt64)), .second, .val (.double x0), .second, .val (.double x1), .second, .val (.double x2), .second, .val (.ref b_1), .val (.int i15), .val (.double x2), .second, .val (.double x1), .second] [(.ref b_1)])) rfl (by rw [hml]; rfl) (Steps.refl _) (argsL := []) (rest := []) (lenOf pd_3 rfl) rfl (by show 2 * 0 + _ ≤ _; exact Nat.le_of_eq rfl) (hb hby at_309) (fun _ _ => ⟨rfl, eh_28, (by decide : 1 + 0 ≤ _), (by decide : 2 + 0 ≤ _)⟩)
                  dsimp only [Pt.U, Pt.locs, Pt.cells, Pt.slots] at X_29 l_29 y_29 z_29 st_29 hQ_29
                  subst l_29 y_29 z_29
                  obtain ⟨rfl, N_29q, eh_29⟩ := hQ_29
                  have N_29 := Fr.app N_28 N_29q
                  refine Go.tr st_29 ?_
                  show Go p.tables e below P (T_29.setTop (mkF m 312 #[.val (.int p1), .val (.int p2), .val (.int p3), .val (.int p4), .val (.int p5), .val (.int p6), .val (.int i3), .val (.int i9), .val (.int i15), .val (.int i21), .val (.double (9218868437227405312 : UInt64)), .second, .val (.double x0), .second, .val (.double x1), .second, .val (.double x2), .second, .val (.ref b_1), .val (.int i15), .val (.double x2), .second, .val (.double x1), .second] [(.double x2)]))
                  refine Go.step (fun t k => XS.dload X_29.here hx rfl (hb hby at_312) rfl  k) ?_
                  show Go p.tables e below P (T_29.setTop (mkF m 314 #[.val (.int p1), .val (.int p2), .val (.int p3), .val (.int p4), .val (.int p5), .val (.int p6), .val (.int i3), .val (.int i9), .val (.int i15), .val (.int i21), .val (.double (9218868437227405312 : UInt64)), .second, .val (.double x0), .second, .val (.double x1), .second, .val (.double x2), .second, .val (.ref b_1), .val (.int i15), .val (.double x2), .second, .val (.double x1), .second] [(.double x2), (.double x2)]))
                  refine Go.step (fun t k => XS.dcmpS X_29.here hx rfl (hb hby at_314) rfl rfl k) ?_
                  show Go p.tables e below P (T_29.setTop (mkF m 315 #[.val (.int p1), .val (.int p2), .val (.int p3), .val (.int p4), .val (.int p5), .val (.int p6), .val (.int i3), .val (.int i9), .val (.int i15), .val (.int i21), .val (.double (9218868437227405312 : UInt64)), .second, .val (.double x0), .second, .val (.double x1), .second, .val (.double x2), .second, .val (.ref b_1), .val (.int i15), .val (.double x2), .second, .val (.double x1), .second] [(.int (cmpValue (FP.dcmp x2 x2) .l))]))
                  refine Go.step (fun t k => XS.ifNo X_29.here hx rfl (hb hby at_315) rfl (dcN (cd := .ne) (zcmp hx2 hx2) (fun q => q rfl)) k) ?_
                  show Go p.tables e below P (T_29.setTop (mkF m 318 #[.val (.int p1), .val (.int p2), .val (.int p3), .val (.int p4), .val (.int p5), .val (.int p6), .val (.int i3), .val (.int i9), .val (.int i15), .val (.int i21), .val (.double (9218868437227405312 : UInt64)), .second, .val (.double x0), .second, .val (.double x1), .second, .val (.double x2), .second, .val (.ref b_1), .val (.int i15), .val (.double x2), .second, .val (.double x1), .second] []))
                  refine Go.step (fun t k => XS.iconst X_29.here hx rfl (hb hby at_318) k) ?_
                  show Go p.tables e below P (T_29.setTop (mkF m 319 #[.val (.int p1), .val (.int p2), .val (.int p3), .val (.int p4), .val (.int p5), .val (.int p6), .val (.int i3), .val (.int i9), .val (.int i15), .val (.int i21), .val (.double (9218868437227405312 : UInt64)), .second, .val (.double x0), .second, .val (.double x1), .second, .val (.double x2), .second, .val (.ref b_1), .val (.int i15), .val (.double x2), .second, .val (.double x1), .second] [(.int (1 : Int32))]))
                  refine Go.step (fun t k => XS.goto X_29.here hx rfl (pc0 := 319) (pc' := 323) rfl (hb hby at_319) (by decide) (by decide) k) ?_
                  show Go p.tables e below P (T_29.setTop (mkF m 323 #[.val (.int p1), .val (.int p2), .val (.int p3), .val (.int p4), .val (.int p5), .val (.int p6), .val (.int i3), .val (.int i9), .val (.int i15), .val (.int i21), .val (.double (9218868437227405312 : UInt64)), .second, .val (.double x0), .second, .val (.double x1), .second, .val (.double x2), .second, .val (.ref b_1), .val (.int i15), .val (.double x2), .second, .val (.double x1), .second] [(.int (1 : Int32))]))
                  exact retGo X_29 hx hP Bd.returns hlk rfl (Or.inl ⟨rfl, Or.inr (Or.inl rfl), _, rfl⟩) (hb hby at_323) (by decide) (by decide) (by rw [eh_29]; exact ⟨rfl, N_29⟩)
      by_cases hc72 : i71.toInt = 0
      · refine Go.step (fun t k => XS.ifYes X0.here hx rfl (pc0 := 72) (pc' := 80) rfl (hb hby at_72) rfl (ifY (cd := .eq) hc72) (by decide) (by decide) k) ?_
        show Go p.tables e below P (s₁.setTop (mkF m 80 #[.val (.int p1), .val (.int p2), .val (.int p3), .val (.int p4), .val (.int p5), .val (.int p6), .val (.int i3), .val (.int i9), .val (.int i15), .val (.int i21), .val (.double (9218868437227405312 : UInt64)), .second, .val (.double x0), .second, .val (.double x1), .second, .unset, .unset, .unset, .unset, .unset, .unset, .unset, .unset] []))
        refine Go.step (fun t k => XS.iload X0.here hx rfl (hb hby at_80) rfl  k) ?_
        show Go p.tables e below P (s₁.setTop (mkF m 82 #[.val (.int p1), .val (.int p2), .val (.int p3), .val (.int p4), .val (.int p5), .val (.int p6), .val (.int i3), .val (.int i9), .val (.int i15), .val (.int i21), .val (.double (9218868437227405312 : UInt64)), .second, .val (.double x0), .second, .val (.double x1), .second, .unset, .unset, .unset, .unset, .unset, .unset, .unset, .unset] [(.int p6)]))
        obtain ⟨d82, hd82⟩ : ∃ z : UInt64, FP.i2d p6 = z := ⟨_, rfl⟩
        refine Go.step (fun t k => XS.i2dS X0.here hx rfl (hb hby at_82) rfl hd82 k) ?_
        show Go p.tables e below P (s₁.setTop (mkF m 83 #[.val (.int p1), .val (.int p2), .val (.int p3), .val (.int p4), .val (.int p5), .val (.int p6), .val (.int i3), .val (.int i9), .val (.int i15), .val (.int i21), .val (.double (9218868437227405312 : UInt64)), .second, .val (.double x0), .second, .val (.double x1), .second, .unset, .unset, .unset, .unset, .unset, .unset, .unset, .unset] [(.double d82)]))
        exact J83 _ (by rw [← hd82]; exact (i2d_e p6).ne)
      · refine Go.step (fun t k => XS.ifNo X0.here hx rfl (hb hby at_72) rfl (ifN (cd := .eq) hc72) k) ?_
        show Go p.tables e below P (s₁.setTop (mkF m 75 #[.val (.int p1), .val (.int p2), .val (.int p3), .val (.int p4), .val (.int p5), .val (.int p6), .val (.int i3), .val (.int i9), .val (.int i15), .val (.int i21), .val (.double (9218868437227405312 : UInt64)), .second, .val (.double x0), .second, .val (.double x1), .second, .unset, .unset, .unset, .unset, .unset, .unset, .unset, .unset] []))
        refine Go.step (fun t k => XS.dload X0.here hx rfl (hb hby at_75) rfl  k) ?_
        show Go p.tables e below P (s₁.setTop (mkF m 77 #[.val (.int p1), .val (.int p2), .val (.int p3), .val (.int p4), .val (.int p5), .val (.int p6), .val (.int i3), .val (.int i9), .val (.int i15), .val (.int i21), .val (.double (9218868437227405312 : UInt64)), .second, .val (.double x0), .second, .val (.double x1), .second, .unset, .unset, .unset, .unset, .unset, .unset, .unset, .unset] [(.double (9218868437227405312 : UInt64))]))
        refine Go.step (fun t k => XS.goto X0.here hx rfl (pc0 := 77) (pc' := 83) rfl (hb hby at_77) (by decide) (by decide) k) ?_
        show Go p.tables e below P (s₁.setTop (mkF m 83 #[.val (.int p1), .val (.int p2), .val (.int p3), .val (.int p4), .val (.int p5), .val (.int p6), .val (.int i3), .val (.int i9), .val (.int i15), .val (.int i21), .val (.double (9218868437227405312 : UInt64)), .second, .val (.double x0), .second, .val (.double x1), .second, .unset, .unset, .unset, .unset, .unset, .unset, .unset, .unset] [(.double (9218868437227405312 : UInt64))]))
        exact J83 _ inf_nn
    by_cases hc53 : i52.toInt = 0
    · refine Go.step (fun t k => XS.ifYes X0.here hx rfl (pc0 := 53) (pc' := 61) rfl (hb hby at_53) rfl (ifY (cd := .eq) hc53) (by decide) (by decide) k) ?_
      show Go p.tables e below P (s₁.setTop (mkF m 61 #[.val (.int p1), .val (.int p2), .val (.int p3), .val (.int p4), .val (.int p5), .val (.int p6), .val (.int i3), .val (.int i9), .val (.int i15), .val (.int i21), .val (.double (9218868437227405312 : UInt64)), .second, .val (.double x0), .second, .unset, .unset, .unset, .unset, .unset, .unset, .unset, .unset, .unset, .unset] []))
      refine Go.step (fun t k => XS.iload X0.here hx rfl (hb hby at_61) rfl  k) ?_
      show Go p.tables e below P (s₁.setTop (mkF m 63 #[.val (.int p1), .val (.int p2), .val (.int p3), .val (.int p4), .val (.int p5), .val (.int p6), .val (.int i3), .val (.int i9), .val (.int i15), .val (.int i21), .val (.double (9218868437227405312 : UInt64)), .second, .val (.double x0), .second, .unset, .unset, .unset, .unset, .unset, .unset, .unset, .unset, .unset, .unset] [(.int p5)]))
      obtain ⟨d63, hd63⟩ : ∃ z : UInt64, FP.i2d p5 = z := ⟨_, rfl⟩
      refine Go.step (fun t k => XS.i2dS X0.here hx rfl (hb hby at_63) rfl hd63 k) ?_
      show Go p.tables e below P (s₁.setTop (mkF m 64 #[.val (.int p1), .val (.int p2), .val (.int p3), .val (.int p4), .val (.int p5), .val (.int p6), .val (.int i3), .val (.int i9), .val (.int i15), .val (.int i21), .val (.double (9218868437227405312 : UInt64)), .second, .val (.double x0), .second, .unset, .unset, .unset, .unset, .unset, .unset, .unset, .unset, .unset, .unset] [(.double d63)]))
      exact J64 _ (by rw [← hd63]; exact (i2d_e p5).ne)
    · refine Go.step (fun t k => XS.ifNo X0.here hx rfl (hb hby at_53) rfl (ifN (cd := .eq) hc53) k) ?_
      show Go p.tables e below P (s₁.setTop (mkF m 56 #[.val (.int p1), .val (.int p2), .val (.int p3), .val (.int p4), .val (.int p5), .val (.int p6), .val (.int i3), .val (.int i9), .val (.int i15), .val (.int i21), .val (.double (9218868437227405312 : UInt64)), .second, .val (.double x0), .second, .unset, .unset, .unset, .unset, .unset, .unset, .unset, .unset, .unset, .unset] []))
      refine Go.step (fun t k => XS.dload X0.here hx rfl (hb hby at_56) rfl  k) ?_
      show Go p.tables e below P (s₁.setTop (mkF m 58 #[.val (.int p1), .val (.int p2), .val (.int p3), .val (.int p4), .val (.int p5), .val (.int p6), .val (.int i3), .val (.int i9), .val (.int i15), .val (.int i21), .val (.double (9218868437227405312 : UInt64)), .second, .val (.double x0), .second, .unset, .unset, .unset, .unset, .unset, .unset, .unset, .unset, .unset, .unset] [(.double (9218868437227405312 : UInt64))]))
      refine Go.step (fun t k => XS.goto X0.here hx rfl (pc0 := 58) (pc' := 64) rfl (hb hby at_58) (by decide) (by decide) k) ?_
      show Go p.tables e below P (s₁.setTop (mkF m 64 #[.val (.int p1), .val (.int p2), .val (.int p3), .val (.int p4), .val (.int p5), .val (.int p6), .val (.int i3), .val (.int i9), .val (.int i15), .val (.int i21), .val (.double (9218868437227405312 : UInt64)), .second, .val (.double x0), .second, .unset, .unset, .unset, .unset, .unset, .unset, .unset, .unset, .unset, .unset] [(.double (9218868437227405312 : UInt64))]))
      exact J64 _ inf_nn
  by_cases hc35 : i34.toInt = 0
  · refine Go.step (fun t k => XS.ifYes X0.here hx rfl (pc0 := 35) (pc' := 43) rfl (hb hby at_35) rfl (ifY (cd := .eq) hc35) (by decide) (by decide) k) ?_
    show Go p.tables e below P (s₁.setTop (mkF m 43 #[.val (.int p1), .val (.int p2), .val (.int p3), .val (.int p4), .val (.int p5), .val (.int p6), .val (.int i3), .val (.int i9), .val (.int i15), .val (.int i21), .val (.double (9218868437227405312 : UInt64)), .second, .unset, .unset, .unset, .unset, .unset, .unset, .unset, .unset, .unset, .unset, .unset, .unset] []))
    refine Go.step (fun t k => XS.iloadN X0.here hx rfl (hb hby at_43) rfl  k) ?_
    show Go p.tables e below P (s₁.setTop (mkF m 44 #[.val (.int p1), .val (.int p2), .val (.int p3), .val (.int p4), .val (.int p5), .val (.int p6), .val (.int i3), .val (.int i9), .val (.int i15), .val (.int i21), .val (.double (9218868437227405312 : UInt64)), .second, .unset, .unset, .unset, .unset, .unset, .unset, .unset, .unset, .unset, .unset, .unset, .unset] [(.int p4)]))
    obtain ⟨d44, hd44⟩ : ∃ z : UInt64, FP.i2d p4 = z := ⟨_, rfl⟩
    refine Go.step (fun t k => XS.i2dS X0.here hx rfl (hb hby at_44) rfl hd44 k) ?_
    show Go p.tables e below P (s₁.setTop (mkF m 45 #[.val (.int p1), .val (.int p2), .val (.int p3), .val (.int p4), .val (.int p5), .val (.int p6), .val (.int i3), .val (.int i9), .val (.int i15), .val (.int i21), .val (.double (9218868437227405312 : UInt64)), .second, .unset, .unset, .unset, .unset, .unset, .unset, .unset, .unset, .unset, .unset, .unset, .unset] [(.double d44)]))
    exact J45 _ (by rw [← hd44]; exact (i2d_e p4).ne)
  · refine Go.step (fun t k => XS.ifNo X0.here hx rfl (hb hby at_35) rfl (ifN (cd := .eq) hc35) k) ?_
    show Go p.tables e below P (s₁.setTop (mkF m 38 #[.val (.int p1), .val (.int p2), .val (.int p3), .val (.int p4), .val (.int p5), .val (.int p6), .val (.int i3), .val (.int i9), .val (.int i15), .val (.int i21), .val (.double (9218868437227405312 : UInt64)), .second, .unset, .unset, .unset, .unset, .unset, .unset, .unset, .unset, .unset, .unset, .unset, .unset] []))
    refine Go.step (fun t k => XS.dload X0.here hx rfl (hb hby at_38) rfl  k) ?_
    show Go p.tables e below P (s₁.setTop (mkF m 40 #[.val (.int p1), .val (.int p2), .val (.int p3), .val (.int p4), .val (.int p5), .val (.int p6), .val (.int i3), .val (.int i9), .val (.int i15), .val (.int i21), .val (.double (9218868437227405312 : UInt64)), .second, .unset, .unset, .unset, .unset, .unset, .unset, .unset, .unset, .unset, .unset, .unset, .unset] [(.double (9218868437227405312 : UInt64))]))
    refine Go.step (fun t k => XS.goto X0.here hx rfl (pc0 := 40) (pc' := 45) rfl (hb hby at_40) (by decide) (by decide) k) ?_
    show Go p.tables e below P (s₁.setTop (mkF m 45 #[.val (.int p1), .val (.int p2), .val (.int p3), .val (.int p4), .val (.int p5), .val (.int p6), .val (.int i3), .val (.int i9), .val (.int i15), .val (.int i21), .val (.double (9218868437227405312 : UInt64)), .second, .unset, .unset, .unset, .unset, .unset, .unset, .unset, .unset, .unset, .unset, .unset, .unset] [(.double (9218868437227405312 : UInt64))]))
    exact J45 _ inf_nn
set_option maxRecDepth 65536 in
set_option maxHeartbeats 40000000 in
theorem comes_1 {Post : Tables → Env → Array Value → State → Outcome → State → Prop} (hpost : ∀ tb e args s v u, (limb_1_1.after args s (.returned v) u = true ∧ limb_1_2.after args s (.returned v) u = true ∧ True) → FrameEnd s (.returned v) u (Jvm.fieldLocs frame_1_writes args s ++ Jvm.arrayLocs frame_1_arrays args s ++ Jvm.staticLocs frame_1_statics s) 16 128 → Post tb e args s (.returned v) u) :
    ArmFor flags0 classFile x code maxLocals ret World_1 tables_1 room_1 Calls_1 rest_1 Pre_1 Post := by
  intro l hfl _ _ p e ha hc hk s m args below hf hA hF happ hP
  obtain ⟨hcalls, hrest, hpre⟩ := hP
  obtain ⟨-, -, -, hnamed, -, -, -, hat⟩ := (Spec.applies_iff hf).mp happ
  obtain ⟨hg, hn⟩ := and_e (Cond.before_iff.mp (show (Jvm.Cond.and given_1 narrow_1).before args s = true from hpre))
  obtain ⟨gc, hg0⟩ := and_e hg
  obtain ⟨ga0, hg1⟩ := and_e hg0
  obtain ⟨ga1, hg2⟩ := and_e hg1
  obtain ⟨ga2, hg3⟩ := and_e hg2
  obtain ⟨ga3, hg4⟩ := and_e hg3
  obtain ⟨ga4, hg5⟩ := and_e hg4
  have ga5 := hg5
  obtain ⟨w0, w1, w2, w3, w4, w5, rfl⟩ : ∃ w0 w1 w2 w3 w4 w5 : Value, args = #[w0, w1, w2, w3, w4, w5] := by
    have hs : args.size = 6 := by simpa [Cond.value, given_1] using gc
    obtain ⟨L⟩ := args
    match L, hs with
    | [w0, w1, w2, w3, w4, w5], _ => exact ⟨w0, w1, w2, w3, w4, w5, rfl⟩
  have hw := fun d (hd : d ∈ tables_1) => atoms_spec (ws := Jvm.Cond.code x code maxLocals ret :: tables_1) hat d (List.mem_cons_of_mem _ hd)
  obtain ⟨i0, ei0⟩ := is_v ga0
  obtain rfl : w0 = (.int i0) := Option.some.inj ei0
  obtain ⟨i1, ei1⟩ := is_v ga1
  obtain rfl : w1 = (.int i1) := Option.some.inj ei1
  obtain ⟨i2, ei2⟩ := is_v ga2
  obtain rfl : w2 = (.int i2) := Option.some.inj ei2
  obtain ⟨i3, ei3⟩ := is_v ga3
  obtain rfl : w3 = (.int i3) := Option.some.inj ei3
  obtain ⟨i4, ei4⟩ := is_v ga4
  obtain rfl : w4 = (.int i4) := Option.some.inj ei4
  obtain ⟨i5, ei5⟩ := is_v ga5
  obtain rfl : w5 = (.int i5) := Option.some.inj ei5
  obtain ⟨n, o, h1, h2, h3, _, L, rfl, ⟨rfl, N⟩, hq⟩ := rm0 l s _ hw tables_1 i0 i1 i2 i3 i4 i5 s.heap s.heap.size (Nat.le_refl _) p e ha hc hk s m _ below hf ((Spec.applies_iff_loose hf).mp happ).1 ⟨rfl, State.Warmed39.refl s, rfl⟩ trivial
  refine ⟨n, _, h1, h2, h3, hpost _ _ _ _ _ _ ⟨Cond.after_iff.mpr rfl, Cond.after_iff.mpr (eq_i res_at (Term.int_eval (1)) rfl), trivial⟩ ⟨hq.1, hq.2.1, (hq.2.2.sift fun y hy => Or.inr (N y hy)).mono (by decide) (by decide)⟩⟩
theorem main_1_1 : Claimed_1_1 := comes_1 fun _ _ _ _ _ _ h hF => ⟨h.1, hF⟩
theorem main_1_2 : Claimed_1_2 := comes_1 fun _ _ _ _ _ _ h hF => ⟨h.2.1, hF⟩
end Jvm.Pilot.@@N@@
namespace Jvm.Pilot.@@N@@
open Jvm Jvm.ClassFile Sem Op Lib Jvm.Free Jvm.Stand Jvm.Pilot.@@N@@.Jvm.D
/-! MADE BY PROGRAM (witnessworld.py) out of the Statement's table words and the real class files: 9 classes; the members and pool entries that the words name. The judged class is class 1, her method 1. -/
namespace start1
open Jvm.ClassFile
def u (s : String) : CpInfo := .utf8 (stringToUtf16 s)
/-- a pool by its gaps: so many unusable entries, then the entry; so many at the end -/
def gap : Nat → List CpInfo → List CpInfo
  | 0, r => r
  | n + 1, r => .unusable :: gap n r
def poolList (es : List (Nat × CpInfo)) (last : Nat) : List CpInfo := es.foldr (fun e r => gap e.1 (e.2 :: r)) (gap last [])
def pool (es : List (Nat × CpInfo)) (last : Nat) : Array CpInfo := ⟨poolList es last⟩
def fileOf (pool : Array CpInfo) (this : Nat) (attrs : Array Attribute := #[]) (ms : Array MethodInfo := #[]) (fl : Nat := 33) (sup : Nat := 0) (ifs : Array Nat := #[]) (fds : Array FieldInfo := #[]) : ClassFile where
  minorVersion := 0
  majorVersion := 65
  constantPool := pool
  accessFlags := fl
  thisClass := this
  superClass := sup
  interfaces := ifs
  fields := fds
  methods := ms
  attributes := attrs
def plain (name : String) (sup : Option ClassId) : Class where
  name := name
  kind := .ordinary
  loader := none
  accessFlags := 33
  super := sup
  interfaces := #[]
  cf := none
  fields := #[]
  methods := #[]
  instanceTypes := #[]
  staticTypes := #[]
  resolved := #[]
  callSites := []
  init := .initialized
  statics := none
  mirror := none

def pool0 : Array CpInfo := pool [(5, u "<init>"), (0, u "()V"), (1, .class_ 10), (1, u "java/lang/Object")] 113

def k0c0 : Code := { maxStack := 0, maxLocals := 1, code := object_method_1_code, exceptionTable := #[], attributes := #[] }
def k0m0 : Method := { name := "<init>", desc := "()V", sig := { parameters := [], returnType := none }, accessFlags := 1, code := some k0c0 }
/-- java/lang/Object -/
def k0 : Class := { plain "java/lang/Object" none with
  accessFlags := 33
  interfaces := #[]
  cf := some (fileOf pool0 8 #[] #[{ accessFlags := 1, nameIndex := 5, descriptorIndex := 6, attributes := #[] }] 33 0 #[] #[])
  fields := #[]
  methods := #[k0m0]
  instanceTypes := #[]
  staticTypes := #[]
  resolved := Array.replicate 124 none
  statics := none }

def pool1 : Array CpInfo := pool [(2, .class_ 4), (0, .nameAndType 5 6), (0, u "java/lang/Object"), (0, u "<init>"), (0, u "()V"), (0, .integer 1073741823), (2, .double 9218868437227405312), (1, .class_ 13), (0, u "com/example/fieldroster/fieldroster/policy/Nearest"), (0, .methodref 12 3), (0, .methodref 12 16), (0, .nameAndType 17 18), (0, u "offer"), (0, u "(ID)V"), (0, .methodref 12 20), (0, .nameAndType 21 22), (0, u "found"), (0, u "()Z"), (0, .methodref 12 24), (0, .nameAndType 25 26), (0, u "index"), (0, u "()I"), (0, .methodref 12 28), (0, .nameAndType 29 30), (0, u "distance"), (0, u "()D"), (0, .class_ 32), (0, u "com/example/fieldroster/fieldroster/policy/NearestOfferPinLaw"), (2, u "law"), (0, u "(IIIIII)Z")] 3

def k1m0 : Method := { name := "<init>", desc := "()V", sig := { parameters := [], returnType := none }, accessFlags := 1, code := none }
def k1c1 : Code := { maxStack := 4, maxLocals := 24, code := code, exceptionTable := #[], attributes := #[] }
def k1m1 : Method := { name := "law", desc := "(IIIIII)Z", sig := { parameters := [.int, .int, .int, .int, .int, .int], returnType := some .boolean }, accessFlags := 9, code := some k1c1 }
/-- com/example/fieldroster/fieldroster/policy/NearestOfferPinLaw -/
def k1 : Class := { plain "com/example/fieldroster/fieldroster/policy/NearestOfferPinLaw" (some 0) with
  accessFlags := 49
  interfaces := #[]
  cf := some (fileOf pool1 31 #[] #[{ accessFlags := 1, nameIndex := 5, descriptorIndex := 6, attributes := #[] }, { accessFlags := 9, nameIndex := 35, descriptorIndex := 36, attributes := #[] }] 49 2 #[] #[])
  fields := #[]
  methods := #[k1m0, k1m1]
  instanceTypes := #[]
  staticTypes := #[]
  resolved := Array.replicate 40 none
  statics := none }

def pool2 : Array CpInfo := pool [(1, .methodref 2 3), (0, .class_ 4), (0, .nameAndType 5 6), (0, u "java/lang/Object"), (0, u "<init>"), (0, u "()V"), (0, .fieldref 8 9), (0, .class_ 10), (0, .nameAndType 11 12), (0, u "com/example/fieldroster/fieldroster/policy/Nearest"), (0, u "index"), (0, u "I"), (2, .double 9218868437227405312), (1, .fieldref 8 18), (0, .nameAndType 19 20), (0, u "distance"), (0, u "D"), (2, u "offer"), (0, u "(ID)V"), (1, u "found"), (0, u "()Z"), (0, u "()I"), (0, u "()D")] 2

def k2c0 : Code := { maxStack := 3, maxLocals := 1, code := prog_50_method_1_code, exceptionTable := #[], attributes := #[] }
def k2m0 : Method := { name := "<init>", desc := "()V", sig := { parameters := [], returnType := none }, accessFlags := 0, code := some k2c0 }
def k2c1 : Code := { maxStack := 4, maxLocals := 4, code := prog_50_method_2_code, exceptionTable := #[], attributes := #[] }
def k2m1 : Method := { name := "offer", desc := "(ID)V", sig := { parameters := [.int, .double], returnType := none }, accessFlags := 0, code := some k2c1 }
def k2c2 : Code := { maxStack := 1, maxLocals := 1, code := prog_50_method_3_code, exceptionTable := #[], attributes := #[] }
def k2m2 : Method := { name := "found", desc := "()Z", sig := { parameters := [], returnType := some .boolean }, accessFlags := 0, code := some k2c2 }
def k2c3 : Code := { maxStack := 1, maxLocals := 1, code := prog_50_method_4_code, exceptionTable := #[], attributes := #[] }
def k2m3 : Method := { name := "index", desc := "()I", sig := { parameters := [], returnType := some .int }, accessFlags := 0, code := some k2c3 }
def k2c4 : Code := { maxStack := 2, maxLocals := 1, code := prog_50_method_5_code, exceptionTable := #[], attributes := #[] }
def k2m4 : Method := { name := "distance", desc := "()D", sig := { parameters := [], returnType := some .double }, accessFlags := 0, code := some k2c4 }
/-- com/example/fieldroster/fieldroster/policy/Nearest -/
def k2 : Class := { plain "com/example/fieldroster/fieldroster/policy/Nearest" (some 0) with
  accessFlags := 48
  interfaces := #[]
  cf := some (fileOf pool2 8 #[] #[{ accessFlags := 0, nameIndex := 5, descriptorIndex := 6, attributes := #[] }, { accessFlags := 0, nameIndex := 23, descriptorIndex := 24, attributes := #[] }, { accessFlags := 0, nameIndex := 26, descriptorIndex := 27, attributes := #[] }, { accessFlags := 0, nameIndex := 11, descriptorIndex := 28, attributes := #[] }, { accessFlags := 0, nameIndex := 19, descriptorIndex := 29, attributes := #[] }] 48 2 #[] #[{ accessFlags := 2, nameIndex := 11, descriptorIndex := 12, attributes := #[] }, { accessFlags := 2, nameIndex := 19, descriptorIndex := 20, attributes := #[] }])
  fields := #[{ name := "index", type := .int, accessFlags := 2, slot := 0, constantValue := 0 }, { name := "distance", type := .double, accessFlags := 2, slot := 1, constantValue := 0 }]
  methods := #[k2m0, k2m1, k2m2, k2m3, k2m4]
  instanceTypes := #[.int, .double]
  staticTypes := #[]
  resolved := Array.replicate 32 none
  statics := none }

def pool3 : Array CpInfo := pool [(1, u "java/lang/Cloneable"), (0, .class_ 1), (0, u "java/lang/Object"), (0, .class_ 3)] 3

/-- java/lang/Cloneable -/
def k3 : Class := { plain "java/lang/Cloneable" (some 0) with
  accessFlags := 1537
  interfaces := #[]
  cf := some (fileOf pool3 2 #[] #[] 1537 4 #[] #[])
  fields := #[]
  methods := #[]
  instanceTypes := #[]
  staticTypes := #[]
  resolved := Array.replicate 8 none
  statics := none }

def pool4 : Array CpInfo := pool [(1, u "java/io/Serializable"), (0, .class_ 1), (0, u "java/lang/Object"), (0, .class_ 3)] 3

/-- java/io/Serializable -/
def k4 : Class := { plain "java/io/Serializable" (some 0) with
  accessFlags := 1537
  interfaces := #[]
  cf := some (fileOf pool4 2 #[] #[] 1537 4 #[] #[])
  fields := #[]
  methods := #[]
  instanceTypes := #[]
  staticTypes := #[]
  resolved := Array.replicate 8 none
  statics := none }

/-- the primitive byte -/
def k5 : Class := { plain "byte" none with kind := .primitive 'B', accessFlags := 0x411 }
/-- [B -/
def k6 : Class := { plain "[B" (some 0) with kind := .array 5 .byte, interfaces := #[3, 4], accessFlags := 1041 }

/-- the primitive int -/
def k7 : Class := { plain "int" none with kind := .primitive 'I', accessFlags := 0x411 }
/-- [I -/
def k8 : Class := { plain "[I" (some 0) with kind := .array 7 .int, interfaces := #[3, 4], accessFlags := 1041 }

def heap : Heap := #[]
def classes : Array Class := #[k0, k1, k2, k3, k4, k5, k6, k7, k8]
def interned : List (Array UInt16 × Addr) := []
def slotsUsed : Nat := 0
def theMethod : MethodId := ⟨1, 1⟩
def args0 : Array Value := #[.int 3, .int 8, .int 5, .int 7, .int 9, .int 11]
def aboutOver (below : List Frame) : State where
  vm := { classes := classes, interned := interned.toArray }
  heap := heap
  slotsUsed := slotsUsed
  threads := #[{ frames := .invoking theMethod args0 :: below }]
def below0 : List Frame := [.native { method := ⟨0, 0⟩, args := #[] }]
def about1 : State := aboutOver below0
def p0 : Program := .bare "" "" ""
def e0 : Env := launch0.env 0 0 0
theorem w_frames : about1.frames = Frame.invoking theMethod args0 :: below0 := rfl
set_option maxRecDepth 65536 in
theorem w_args : argsFit about1.vm theMethod args0 = true := by decide +kernel
set_option maxRecDepth 65536 in
theorem w_heap : heapFits about1 = true := by decide +kernel
set_option maxRecDepth 65536 in
theorem w_runnable : about1.curStatus? = some .runnable := by decide +kernel
set_option maxRecDepth 65536 in
theorem w_alone : about1.alone = true := by decide +kernel
set_option maxRecDepth 65536 in
theorem w_named : about1.methodNamed? x = some theMethod := by decide +kernel
set_option maxRecDepth 65536 in
theorem w_hears : about1.hears theMethod below0 = true := by decide +kernel
set_option maxRecDepth 65536 in
theorem w_ripe : about1.ripe theMethod args0 below0 = true := by decide +kernel
theorem w_running : about1.status = .running := rfl
set_option maxRecDepth 65536 in
theorem w_room : about1.hasRoom e0.platform room_1 = true :=
  launch0.hasRoom_least _ room_1 (by decide +kernel) (by decide +kernel) (by decide +kernel) (by decide +kernel) (by decide +kernel) (by decide +kernel)
theorem allAtoms_all (ts : List Jvm.Cond) (a : Array Jvm.Value) (st : Jvm.State) : (allAtoms ts).before a st = ts.all (fun c => c.before a st) := by
  induction ts with
  | nil => rfl
  | cons c t ih =>
    show (Jvm.Cond.and c (allAtoms t)).before a st = _
    rw [Jvm.Cond.before_and, ih, List.all_cons]
def words1 : List Jvm.Cond := Jvm.Cond.code x code maxLocals ret :: tables_1
/-- a 'code' word, met by the world's own term for the bytes: nothing is compared byte by byte -/
theorem code_word {y : MethodName} {bytes : ByteArray} {mx : Nat} {rt : Option FieldType} {a : Array Value} {s : State} {m : MethodId} {meth : Method} {c : Code} (h1 : s.methodNamed? y = some m) (h2 : s.vm.method? m = some meth) (h3 : meth.code = some c) (h4 : c.code = bytes)
    (h5 : (c.maxLocals == mx && c.exceptionTable.isEmpty && decide (c.maxStack ≤ mostOperands) && decide (meth.sig.returnType = rt) && !meth.locks && decide (parseMethodDescriptor y.desc = some meth.sig)) = true) : (Jvm.Cond.code y bytes mx rt).before a s = true := by
  simp only [Bool.and_eq_true, beq_iff_eq, Bool.not_eq_true', decide_eq_true_eq] at h5
  obtain ⟨⟨⟨⟨⟨g1, g2⟩, g3⟩, g4⟩, g5⟩, g6⟩ := h5
  simp [Cond.before, Cond.holds, Cond.value, h1, h2, h3, h4, g1, g2, g3, g4, g5, g6]
def isCode : Jvm.Cond → Bool
  | .code _ _ _ _ => true
  | _ => false
theorem all_split {L : List Jvm.Cond} {P : Jvm.Cond → Bool} (h1 : L.all (fun c => isCode c || P c) = true) (h2 : ∀ c ∈ L.filter isCode, P c = true) : L.all P = true := by
  refine List.all_eq_true.mpr fun c hc => ?_
  have h := List.all_eq_true.mp h1 c hc
  rcases Bool.eq_false_or_eq_true (isCode c) with hi | hi
  · exact h2 c (List.mem_filter.mpr ⟨hc, hi⟩)
  · simpa [hi] using h
set_option maxRecDepth 65536 in
theorem w_c0 : (Jvm.Cond.code x code maxLocals ret).before args0 about1 = true := code_word (m := ⟨1, 1⟩) (meth := k1m1) (c := k1c1) (by decide +kernel) rfl rfl rfl (by decide +kernel)
set_option maxRecDepth 65536 in
theorem w_c1 : (Jvm.Cond.code ({ cls := "com/example/fieldroster/fieldroster/policy/Nearest", name := "<init>", desc := "()V" } : Jvm.MethodName) prog_50_method_1_code (1 : Nat) (Option.none : Option Jvm.ClassFile.FieldType)).before args0 about1 = true := code_word (m := ⟨2, 0⟩) (meth := k2m0) (c := k2c0) (by decide +kernel) rfl rfl rfl (by decide +kernel)
set_option maxRecDepth 65536 in
theorem w_c2 : (Jvm.Cond.code ({ cls := "java/lang/Object", name := "<init>", desc := "()V" } : Jvm.MethodName) object_method_1_code (1 : Nat) (Option.none : Option Jvm.ClassFile.FieldType)).before args0 about1 = true := code_word (m := ⟨0, 0⟩) (meth := k0m0) (c := k0c0) (by decide +kernel) rfl rfl rfl (by decide +kernel)
set_option maxRecDepth 65536 in
theorem w_c3 : (Jvm.Cond.code ({ cls := "com/example/fieldroster/fieldroster/policy/Nearest", name := "found", desc := "()Z" } : Jvm.MethodName) prog_50_method_3_code (1 : Nat) (Option.some Jvm.ClassFile.FieldType.boolean)).before args0 about1 = true := code_word (m := ⟨2, 2⟩) (meth := k2m2) (c := k2c2) (by decide +kernel) rfl rfl rfl (by decide +kernel)
set_option maxRecDepth 65536 in
theorem w_c4 : (Jvm.Cond.code ({ cls := "com/example/fieldroster/fieldroster/policy/Nearest", name := "index", desc := "()I" } : Jvm.MethodName) prog_50_method_4_code (1 : Nat) (Option.some Jvm.ClassFile.FieldType.int)).before args0 about1 = true := code_word (m := ⟨2, 3⟩) (meth := k2m3) (c := k2c3) (by decide +kernel) rfl rfl rfl (by decide +kernel)
set_option maxRecDepth 65536 in
theorem w_c5 : (Jvm.Cond.code ({ cls := "com/example/fieldroster/fieldroster/policy/Nearest", name := "distance", desc := "()D" } : Jvm.MethodName) prog_50_method_5_code (1 : Nat) (Option.some Jvm.ClassFile.FieldType.double)).before args0 about1 = true := code_word (m := ⟨2, 4⟩) (meth := k2m4) (c := k2c4) (by decide +kernel) rfl rfl rfl (by decide +kernel)
set_option maxRecDepth 65536 in
theorem w_c6 : (Jvm.Cond.code ({ cls := "com/example/fieldroster/fieldroster/policy/Nearest", name := "offer", desc := "(ID)V" } : Jvm.MethodName) prog_50_method_2_code (4 : Nat) (Option.none : Option Jvm.ClassFile.FieldType)).before args0 about1 = true := code_word (m := ⟨2, 1⟩) (meth := k2m1) (c := k2c1) (by decide +kernel) rfl rfl rfl (by decide +kernel)
def codes1 : List Jvm.Cond := [Jvm.Cond.code x code maxLocals ret, Jvm.Cond.code ({ cls := "com/example/fieldroster/fieldroster/policy/Nearest", name := "<init>", desc := "()V" } : Jvm.MethodName) prog_50_method_1_code (1 : Nat) (Option.none : Option Jvm.ClassFile.FieldType), Jvm.Cond.code ({ cls := "java/lang/Object", name := "<init>", desc := "()V" } : Jvm.MethodName) object_method_1_code (1 : Nat) (Option.none : Option Jvm.ClassFile.FieldType), Jvm.Cond.code ({ cls := "com/example/fieldroster/fieldroster/policy/Nearest", name := "found", desc := "()Z" } : Jvm.MethodName) prog_50_method_3_code (1 : Nat) (Option.some Jvm.ClassFile.FieldType.boolean), Jvm.Cond.code ({ cls := "com/example/fieldroster/fieldroster/policy/Nearest", name := "index", desc := "()I" } : Jvm.MethodName) prog_50_method_4_code (1 : Nat) (Option.some Jvm.ClassFile.FieldType.int), Jvm.Cond.code ({ cls := "com/example/fieldroster/fieldroster/policy/Nearest", name := "distance", desc := "()D" } : Jvm.MethodName) prog_50_method_5_code (1 : Nat) (Option.some Jvm.ClassFile.FieldType.double), Jvm.Cond.code ({ cls := "com/example/fieldroster/fieldroster/policy/Nearest", name := "offer", desc := "(ID)V" } : Jvm.MethodName) prog_50_method_2_code (4 : Nat) (Option.none : Option Jvm.ClassFile.FieldType)]
set_option maxRecDepth 65536 in
theorem codes_eq : words1.filter isCode = codes1 := rfl
theorem w_codes : ∀ c ∈ words1.filter isCode, c.before args0 about1 = true := by
  rw [codes_eq]
  intro c hc
  simp only [codes1, List.mem_cons, List.not_mem_nil, or_false] at hc
  rcases hc with rfl | rfl | rfl | rfl | rfl | rfl | rfl
  · exact w_c0
  · exact w_c1
  · exact w_c2
  · exact w_c3
  · exact w_c4
  · exact w_c5
  · exact w_c6
set_option maxRecDepth 65536 in
theorem w_t1 : (words1.take 24).all (fun c => isCode c || c.before args0 about1) = true := by decide +kernel
set_option maxRecDepth 65536 in
theorem w_t2 : (words1.drop 24).all (fun c => isCode c || c.before args0 about1) = true := by decide +kernel
theorem w_tables : (allAtoms (Jvm.Cond.code x code maxLocals ret :: tables_1)).before args0 about1 = true := by
  rw [allAtoms_all]
  show words1.all (fun c => c.before args0 about1) = true
  refine all_split ?_ w_codes
  rw [← List.take_append_drop 24 words1, List.all_append, w_t1, w_t2]
  rfl
set_option maxRecDepth 65536 in
theorem w_case : (Jvm.Cond.and given_1 narrow_1).before args0 about1 = true := by decide +kernel
theorem w_applies : (headSpec (Jvm.Cond.code x code maxLocals ret :: tables_1) room_1).applies x e0.platform about1 = true :=
  (Spec.applies_iff w_frames).mpr ⟨w_running, w_runnable, w_alone, w_named, w_hears, w_ripe, w_room, w_tables⟩
theorem atStart : AtStart classFile x code maxLocals ret World_1 tables_1 room_1 Calls_1 rest_1 Pre_1 launch0 p0 e0 about1 theMethod args0 below0 :=
  ⟨lists_1, trivial, launch0.admits_env _ _ _, launch0.least_env, fairChoices_fair.cas, fairChoices_fair.clock, w_frames, w_args, w_heap, w_applies, trivial, trivial, w_case⟩
end start1
theorem witness_1 : WitnessClaimed_1 := ⟨start1.p0, start1.e0, start1.about1, start1.theMethod, start1.args0, start1.below0, start1.atStart⟩
end Jvm.Pilot.@@N@@
