import JvmDerived
import JvmDerived.Pilot.@@N@@Statement
import JvmDerived.Pilot.@@N@@Code
set_option linter.unusedVariables false
set_option linter.unusedSimpArgs false
namespace Jvm.Pilot.@@N@@.Own
open Jvm Jvm.ClassFile Sem Op Lib Jvm.Free Jvm.Stand Jvm.LawKit Jvm.RoadKit
/-- from S the run comes to an end of which P holds -/
def Go (tb : Tables) (e : Env) (below : List Frame) (P : State → Outcome → Prop) (S : State) : Prop :=
  ∃ s₂ o, Steps tb e below S s₂ ∧ s₂.status = .running ∧ Ended s₂ below o ∧ P s₂ o
theorem Go.step {tb : Tables} {e : Env} {below : List Frame} {P : State → Outcome → Prop} {S S' : State}
    (h : ∀ t, Steps tb e below S' t → Steps tb e below S t) (g : Go tb e below P S') : Go tb e below P S := by
  obtain ⟨t, o, h1, h2⟩ := g; exact ⟨t, o, h t h1, h2⟩
theorem Go.tr {tb : Tables} {e : Env} {below : List Frame} {P : State → Outcome → Prop} {S S' : State}
    (h : Steps tb e below S S') (g : Go tb e below P S') : Go tb e below P S := by
  obtain ⟨t, o, h1, h2⟩ := g; exact ⟨t, o, h.trans h1, h2⟩
theorem Go.start {tb : Tables} {e : Env} {below : List Frame} {P₀ : State → Outcome → Prop} {S S' : State} (q : S = S')
    (h : ∀ P : State → Outcome → Prop, (∀ s₂ o, P₀ s₂ o → P s₂ o) → Go tb e below P S') : Go tb e below P₀ S := by
  subst q; exact h P₀ fun _ _ h => h
/-- a value gets a name -/
theorem nm {α : Type} (F : α → Prop) (x : α) (H : ∀ z, z = x → F z) : F x := H x rfl
section Ends
variable {p : Program} {l : Launch} {e : Env} {R : Room} {s : State} {m : MethodId} {args : Array Value} {below : List Frame} {meth : Method} {c : Code} {T : State} {locs : List Loc} {cells slots : Nat}
theorem retGo (X : Stand p l e R s m args below meth c T locs cells slots) (hx : p.tables.exec = Jvm.exec) {P : State → Outcome → Prop} {Q : Option Value → Heap → List Loc → Prop} {kc ks : Nat}
    (hP : ∀ s₂ o, (∃ v L, o = .returned v ∧ Q v s₂.heap L ∧ FrameEnd s o s₂ L kc ks) → P s₂ o) {pc : Nat} {Ls : Array Slot} {w : Value} {t : FieldType} {i : Instr} {rest : List Value} (hret : meth.sig.returnType = some t) (hlk : meth.locks = false) (hn : narrow t w = w)
    (hi : (i = .ireturn ∧ (t = .int ∨ t = .boolean ∨ t = .byte ∨ t = .char ∨ t = .short) ∧ ∃ z, w = .int z) ∨ (i = .lreturn ∧ t = .long ∧ ∃ z, w = .long z) ∨ (i = .dreturn ∧ t = .double ∧ ∃ z, w = .double z) ∨ (i = .freturn ∧ t = .float ∧ ∃ z, w = .float z) ∨ (i = .areturn ∧ t.isReference = true ∧ w.isRef = true))
    (hd : decode c.code pc = .ok (i, 1)) (hc : cells ≤ kc) (hs : slots ≤ ks) (hQ : Q (some w) T.heap locs) : Go p.tables e below P (T.setTop (mkF m pc Ls (w :: rest))) := by
  obtain ⟨fs, hr, hrun, hended, hW, hsame⟩ := X.leave (v := some w) (fun h => by rw [hret] at h; cases h) hlk
  exact ⟨_, _, retOut X hx hret hn hi hd hr, hrun, hended, hP _ _ ⟨_, _, rfl, hQ, ⟨_, rfl⟩, hW, hsame.mono hc hs⟩⟩
theorem voidGo (X : Stand p l e R s m args below meth c T locs cells slots) (hx : p.tables.exec = Jvm.exec) {P : State → Outcome → Prop} {Q : Option Value → Heap → List Loc → Prop} {kc ks : Nat}
    (hP : ∀ s₂ o, (∃ v L, o = .returned v ∧ Q v s₂.heap L ∧ FrameEnd s o s₂ L kc ks) → P s₂ o) {pc : Nat} {Ls : Array Slot} (hret : meth.sig.returnType = none) (hlk : meth.locks = false)
    (hd : decode c.code pc = .ok (.return_, 1)) (hc : cells ≤ kc) (hs : slots ≤ ks) (hQ : Q none T.heap locs) : Go p.tables e below P (T.setTop (mkF m pc Ls [])) := by
  obtain ⟨fs, hr, hrun, hended, hW, hsame⟩ := X.leave (v := none) (fun _ => rfl) hlk
  exact ⟨_, _, X.returnOut hx hret hd hr, hrun, hended, hP _ _ ⟨_, _, rfl, hQ, ⟨_, rfl⟩, hW, hsame.mono hc hs⟩⟩
end Ends
/-! branches: what is compared, as whole numbers -/
def rel : ClassFile.Cond → Int → Int → Prop
  | .eq, a, b => a = b
  | .ne, a, b => ¬ a = b
  | .lt, a, b => a < b
  | .ge, a, b => b ≤ a
  | .gt, a, b => b < a
  | .le, a, b => a ≤ b
theorem icY {cd : ClassFile.Cond} {x y : Int32} (h : rel cd x.toInt y.toInt) : if_icmp.holds cd x y = true := by
  cases cd <;> simp only [rel] at h <;> simp [if_icmp.holds, Int32.lt_iff_toInt_lt, Int32.le_iff_toInt_le, ← Int32.toInt_inj] <;> omega
theorem icN {cd : ClassFile.Cond} {x y : Int32} (h : ¬ rel cd x.toInt y.toInt) : if_icmp.holds cd x y = false := by
  cases cd <;> simp only [rel] at h <;> simp [if_icmp.holds, Int32.lt_iff_toInt_lt, Int32.le_iff_toInt_le, ← Int32.toInt_inj] <;> omega
theorem ifY {cd : ClassFile.Cond} {x : Int32} (h : rel cd x.toInt 0) : ifCond.holds cd x = true := (if0 cd x).trans (icY h)
theorem ifN {cd : ClassFile.Cond} {x : Int32} (h : ¬ rel cd x.toInt 0) : ifCond.holds cd x = false := (if0 cd x).trans (icN h)
theorem lcmp_rel {cd : ClassFile.Cond} {x y : Int64} : rel cd (lcmpW x y).toInt 0 ↔ rel cd x.toInt y.toInt := by
  have h1 : x < y ↔ x.toInt < y.toInt := Int64.lt_iff_toInt_lt
  have h2 : y < x ↔ y.toInt < x.toInt := Int64.lt_iff_toInt_lt
  have h3 : x = y ↔ x.toInt = y.toInt := Int64.toInt_inj.symm
  have e1 : (1 : Int32).toInt = 1 := rfl
  have e2 : (-1 : Int32).toInt = -1 := rfl
  have e3 : (0 : Int32).toInt = 0 := rfl
  unfold lcmpW
  by_cases c1 : x > y
  · rw [if_pos c1, e1]; have := h2.mp c1; cases cd <;> simp only [rel] <;> omega
  · rw [if_neg c1]
    have n1 : ¬ y.toInt < x.toInt := fun q => c1 (h2.mpr q)
    by_cases c2 : x = y
    · rw [if_pos c2, e3]; have q := h3.mp c2; cases cd <;> simp only [rel] <;> first | omega | simp [q]
    · rw [if_neg c2, e2]
      have n2 : ¬ x.toInt = y.toInt := fun q => c2 (h3.mpr q)
      cases cd <;> simp only [rel] <;> omega
theorem lcY {cd : ClassFile.Cond} {x y : Int64} (h : rel cd x.toInt y.toInt) : ifCond.holds cd (lcmpW x y) = true := ifY (lcmp_rel.mpr h)
theorem lcN {cd : ClassFile.Cond} {x y : Int64} (h : ¬ rel cd x.toInt y.toInt) : ifCond.holds cd (lcmpW x y) = false := ifN fun q => h (lcmp_rel.mp q)
theorem cmpV_rel {cd : ClassFile.Cond} {op : CmpOp} {i j : Int} : rel cd (cmpValue (some (compare i j)) op).toInt 0 ↔ rel cd i j := by
  have e1 : (1 : Int32).toInt = 1 := rfl
  have e2 : (-1 : Int32).toInt = -1 := rfl
  have e3 : (0 : Int32).toInt = 0 := rfl
  cases h : compare i j with
  | lt => have := (FP.Core.compare_lt_iff i j).mp h; show rel cd (-1 : Int32).toInt 0 ↔ _; rw [e2]; cases cd <;> simp only [rel] <;> omega
  | eq => have := (FP.Core.compare_eq_iff i j).mp h; show rel cd (0 : Int32).toInt 0 ↔ _; rw [e3]; cases cd <;> simp only [rel] <;> first | omega | simp [this]
  | gt => have := (FP.Core.compare_gt_iff i j).mp h; show rel cd (1 : Int32).toInt 0 ↔ _; rw [e1]; cases cd <;> simp only [rel] <;> omega
theorem dcY {cd : ClassFile.Cond} {op : CmpOp} {r : Option Ordering} {i j : Int} (q : r = some (compare i j)) (h : rel cd i j) : ifCond.holds cd (cmpValue r op) = true := by subst q; exact ifY (cmpV_rel.mpr h)
theorem dcN {cd : ClassFile.Cond} {op : CmpOp} {r : Option Ordering} {i j : Int} (q : r = some (compare i j)) (h : ¬ rel cd i j) : ifCond.holds cd (cmpValue r op) = false := by subst q; exact ifN fun z => h (cmpV_rel.mp z)
end Jvm.Pilot.@@N@@.Own
namespace Jvm.Pilot.@@N@@.Own
open Jvm Jvm.FP Jvm.FP.Core
/-! ## doubles as whole numbers of 2^-1074: what rounding leaves -/
/-- a double's value in units of 2^-1074 -/
def zv (a : UInt64) : Int := zval b64 (val64 a)
/-- a is finite and lies between lo * 2^k and hi * 2^k units -/
def DB (k : Nat) (lo hi : Int) (a : UInt64) : Prop := DFin a ∧ lo * ((2 ^ k : Nat) : Int) ≤ zv a ∧ zv a ≤ hi * ((2 ^ k : Nat) : Int)
/-- a is finite and is i * 2^k units -/
abbrev DE (k : Nat) (i : Int) (a : UInt64) : Prop := DB k i i a
theorem DE.eq {k : Nat} {i : Int} {a : UInt64} (h : DE k i a) : zv a = i * ((2 ^ k : Nat) : Int) := Int.le_antisymm h.2.2 h.2.1
theorem DE.of {k : Nat} {i : Int} {a : UInt64} (hf : DFin a) (h : zv a = i * ((2 ^ k : Nat) : Int)) : DE k i a := ⟨hf, Int.le_of_eq h.symm, Int.le_of_eq h⟩
theorem tn32 {q : Int32} (h0 : 0 ≤ q.toInt) : (q.toBitVec.toNat : Int) = q.toInt := by
  have l := q.toBitVec.isLt
  have e : q.toInt = q.toBitVec.toInt := rfl
  rw [e] at h0 ⊢
  rw [BitVec.toInt_eq_toNat_cond] at h0 ⊢
  split at h0 <;> split <;> omega
theorem nmul {a b : Int} {A B : Nat} (ha : a.natAbs ≤ A) (hb : b.natAbs ≤ B) : (a * b).natAbs ≤ A * B := by rw [Int.natAbs_mul]; exact Nat.mul_le_mul ha hb
theorem le_mul1 {a b : Int} (ha : 0 ≤ a) (hb : 1 ≤ b) : a ≤ a * b := by have := Int.mul_le_mul_of_nonneg_left hb ha; rwa [Int.mul_one] at this
theorem pw_pos (k : Nat) : (0 : Int) < ((2 ^ k : Nat) : Int) := Int.natCast_pos.mpr (Nat.two_pow_pos k)
theorem DB.nn {k : Nat} {lo hi : Int} {a : UInt64} (h : DB k lo hi a) : Jvm.Free.Fl.NoNaN64 a := Jvm.Free.Fl.noNaN64_no.mpr h.1.notNaN
theorem DB.ne {k : Nat} {lo hi : Int} {a : UInt64} (h : DB k lo hi a) : val64 a ≠ .nan := h.1.ne_nan
/-- a number of 53 digits is a double -/
theorem rep {n : Int} {k : Nat} (hn : n.natAbs ≤ 2 ^ 53) (hk : k ≤ 2044) : ∃ s c q, FP.Core.fits b64 (.fin s c q) ∧ zval b64 (.fin s c q) = n * ((2 ^ k : Nat) : Int) := by
  have key : ∀ (n : Int) (k : Nat), n.natAbs < 2 ^ 53 → k ≤ 2045 → ∃ s c q, FP.Core.fits b64 (.fin s c q) ∧ zval b64 (.fin s c q) = n * ((2 ^ k : Nat) : Int) := by
    intro n k hn hk
    have q1 : b64.qmin = -1074 := by decide
    have q2 : b64.qmax = 971 := by decide
    obtain ⟨c', q', h1, h2⟩ := round_exact good_b64 (decide (n < 0)) (c := n.natAbs) (q := b64.qmin + (k : Int)) (show n.natAbs < 2 ^ b64.p from hn) (by omega) (by omega)
    refine ⟨_, c', q', h1 ▸ round_fits good_b64 _, ?_⟩
    show signed (decide (n < 0)) (inUnits c' q' b64.qmin) = _
    rw [h2]
    unfold inUnits
    rw [signed_mul, show (b64.qmin + (k : Int) - b64.qmin).toNat = k by omega]
    congr 1
    unfold signed
    by_cases h : n < 0 <;> simp [h] <;> omega
  by_cases h : n.natAbs < 2 ^ 53
  · exact key n k h (by omega)
  · have e : n.natAbs = 2 ^ 53 := by omega
    have : ∃ m : Int, n = m * 2 ∧ m.natAbs < 2 ^ 53 := by
      rcases Int.natAbs_eq n with q | q
      · exact ⟨2 ^ 52, by rw [q, e]; decide, by decide⟩
      · exact ⟨-2 ^ 52, by rw [q, e]; decide, by decide⟩
    obtain ⟨m, rfl, hm⟩ := this
    obtain ⟨s, c, q, h1, h2⟩ := key m (k + 1) hm (by omega)
    refine ⟨s, c, q, h1, ?_⟩
    rw [h2, Nat.pow_succ, Int.natCast_mul, Int.mul_assoc]
    congr 1
    rw [Int.mul_comm]; rfl
/-- a number between two finite ones is finite -/
theorem fin_between {a : UInt64} {lo hi : Int} {k : Nat} (hl : lo.natAbs ≤ 2 ^ 53) (hh : hi.natAbs ≤ 2 ^ 53) (hk : k ≤ 2044) (hn : val64 a ≠ .nan) (h1 : lo * ((2 ^ k : Nat) : Int) ≤ zv a) (h2 : zv a ≤ hi * ((2 ^ k : Nat) : Int)) : DB k lo hi a := by
  refine ⟨?_, h1, h2⟩
  obtain ⟨s1, c1, q1, f1, e1⟩ := rep hl hk
  obtain ⟨s2, c2, q2, f2, e2⟩ := rep hh hk
  have t1 : zmag b64 (.fin s1 c1 q1) < b64.tails * 2 ^ (b64.exps - 2) := zmag_lt_top good_b64 f1
  have t2 : zmag b64 (.fin s2 c2 q2) < b64.tails * 2 ^ (b64.exps - 2) := zmag_lt_top good_b64 f2
  rw [← e1] at h1
  rw [← e2] at h2
  unfold zv at h1 h2
  cases hv : val64 a with
  | nan => exact absurd hv hn
  | fin s c q => exact ⟨s, c, q, hv⟩
  | inf s =>
    exfalso
    rw [hv] at h1 h2
    have z : zmag b64 (.inf s) = b64.tails * 2 ^ (b64.exps - 2) := rfl
    unfold zval at h1 h2
    rw [z] at h1 h2
    generalize b64.tails * 2 ^ (b64.exps - 2) = top at *
    generalize zmag b64 (.fin s1 c1 q1) = m1 at *
    generalize zmag b64 (.fin s2 c2 q2) = m2 at *
    simp only [sgn] at h1 h2
    cases s <;> cases s1 <;> cases s2 <;> simp only [signed, if_true, Bool.false_eq_true, if_false] at h1 h2 <;> omega
theorem qmin_sub : ((2 ^ (b64.qmin - b64.qmin).toNat : Nat) : Int) = 1 := by rw [Int.sub_self]; rfl
/-- what lies between two numbers of 53 digits is rounded to something between them -/
theorem round_between {s : Bool} {c : Nat} {q : Int} {lo hi : Int} {k : Nat} {a : UInt64} (ha : val64 a = round b64 (.fin s c q)) (hl : lo.natAbs ≤ 2 ^ 53) (hh : hi.natAbs ≤ 2 ^ 53) (hk : k ≤ 2044) {e0 : Int} (h0 : e0 ≤ b64.qmin) (h0e : e0 ≤ q)
    (h1 : lo * ((2 ^ k : Nat) : Int) * ((2 ^ (b64.qmin - e0).toNat : Nat) : Int) ≤ signed s (inUnits c q e0)) (h2 : signed s (inUnits c q e0) ≤ hi * ((2 ^ k : Nat) : Int) * ((2 ^ (b64.qmin - e0).toNat : Nat) : Int)) : DB k lo hi a := by
  obtain ⟨s1, c1, q1, f1, e1⟩ := rep hl hk
  obtain ⟨s2, c2, q2, f2, e2⟩ := rep hh hk
  have hn : val64 a ≠ .nan := by rw [ha]; exact roundRatio_ne_nan _ _ _ _ _
  refine fin_between hl hh hk hn ?_ ?_
  · unfold zv; rw [ha, ← e1]; exact zval_round_ge good_b64 f1 (by simp) h0 h0e (by rw [e1]; exact h1)
  · unfold zv; rw [ha, ← e2]; exact zval_round_le good_b64 f2 (by simp) h0 h0e (by rw [e2]; exact h2)
theorem add_b {a b : UInt64} {k : Nat} {l1 h1 l2 h2 lo hi : Int} (ha : DB k l1 h1 a) (hb : DB k l2 h2 b) (hlo : lo ≤ l1 + l2) (hhi : h1 + h2 ≤ hi) (hl : lo.natAbs ≤ 2 ^ 53) (hh : hi.natAbs ≤ 2 ^ 53) (hk : k ≤ 2044) : DB k lo hi (FP.dadd a b) := by
  obtain ⟨⟨s, c, q, va⟩, a1, a2⟩ := ha
  obtain ⟨⟨t, d, r, vb⟩, b1, b2⟩ := hb
  have hv := val64_dadd a b
  have fa := val64_fits a
  have fb := val64_fits b
  unfold zv at a1 a2 b1 b2
  rw [va] at hv fa a1 a2
  rw [vb] at hv fb b1 b2
  obtain ⟨sg, n, e, h3, h4, h5⟩ := sum_units fa fb
  rw [h3] at hv
  have hp := pw_pos k
  refine round_between hv hl hh hk (e0 := b64.qmin) (Int.le_refl _) h4 ?_ ?_
  · rw [h5, qmin_sub, Int.mul_one]
    have := Int.mul_le_mul_of_nonneg_right hlo (Int.le_of_lt hp)
    rw [Int.add_mul] at this
    omega
  · rw [h5, qmin_sub, Int.mul_one]
    have := Int.mul_le_mul_of_nonneg_right hhi (Int.le_of_lt hp)
    rw [Int.add_mul] at this
    omega
theorem zv_dneg {a : UInt64} : zv (FP.dneg a) = -zv a := by unfold zv; rw [FP.val64_dneg, zval_negate]
theorem neg_b {a : UInt64} {k : Nat} {lo hi : Int} (ha : DB k lo hi a) : DB k (-hi) (-lo) (FP.dneg a) := by
  refine ⟨?_, ?_, ?_⟩
  · obtain ⟨s, c, q, va⟩ := ha.1
    exact ⟨!s, c, q, by rw [FP.val64_dneg, va]; rfl⟩
  · rw [zv_dneg, Int.neg_mul]; have := ha.2.2; omega
  · rw [zv_dneg, Int.neg_mul]; have := ha.2.1; omega
theorem sub_b {a b : UInt64} {k : Nat} {l1 h1 l2 h2 lo hi : Int} (ha : DB k l1 h1 a) (hb : DB k l2 h2 b) (hlo : lo ≤ l1 - h2) (hhi : h1 - l2 ≤ hi) (hl : lo.natAbs ≤ 2 ^ 53) (hh : hi.natAbs ≤ 2 ^ 53) (hk : k ≤ 2044) : DB k lo hi (FP.dsub a b) := by
  have e : FP.dsub a b = FP.dadd a (FP.dneg b) := by
    rw [FP.dneg_core hb.1.notNaN]; exact dsub_eq a b
  rw [e]
  exact add_b ha (neg_b hb) (by omega) (by omega) hl hh hk
theorem pw_1074 : ((2 ^ (b64.qmin - 2 * b64.qmin).toNat : Nat) : Int) = ((2 ^ 1074 : Nat) : Int) := by
  rw [show (b64.qmin - 2 * b64.qmin).toNat = 1074 by decide]
/-- the exact product of the two lies between -/
theorem mul_z {a b : UInt64} {k : Nat} {lo hi : Int} (fa : DFin a) (fb : DFin b) (h1 : lo * ((2 ^ k : Nat) : Int) * ((2 ^ 1074 : Nat) : Int) ≤ zv a * zv b) (h2 : zv a * zv b ≤ hi * ((2 ^ k : Nat) : Int) * ((2 ^ 1074 : Nat) : Int)) (hl : lo.natAbs ≤ 2 ^ 53) (hh : hi.natAbs ≤ 2 ^ 53) (hk : k ≤ 2044) : DB k lo hi (FP.dmul a b) := by
  obtain ⟨s, c, q, va⟩ := fa
  obtain ⟨t, d, r, vb⟩ := fb
  have hv := val64_dmul a b
  have fa := val64_fits a
  have fb := val64_fits b
  unfold zv at h1 h2
  rw [va] at hv fa h1 h2
  rw [vb] at hv fb h1 h2
  obtain ⟨g1, g2, g3⟩ := product_units fa fb
  rw [g1] at hv
  have e : signed (s != t) (inUnits (c * d) (q + r) (2 * b64.qmin)) = zval b64 (.fin s c q) * zval b64 (.fin t d r) := by
    rw [g3, signed_xor]; rfl
  refine round_between hv hl hh hk (e0 := 2 * b64.qmin) (by decide) g2 ?_ ?_
  · rw [e, pw_1074]; exact h1
  · rw [e, pw_1074]; exact h2
theorem pw_add (a b : Nat) : ((2 ^ (a + b) : Nat) : Int) = ((2 ^ a : Nat) : Int) * ((2 ^ b : Nat) : Int) := by rw [Nat.pow_add, Int.natCast_mul]
theorem mul_e {a b : UInt64} {k k1 k2 : Nat} {i j n : Int} (ha : DE k1 i a) (hb : DE k2 j b) (hk : k1 + k2 = k + 1074) (hn : i * j = n) (hh : n.natAbs ≤ 2 ^ 53) (hk' : k ≤ 2044) : DE k n (FP.dmul a b) := by
  have e : zv a * zv b = n * ((2 ^ k : Nat) : Int) * ((2 ^ 1074 : Nat) : Int) := by
    rw [ha.eq, hb.eq, ← hn, Int.mul_assoc (i * j), ← pw_add, ← hk, pw_add]
    simp only [Int.mul_assoc, Int.mul_left_comm]
  exact mul_z ha.1 hb.1 (Int.le_of_eq e.symm) (Int.le_of_eq e) hh hh hk'
/-- a bounded one times a known one that isn't negative -/
theorem mul_b {a b : UInt64} {k k1 k2 : Nat} {l1 h1 j lo hi : Int} (ha : DB k1 l1 h1 a) (hb : DE k2 j b) (hj : 0 ≤ j) (hk : k1 + k2 = k + 1074) (hlo : lo ≤ l1 * j) (hhi : h1 * j ≤ hi) (hl : lo.natAbs ≤ 2 ^ 53) (hh : hi.natAbs ≤ 2 ^ 53) (hk' : k ≤ 2044) : DB k lo hi (FP.dmul a b) := by
  have p1 := pw_pos k1
  have p2 := pw_pos k2
  have hz : 0 ≤ zv b := by rw [hb.eq]; exact Int.mul_nonneg hj (Int.le_of_lt p2)
  have e : ∀ x : Int, x * j * ((2 ^ k : Nat) : Int) * ((2 ^ 1074 : Nat) : Int) = x * ((2 ^ k1 : Nat) : Int) * zv b := fun x => by
    rw [hb.eq, Int.mul_assoc (x * j), ← pw_add, ← hk, pw_add]
    simp only [Int.mul_assoc, Int.mul_left_comm]
  have up : ∀ {x y : Int}, x ≤ y → x * ((2 ^ k : Nat) : Int) * ((2 ^ 1074 : Nat) : Int) ≤ y * ((2 ^ k : Nat) : Int) * ((2 ^ 1074 : Nat) : Int) := fun h =>
    Int.mul_le_mul_of_nonneg_right (Int.mul_le_mul_of_nonneg_right h (Int.le_of_lt (pw_pos _))) (Int.le_of_lt (pw_pos _))
  refine mul_z ha.1 hb.1 ?_ ?_ hl hh hk'
  · refine Int.le_trans (up hlo) ?_
    rw [e]; exact Int.mul_le_mul_of_nonneg_right ha.2.1 hz
  · refine Int.le_trans ?_ (up hhi)
    rw [e]; exact Int.mul_le_mul_of_nonneg_right ha.2.2 hz
theorem pw3 {A B C D E : Nat} (c : Nat) (h : A + B = C + D + E) : c * 2 ^ A * 2 ^ B = c * 2 ^ C * 2 ^ D * 2 ^ E := by
  rw [Nat.mul_assoc, ← Nat.pow_add, h, Nat.pow_add, Nat.pow_add, ← Nat.mul_assoc, ← Nat.mul_assoc]
theorem ev_aux (V : Int) (n d y : Nat) : V * ((2 ^ n * d : Nat) : Int) * ((2 ^ y : Nat) : Int) = V * ((d * 2 ^ y : Nat) : Int) * ((2 ^ n : Nat) : Int) := by
  rw [Int.natCast_mul, Int.natCast_mul]
  generalize ((2 ^ n : Nat) : Int) = x
  generalize ((2 ^ y : Nat) : Int) = z
  simp only [Int.mul_assoc, Int.mul_comm, Int.mul_left_comm]
/-- the quotient, with signs -/
theorem ratio_le {s : Bool} {A B : Nat} {e e0 : Int} {V : Datum} (hB : 0 < B) (hV : FP.Core.fits b64 V) (hn : V ≠ .nan) (h0 : e0 ≤ b64.qmin) (h0e : e0 ≤ e)
    (h : signed s (inUnits A e e0) ≤ zval b64 V * ((2 ^ (b64.qmin - e0).toNat * B : Nat) : Int)) : zval b64 (roundRatio b64 s A B e) ≤ zval b64 V := by
  have hle := zmag_roundRatio_le good_b64 (s := s) (A := A) hB hV hn h0 h0e
  have hge := zmag_roundRatio_ge good_b64 (s := s) (A := A) hB hV h0 h0e
  rw [Nat.mul_assoc] at hle hge
  have hP : 0 < 2 ^ (b64.qmin - e0).toNat * B := Nat.mul_pos (Nat.two_pow_pos _) hB
  unfold zval at h ⊢
  rw [sgn_roundRatio]
  rw [← signed_mul] at h
  have hz : zmag b64 V * (2 ^ (b64.qmin - e0).toNat * B) = 0 → zmag b64 V = 0 := by
    intro h
    rcases Nat.mul_eq_zero.mp h with h | h <;> omega
  generalize zmag b64 V * (2 ^ (b64.qmin - e0).toNat * B) = vP at *
  generalize sgn V = t at *
  cases s <;> cases t <;> simp only [signed, if_true, Bool.false_eq_true, if_false] at h ⊢
  · have := hle (by omega); omega
  · have := hle (by omega); have := hz (by omega); omega
  · omega
  · have := hge (by omega); omega
theorem ratio_ge {s : Bool} {A B : Nat} {e e0 : Int} {V : Datum} (hB : 0 < B) (hV : FP.Core.fits b64 V) (hn : V ≠ .nan) (h0 : e0 ≤ b64.qmin) (h0e : e0 ≤ e)
    (h : zval b64 V * ((2 ^ (b64.qmin - e0).toNat * B : Nat) : Int) ≤ signed s (inUnits A e e0)) : zval b64 V ≤ zval b64 (roundRatio b64 s A B e) := by
  have h1 := ratio_le (s := !s) (A := A) (B := B) (e := e) (V := negate V) hB (negate_fits hV) (negate_ne_nan hn) h0 h0e (by
    rw [zval_negate, Int.neg_mul]
    have : signed (!s) (inUnits A e e0) = -signed s (inUnits A e e0) := by cases s <;> simp [signed]
    rw [this]; omega)
  rw [zval_negate, ← negate_roundRatio, zval_negate] at h1
  omega
/-- the quotient by a positive number: no NaN, and at the least, at the most, what is so when multiplied back -/
theorem div_zz {a b : UInt64} (fa : DFin a) (fb : DFin b) (hb : 0 < zv b) : val64 (FP.ddiv a b) ≠ .nan ∧
    (∀ {k : Nat} {lo : Int}, lo.natAbs ≤ 2 ^ 53 → k ≤ 2044 → lo * ((2 ^ k : Nat) : Int) * zv b ≤ zv a * ((2 ^ 1074 : Nat) : Int) → lo * ((2 ^ k : Nat) : Int) ≤ zv (FP.ddiv a b)) ∧
    (∀ {k : Nat} {hi : Int}, hi.natAbs ≤ 2 ^ 53 → k ≤ 2044 → zv a * ((2 ^ 1074 : Nat) : Int) ≤ hi * ((2 ^ k : Nat) : Int) * zv b → zv (FP.ddiv a b) ≤ hi * ((2 ^ k : Nat) : Int)) := by
  obtain ⟨s, c, q, va⟩ := fa
  obtain ⟨t, d, r, vb⟩ := fb
  have hv := val64_ddiv a b
  have fa := val64_fits a
  have fb := val64_fits b
  have zea : zv a = zval b64 (.fin s c q) := by unfold zv; rw [va]
  have zeb : zv b = zval b64 (.fin t d r) := by unfold zv; rw [vb]
  rw [zea, zeb]
  rw [zeb] at hb
  rw [va] at hv fa
  rw [vb] at hv fb
  have qn : b64.qmin = -1074 := by decide
  have qx : b64.qmax = 971 := by decide
  have fa2 := fa.2.1
  have fb2 := fb.2.1
  have fb3 := fb.2.2.1
  have zb : zval b64 (.fin t d r) = signed t (d * 2 ^ (r - b64.qmin).toNat) := rfl
  have za : zval b64 (.fin s c q) = signed s (c * 2 ^ (q - b64.qmin).toNat) := rfl
  have hd : 0 < d := by
    refine Nat.pos_of_ne_zero fun e => ?_
    rw [zb, e, Nat.zero_mul, signed_zero] at hb
    omega
  have ht : t = false := by
    cases t with
    | false => rfl
    | true => rw [zb] at hb; simp only [signed, if_true] at hb; omega
  subst ht
  have hq : quotient b64 (.fin s c q) (.fin false d r) = roundRatio b64 s c d (q - r) := by
    show (if d = 0 then _ else roundRatio b64 (s != false) c d (q - r)) = _
    rw [if_neg (by omega)]; cases s <;> rfl
  rw [hq] at hv
  have hn : val64 (Core.ddiv a b) ≠ .nan := by rw [hv]; exact roundRatio_ne_nan _ _ _ _ _
  -- both sides times 2^(r - qmin)
  have hP := pw_pos (r - b64.qmin).toNat
  have ex : signed s (inUnits c (q - r) (2 * b64.qmin)) * ((2 ^ (r - b64.qmin).toNat : Nat) : Int) = zval b64 (.fin s c q) * ((2 ^ 1074 : Nat) : Int) * ((2 ^ 1074 : Nat) : Int) := by
    rw [za, ← signed_mul, ← signed_mul, ← signed_mul]
    exact congrArg (signed s) (pw3 (A := (q - r - 2 * b64.qmin).toNat) (D := 1074) (E := 1074) c (by omega))
  have ev : ∀ V : Int, V * ((2 ^ (b64.qmin - 2 * b64.qmin).toNat * d : Nat) : Int) * ((2 ^ (r - b64.qmin).toNat : Nat) : Int) = V * zval b64 (.fin false d r) * ((2 ^ 1074 : Nat) : Int) := fun V => by
    rw [zb, show (b64.qmin - 2 * b64.qmin).toNat = 1074 by decide]
    exact ev_aux V 1074 d _
  have p1074 := pw_pos 1074
  refine ⟨hn, fun {k lo} hl hk h1 => ?_, fun {k hi} hh hk h2 => ?_⟩
  · obtain ⟨s1, c1, q1, f1, e1⟩ := rep hl hk
    unfold zv; rw [hv, ← e1]
    refine ratio_ge hd f1 (by simp) (e0 := 2 * b64.qmin) (by decide) (by omega) ?_
    refine Int.le_of_mul_le_mul_right ?_ hP
    rw [ev, ex, e1]
    exact Int.mul_le_mul_of_nonneg_right h1 (Int.le_of_lt p1074)
  · obtain ⟨s2, c2, q2, f2, e2⟩ := rep hh hk
    unfold zv; rw [hv, ← e2]
    refine ratio_le hd f2 (by simp) (e0 := 2 * b64.qmin) (by decide) (by omega) ?_
    refine Int.le_of_mul_le_mul_right ?_ hP
    rw [ev, ex, e2]
    exact Int.mul_le_mul_of_nonneg_right h2 (Int.le_of_lt p1074)
/-- between lo and hi -/
theorem div_z {a b : UInt64} {k : Nat} {lo hi : Int} (fa : DFin a) (fb : DFin b) (hb : 0 < zv b) (h1 : lo * ((2 ^ k : Nat) : Int) * zv b ≤ zv a * ((2 ^ 1074 : Nat) : Int)) (h2 : zv a * ((2 ^ 1074 : Nat) : Int) ≤ hi * ((2 ^ k : Nat) : Int) * zv b) (hl : lo.natAbs ≤ 2 ^ 53) (hh : hi.natAbs ≤ 2 ^ 53) (hk : k ≤ 2044) : DB k lo hi (FP.ddiv a b) := by
  obtain ⟨n, ge, le⟩ := div_zz fa fb hb
  exact fin_between hl hh hk n (ge hl hk h1) (le hh hk h2)
/-- the quotient of two known numbers, the second one positive -/
theorem div_b {a b : UInt64} {k k1 k2 : Nat} {i j lo hi : Int} (ha : DE k1 i a) (hb : DE k2 j b) (hj : 0 < j) (hk : k1 + 1074 = k + k2) (hlo : lo * j ≤ i) (hhi : i ≤ hi * j) (hl : lo.natAbs ≤ 2 ^ 53) (hh : hi.natAbs ≤ 2 ^ 53) (hk' : k ≤ 2044) : DB k lo hi (FP.ddiv a b) := by
  have p2 := pw_pos k2
  have e : ∀ x : Int, x * ((2 ^ k : Nat) : Int) * zv b = x * j * ((2 ^ (k1 + 1074) : Nat) : Int) := fun x => by
    rw [hb.eq, hk, pw_add]
    simp only [Int.mul_assoc, Int.mul_left_comm]
  have e2 : zv a * ((2 ^ 1074 : Nat) : Int) = i * ((2 ^ (k1 + 1074) : Nat) : Int) := by rw [ha.eq, pw_add, Int.mul_assoc]
  refine div_z ha.1 hb.1 (by rw [hb.eq]; exact Int.mul_pos hj p2) ?_ ?_ hl hh hk'
  · rw [e, e2]; exact Int.mul_le_mul_of_nonneg_right hlo (Int.le_of_lt (pw_pos _))
  · rw [e, e2]; exact Int.mul_le_mul_of_nonneg_right hhi (Int.le_of_lt (pw_pos _))
theorem div_e {a b : UInt64} {k k1 k2 : Nat} {i j n : Int} (ha : DE k1 i a) (hb : DE k2 j b) (hj : 0 < j) (hk : k1 + 1074 = k + k2) (hn : n * j = i) (hh : n.natAbs ≤ 2 ^ 53) (hk' : k ≤ 2044) : DE k n (FP.ddiv a b) :=
  div_b ha hb hj hk (Int.le_of_eq hn) (Int.le_of_eq hn.symm) hh hh hk'
theorem add_e {a b : UInt64} {k : Nat} {i j n : Int} (ha : DE k i a) (hb : DE k j b) (hn : i + j = n) (hh : n.natAbs ≤ 2 ^ 53) (hk : k ≤ 2044) : DE k n (FP.dadd a b) := add_b ha hb (Int.le_of_eq hn.symm) (Int.le_of_eq hn) hh hh hk
theorem sub_e {a b : UInt64} {k : Nat} {i j n : Int} (ha : DE k i a) (hb : DE k j b) (hn : i - j = n) (hh : n.natAbs ≤ 2 ^ 53) (hk : k ≤ 2044) : DE k n (FP.dsub a b) := sub_b ha hb (Int.le_of_eq hn.symm) (Int.le_of_eq hn) hh hh hk
theorem i2d_e (x : Int32) : DE 1074 x.toInt (FP.i2d x) := DE.of (Core.i2d_fin x) (DInt_zval (i2d_int x))
theorem l2d_e {x : Int64} (h : x.toInt.natAbs ≤ 2 ^ 53) : DE 1074 x.toInt (FP.l2d x) := DE.of (Core.l2d_fin x) (DInt_zval (l2d_int h))
theorem zero_e (k : Nat) : DE k 0 FP.dconst0 := DE.of ⟨_, _, _, rfl⟩ (by rw [Int.zero_mul]; exact zval64_zero)
/-- in smaller units -/
theorem DB.down {a : UInt64} {k : Nat} {lo hi : Int} (h : DB k lo hi a) {k' n : Nat} (hk : k = k' + n) : DB k' (lo * ((2 ^ n : Nat) : Int)) (hi * ((2 ^ n : Nat) : Int)) a := by
  subst hk
  refine ⟨h.1, ?_, ?_⟩
  · have := h.2.1; rw [Nat.add_comm, pw_add, ← Int.mul_assoc] at this; exact this
  · have := h.2.2; rw [Nat.add_comm, pw_add, ← Int.mul_assoc] at this; exact this
/-- the quotient from below alone -/
theorem div_ge {a b : UInt64} {k k1 k2 : Nat} {i j lo : Int} (ha : DE k1 i a) (hb : DE k2 j b) (hj : 0 < j) (hk : k1 + 1074 = k + k2) (hlo : lo * j ≤ i) (hl : lo.natAbs ≤ 2 ^ 53) (hk' : k ≤ 2044) : lo * ((2 ^ k : Nat) : Int) ≤ zv (FP.ddiv a b) := by
  have p2 := pw_pos k2
  have e : ∀ x : Int, x * ((2 ^ k : Nat) : Int) * zv b = x * j * ((2 ^ (k1 + 1074) : Nat) : Int) := fun x => by
    rw [hb.eq, hk, pw_add]
    simp only [Int.mul_assoc, Int.mul_left_comm]
  have e2 : zv a * ((2 ^ 1074 : Nat) : Int) = i * ((2 ^ (k1 + 1074) : Nat) : Int) := by rw [ha.eq, pw_add, Int.mul_assoc]
  refine (div_zz ha.1 hb.1 (by rw [hb.eq]; exact Int.mul_pos hj p2)).2.1 hl hk' ?_
  rw [e, e2]; exact Int.mul_le_mul_of_nonneg_right hlo (Int.le_of_lt (pw_pos _))
/-- in greater units -/
theorem DB.up {a : UInt64} {k : Nat} {lo hi : Int} {n : Nat} (h : DB k (lo * ((2 ^ n : Nat) : Int)) (hi * ((2 ^ n : Nat) : Int)) a) : DB (k + n) lo hi a := by
  refine ⟨h.1, ?_, ?_⟩
  · have := h.2.1; rw [Int.mul_assoc, ← pw_add, Nat.add_comm] at this; exact this
  · have := h.2.2; rw [Int.mul_assoc, ← pw_add, Nat.add_comm] at this; exact this
/-- the product of two known numbers, between two that lie on a grid 2^g times as coarse -/
theorem mul_g {a b : UInt64} {k k1 k2 g : Nat} {i j lo hi : Int} (ha : DE k1 i a) (hb : DE k2 j b) (hk : k1 + k2 + g = k + 1074) (hlo : lo * ((2 ^ g : Nat) : Int) ≤ i * j) (hhi : i * j ≤ hi * ((2 ^ g : Nat) : Int)) (hl : lo.natAbs ≤ 2 ^ 53) (hh : hi.natAbs ≤ 2 ^ 53) (hk' : k ≤ 2044) : DB k lo hi (FP.dmul a b) := by
  have e : zv a * zv b = i * j * ((2 ^ (k1 + k2) : Nat) : Int) := by
    rw [ha.eq, hb.eq, pw_add]
    simp only [Int.mul_assoc, Int.mul_left_comm]
  have e2 : ∀ x : Int, x * ((2 ^ k : Nat) : Int) * ((2 ^ 1074 : Nat) : Int) = x * ((2 ^ g : Nat) : Int) * ((2 ^ (k1 + k2) : Nat) : Int) := fun x => by
    rw [Int.mul_assoc, ← pw_add, ← hk, Nat.add_comm, pw_add, ← Int.mul_assoc]
  refine mul_z ha.1 hb.1 ?_ ?_ hl hh hk'
  · rw [e, e2]; exact Int.mul_le_mul_of_nonneg_right hlo (Int.le_of_lt (pw_pos _))
  · rw [e, e2]; exact Int.mul_le_mul_of_nonneg_right hhi (Int.le_of_lt (pw_pos _))
theorem DB.wide {a : UInt64} {k : Nat} {lo hi lo' hi' : Int} (h : DB k lo hi a) (h1 : lo' ≤ lo) (h2 : hi ≤ hi') : DB k lo' hi' a :=
  ⟨h.1, Int.le_trans (Int.mul_le_mul_of_nonneg_right h1 (Int.le_of_lt (pw_pos k))) h.2.1, Int.le_trans h.2.2 (Int.mul_le_mul_of_nonneg_right h2 (Int.le_of_lt (pw_pos k)))⟩
theorem DE.cmp {a b : UInt64} {k : Nat} {i j : Int} (ha : DE k i a) (hb : DE k j b) : FP.dcmp a b = some (compare i j) := by
  rw [show FP.dcmp a b = some (compare (zv a) (zv b)) from dcmp_zval ha.ne hb.ne, ha.eq, hb.eq, compare_mul_pos _ _ _ (pw_pos k)]
theorem DB.lt {a b : UInt64} {k : Nat} {l1 h1 l2 h2 : Int} (ha : DB k l1 h1 a) (hb : DB k l2 h2 b) (h : h1 < l2) : FP.dcmp a b = some .lt := by
  rw [show FP.dcmp a b = some (compare (zv a) (zv b)) from dcmp_zval ha.ne hb.ne]
  congr 1
  rw [compare_lt_iff]
  have := Int.mul_lt_mul_of_pos_right h (pw_pos k)
  have := ha.2.2; have := hb.2.1
  omega
theorem DB.gt {a b : UInt64} {k : Nat} {l1 h1 l2 h2 : Int} (ha : DB k l1 h1 a) (hb : DB k l2 h2 b) (h : h2 < l1) : FP.dcmp a b = some .gt := by
  rw [show FP.dcmp a b = some (compare (zv a) (zv b)) from dcmp_zval ha.ne hb.ne]
  congr 1
  rw [compare_gt_iff]
  have := Int.mul_lt_mul_of_pos_right h (pw_pos k)
  have := ha.2.1; have := hb.2.2
  omega
/-- two doubles of one value that isn't nought are one -/
theorem DE.uniq {a b : UInt64} {k : Nat} {i : Int} (ha : DE k i a) (hb : DE k i b) (hi : i ≠ 0) : a = b := by
  have h1 := dcmp_key ha.ne hb.ne
  rw [dcmp_zval ha.ne hb.ne] at h1
  have e : zval b64 (val64 a) = zval b64 (val64 b) := (ha.eq).trans hb.eq.symm
  have h2 := Option.some.inj h1
  rw [(compare_eq_iff _ _).mpr e] at h2
  have h3 := (compare_eq_iff _ _).mp h2.symm
  have nz : ∀ {c : UInt64}, DE k i c → dkey c ≠ 0 := fun {c} hc h0 => by
    have q := dcmp_key hc.ne (b := 0) (by rw [val64_zero]; simp)
    rw [dcmp_zval hc.ne (by rw [val64_zero]; simp), zval64_zero] at q
    have q2 := Option.some.inj q
    have z : dkey 0 = 0 := by decide
    rw [h0, z, (compare_eq_iff (0 : Int) 0).mpr rfl] at q2
    have q3 := (compare_eq_iff _ _).mp q2
    have q4 : zv c = 0 := q3
    rw [hc.eq] at q4
    rcases Int.mul_eq_zero.mp q4 with q5 | q5
    · exact hi q5
    · have := pw_pos k; omega
  have n1 := nz ha
  have n2 := nz hb
  unfold dkey at h3 n1 n2
  apply UInt64.toNat_inj.mp
  have l1 := a.toNat_lt; have l2 := b.toNat_lt
  split at h3 <;> split at h3 <;> simp_all <;> omega
end Jvm.Pilot.@@N@@.Own
namespace Jvm.Pilot.@@N@@.Own
open Jvm Jvm.ClassFile Sem Op Lib Jvm.Free Jvm.Stand Jvm.LawKit Jvm.RoadKit
theorem land_v {tb : Tables} [Ours tb] {e : Env} {below : List Frame} {T target : State} {m : MethodId} {c : Code} {g : JFrame} (h : At T m c below) (hx : tb.exec = Jvm.exec) (hg : g.method = m) {x : Int64} {y : Int64} {v : Int64} {rest : List Value} (hd : decode c.code g.pc = .ok (.land, 1)) (hs : g.stack = .long y :: .long x :: rest) (hv : x &&& y = v)
    (hr : Steps tb e below (T.setTop { g with pc := g.pc + 1, stack := .long v :: rest }) target) : Steps tb e below (T.setTop g) target := by subst hv; exact XS.land h hx hg hd hs hr
theorem lsub_v {tb : Tables} [Ours tb] {e : Env} {below : List Frame} {T target : State} {m : MethodId} {c : Code} {g : JFrame} (h : At T m c below) (hx : tb.exec = Jvm.exec) (hg : g.method = m) {x : Int64} {y : Int64} {v : Int64} {rest : List Value} (hd : decode c.code g.pc = .ok (.lsub, 1)) (hs : g.stack = .long y :: .long x :: rest) (hv : x - y = v)
    (hr : Steps tb e below (T.setTop { g with pc := g.pc + 1, stack := .long v :: rest }) target) : Steps tb e below (T.setTop g) target := by subst hv; exact XS.lsub h hx hg hd hs hr
theorem iand_v {tb : Tables} [Ours tb] {e : Env} {below : List Frame} {T target : State} {m : MethodId} {c : Code} {g : JFrame} (h : At T m c below) (hx : tb.exec = Jvm.exec) (hg : g.method = m) {x : Int32} {y : Int32} {v : Int32} {rest : List Value} (hd : decode c.code g.pc = .ok (.iand, 1)) (hs : g.stack = .int y :: .int x :: rest) (hv : x &&& y = v)
    (hr : Steps tb e below (T.setTop { g with pc := g.pc + 1, stack := .int v :: rest }) target) : Steps tb e below (T.setTop g) target := by subst hv; exact XS.iand h hx hg hd hs hr
theorem lshl_v {tb : Tables} [Ours tb] {e : Env} {below : List Frame} {T target : State} {m : MethodId} {c : Code} {g : JFrame} (h : At T m c below) (hx : tb.exec = Jvm.exec) (hg : g.method = m) {x : Int64} {y : Int32} {v : Int64} {rest : List Value} (hd : decode c.code g.pc = .ok (.lshl, 1)) (hs : g.stack = .int y :: .long x :: rest) (hv : (x <<< (y &&& 0x3f).toInt64) = v)
    (hr : Steps tb e below (T.setTop { g with pc := g.pc + 1, stack := .long v :: rest }) target) : Steps tb e below (T.setTop g) target := by subst hv; exact XS.lshl h hx hg hd hs hr
theorem lmul_v {tb : Tables} [Ours tb] {e : Env} {below : List Frame} {T target : State} {m : MethodId} {c : Code} {g : JFrame} (h : At T m c below) (hx : tb.exec = Jvm.exec) (hg : g.method = m) {x : Int64} {y : Int64} {v : Int64} {rest : List Value} (hd : decode c.code g.pc = .ok (.lmul, 1)) (hs : g.stack = .long y :: .long x :: rest) (hv : x * y = v)
    (hr : Steps tb e below (T.setTop { g with pc := g.pc + 1, stack := .long v :: rest }) target) : Steps tb e below (T.setTop g) target := by subst hv; exact XS.lmul h hx hg hd hs hr
end Jvm.Pilot.@@N@@.Own
namespace Jvm.Pilot.@@N@@.Own
open Jvm Jvm.FP Jvm.FP.Core
theorem far_c1 : DE 1021 9007199164668999 4607182418709945415 := DE.of ⟨_, _, _, rfl⟩ (by decide +kernel)
theorem far_c2 : DE 995 6044629098073146 4487126258331716666 := DE.of ⟨_, _, _, rfl⟩ (by decide +kernel)
theorem far {k : Nat} (hk : k ≤ 31) {vd ld : UInt64} {a b : Int} (ha : 0 ≤ a ∧ a < 17179869184) (hb : -17179869184 ≤ b ∧ b < 17179869184) (qv : DE (1074 - k) a vd) (ql : DE (1074 - k) b ld) :
    Jvm.Free.Fl.NoNaN64 (FP.dmul vd 4607182418709945415) ∧ Jvm.Free.Fl.NoNaN64 (FP.dadd ld 4487126258331716666) ∧ ∃ x y : Int, FP.dcmp (FP.dmul vd 4607182418709945415) (FP.dadd ld 4487126258331716666) = some (compare x y) ∧ (a ≤ b → x ≤ y) ∧ (1000 < 100000000 * (a - b) - a - ((2 ^ k : Nat) : Int) → y < x) ∧ (100000000 * (a - b) - a - ((2 ^ k : Nat) : Int) < -1000 → x ≤ y) := by
  have hD : 1 ≤ 2 ^ k ∧ 2 ^ k ≤ 2147483648 := ⟨Nat.one_le_two_pow, Nat.pow_le_pow_right (n := 2) (by decide) hk⟩
  have h60 : 2 ^ (61 - k) * 2 ^ k = 2 ^ 61 := by rw [← Nat.pow_add]; congr 1; omega
  have qp := mul_g (k := 1056 - k) (g := 35) (lo := a * 9007199164668999 / 34359738368) (hi := a * 9007199164668999 / 34359738368 + 1) qv far_c1 (by omega) (by omega) (by omega) (by omega) (by omega) (by omega)
  have qp2 := mul_g (k := 1056 - k) (g := 35) (lo := 0) (hi := a * 262144) qv far_c1 (by omega) (by omega) (by omega) (by decide) (by omega) (by omega)
  have ql' := ql.down (k' := 1056 - k) (n := 18) (by omega)
  obtain ⟨D, hDe⟩ : ∃ D : Int, D = ((2 ^ k : Nat) : Int) := ⟨_, rfl⟩
  have hD' : 1 ≤ D ∧ D ≤ 2147483648 := by omega
  have qc : DB (1056 - k) (6044629098073146 * D / 2305843009213693952) (6044629098073146 * D / 2305843009213693952 + 1) 4487126258331716666 := by
    have e : ((2 ^ (1056 - k) : Nat) : Int) = ((2 ^ (61 - k) : Nat) : Int) * ((2 ^ 995 : Nat) : Int) := by rw [← pw_add]; congr 2; omega
    have c : ∀ x : Int, x * ((2 ^ (61 - k) : Nat) : Int) * D = x * 2305843009213693952 := fun x => by
      rw [hDe, Int.mul_assoc, ← Int.natCast_mul, h60]; rfl
    have p995 := pw_pos 995
    refine ⟨far_c2.1, ?_, ?_⟩
    · rw [e, ← Int.mul_assoc, far_c2.eq]
      refine Int.mul_le_mul_of_nonneg_right ?_ (Int.le_of_lt p995)
      refine Int.le_of_mul_le_mul_right ?_ (show 0 < D by omega)
      rw [c]; omega
    · rw [e, ← Int.mul_assoc, far_c2.eq]
      refine Int.mul_le_mul_of_nonneg_right ?_ (Int.le_of_lt p995)
      refine Int.le_of_mul_le_mul_right ?_ (show 0 < D by omega)
      rw [c]; omega
  have qs := add_b (lo := b * 262144 + 6044629098073146 * D / 2305843009213693952) (hi := b * 262144 + 6044629098073146 * D / 2305843009213693952 + 1) ql' qc (by omega) (by omega) (by omega) (by omega) (by omega)
  have qs2 := add_b (lo := b * 262144) (hi := b * 262144 + 6044629098073146 * D / 2305843009213693952 + 1) ql' qc (by omega) (by omega) (by omega) (by omega) (by omega)
  have pp := pw_pos (1056 - k)
  refine ⟨qp.nn, qs.nn, zv (FP.dmul vd 4607182418709945415), zv (FP.dadd ld 4487126258331716666), dcmp_zval qp.ne qs.ne, fun h => ?_, fun h => ?_, fun h => ?_⟩
  · refine Int.le_trans qp2.2.2 (Int.le_trans ?_ qs2.2.1)
    exact Int.mul_le_mul_of_nonneg_right (by omega) (Int.le_of_lt pp)
  · refine Int.lt_of_le_of_lt qs.2.2 (Int.lt_of_lt_of_le ?_ qp.2.1)
    exact Int.mul_lt_mul_of_pos_right (by omega) pp
  · refine Int.le_trans qp.2.2 (Int.le_trans ?_ qs.2.1)
    exact Int.mul_le_mul_of_nonneg_right (by omega) (Int.le_of_lt pp)
end Jvm.Pilot.@@N@@.Own
namespace Jvm.Pilot.@@N@@
open Jvm Jvm.ClassFile Sem Op Lib Jvm.Free Jvm.Stand Jvm.LawKit Jvm.RoadKit Bundle Jvm.Pilot.@@N@@.Jvm.D Jvm.Pilot.@@N@@.Own
theorem pd_0 : parseMethodDescriptor "(DD)Z" = some ⟨[.double, .double], some .boolean⟩ := by decide +kernel
theorem d1_0 : decode prog_71_method_4_code 0 = .ok (.dload_n 0, 1) := by decide +kernel
theorem d1_1 : decode prog_71_method_4_code 1 = .ok (.ldc2_w 49, 3) := by decide +kernel
theorem d1_4 : decode prog_71_method_4_code 4 = .ok (.dmul, 1) := by decide +kernel
theorem d1_5 : decode prog_71_method_4_code 5 = .ok (.dload_n 2, 1) := by decide +kernel
theorem d1_6 : decode prog_71_method_4_code 6 = .ok (.ldc2_w 51, 3) := by decide +kernel
theorem d1_9 : decode prog_71_method_4_code 9 = .ok (.dadd, 1) := by decide +kernel
theorem d1_10 : decode prog_71_method_4_code 10 = .ok (.dcmp .l, 1) := by decide +kernel
theorem d1_11 : decode prog_71_method_4_code 11 = .ok (.ifCond .le 7, 3) := by decide +kernel
theorem d1_14 : decode prog_71_method_4_code 14 = .ok (.iconst 1, 1) := by decide +kernel
theorem d1_15 : decode prog_71_method_4_code 15 = .ok (.goto 4, 3) := by decide +kernel
theorem d1_18 : decode prog_71_method_4_code 18 = .ok (.iconst 0, 1) := by decide +kernel
theorem d1_19 : decode prog_71_method_4_code 19 = .ok (.ireturn, 1) := by decide +kernel
theorem pn_1 : plainName "com/example/fieldroster/fieldroster/util/Decimals" = true := by first | (simp [plainName, overriddenIn]; done) | decide +kernel
theorem ef_1 (m : MethodId) (x0 : UInt64) (x1 : UInt64) : entryFrame m #[(.double x0), (.double x1)] 4 = mkF m 0 #[.val (.double x0), .second, .val (.double x1), .second] [] := by first | (simp [entryFrame, mkF, argsToLocals, Value.category]; done) | rfl
def Q1 (Z : State) (vd : UInt64) (ld : UInt64) (x_ : Int) (y_ : Int) (h0 : Heap) (n0 : Nat) (v : Option Value) (h : Heap) (L : List Loc) : Prop := ∃ r : Int32, v = some (.int r) ∧ ((r.toInt = 1 ∧ y_ < x_) ∨ (r.toInt = 0 ∧ x_ ≤ y_)) ∧ Fr n0 L ∧ h = h0
set_option maxRecDepth 65536 in
set_option maxHeartbeats 40000000 in
theorem rm1 (l : Launch) (Z : State) (a0 : Array Value) (hw : ∀ d ∈ tables_1, d.before a0 Z = true) (ws : List Jvm.Cond) (vd : UInt64) (ld : UInt64) (x_ : Int) (y_ : Int) (h0 : Heap) (n0 : Nat) (Z0 : n0 ≤ h0.size) (n1 : Jvm.Free.Fl.NoNaN64 (FP.dmul vd 4607182418709945415)) (n2 : Jvm.Free.Fl.NoNaN64 (FP.dadd ld 4487126258331716666)) (hc : FP.dcmp (FP.dmul vd 4607182418709945415) (FP.dadd ld 4487126258331716666) = some (compare x_ y_)) :
    MetFree l (⟨"com/example/fieldroster/fieldroster/util/Decimals", "farAbove", "(DD)Z"⟩ : MethodName) (head1 (Jvm.Cond.code (⟨"com/example/fieldroster/fieldroster/util/Decimals", "farAbove", "(DD)Z"⟩ : MethodName) prog_71_method_4_code 4 (some .boolean) :: ws) ({ frames := 0, cells := 0, slots := 0, locals := 0 } : Room)) (fun a_ U => a_ = #[(.double vd), (.double ld)] ∧ Z.Warmed39 U.vm ∧ U.heap = h0) (fun _ _ _ _ _ => True) (fun _ U o U' => ∃ v L, o = .returned v ∧ Q1 Z vd ld x_ y_ h0 n0 v U'.heap L ∧ FrameEnd U o U' L (({ frames := 0, cells := 0, slots := 0, locals := 0 } : Room)).cells (({ frames := 0, cells := 0, slots := 0, locals := 0 } : Room)).slots) := by
  refine MetFree.of_bodySF (plainFor_of_name pn_1) hisR ?_
  intro p e s m args below meth c s₁ Bd hml0 hP0 hK
  obtain ⟨rfl, hZ, hh⟩ := hP0
  have hx := Bd.exec
  have hby := Bd.bytes
  have hml : c.maxLocals = 4 := hml0
  have hown : s.vm.findClass "com/example/fieldroster/fieldroster/util/Decimals" = some m.cls := findClass_of_methodNamed Bd.named
  have hnm := (name_of_methodNamed Bd.named Bd.method).1
  have X0 : Stand p l e ({ frames := 0, cells := 0, slots := 0, locals := 0 } : Room) s m #[(.double vd), (.double ld)] below meth c s₁ [] 0 0 := Stand.of_body Bd
  have e0 : s₁.heap = h0 := by rw [← hh, Bd.state]; rfl
  have N0 := Fr.nil n0
  have hlk : meth.locks = false := BodyLoose.notSynchronized Bd
  refine Go.start (P₀ := fun s₂ o => ∃ v L, o = .returned v ∧ Q1 Z vd ld x_ y_ h0 n0 v s₂.heap L ∧ FrameEnd s o s₂ L (({ frames := 0, cells := 0, slots := 0, locals := 0 } : Room)).cells (({ frames := 0, cells := 0, slots := 0, locals := 0 } : Room)).slots) (congrArg s₁.setTop (ef_1 m vd ld)) ?_
  intro P hP
  show Go p.tables e below P (s₁.setTop (mkF m 0 #[.val (.double vd), .second, .val (.double ld), .second] []))
  refine Go.step (fun t k => XS.dloadN X0.here hx rfl (hb hby d1_0) rfl  k) ?_
  show Go p.tables e below P (s₁.setTop (mkF m 1 #[.val (.double vd), .second, .val (.double ld), .second] [(.double vd)]))
  refine Go.step (fun t k => X0.ldc2DoubleC hx hown (mvT hZ (hw _ (List.mem_of_getElem? (i := 7) rfl))) (g := (mkF m 1 #[.val (.double vd), .second, .val (.double ld), .second] [(.double vd)])) rfl (hb hby d1_1) t k) ?_
  show Go p.tables e below P (s₁.setTop (mkF m 4 #[.val (.double vd), .second, .val (.double ld), .second] [(.double (4607182418709945415 : UInt64)), (.double vd)]))
  obtain ⟨d4, hd4⟩ : ∃ z : UInt64, FP.dmul vd (4607182418709945415 : UInt64) = z := ⟨_, rfl⟩
  refine Go.step (fun t k => XS.dmulS X0.here hx rfl (hb hby d1_4) rfl n1 hd4 k) ?_
  show Go p.tables e below P (s₁.setTop (mkF m 5 #[.val (.double vd), .second, .val (.double ld), .second] [(.double d4)]))
  refine Go.step (fun t k => XS.dloadN X0.here hx rfl (hb hby d1_5) rfl  k) ?_
  show Go p.tables e below P (s₁.setTop (mkF m 6 #[.val (.double vd), .second, .val (.double ld), .second] [(.double ld), (.double d4)]))
  refine Go.step (fun t k => X0.ldc2DoubleC hx hown (mvT hZ (hw _ (List.mem_of_getElem? (i := 8) rfl))) (g := (mkF m 6 #[.val (.double vd), .second, .val (.double ld), .second] [(.double ld), (.double d4)])) rfl (hb hby d1_6) t k) ?_
  show Go p.tables e below P (s₁.setTop (mkF m 9 #[.val (.double vd), .second, .val (.double ld), .second] [(.double (4487126258331716666 : UInt64)), (.double ld), (.double d4)]))
  obtain ⟨d9, hd9⟩ : ∃ z : UInt64, FP.dadd ld (4487126258331716666 : UInt64) = z := ⟨_, rfl⟩
  refine Go.step (fun t k => XS.daddS X0.here hx rfl (hb hby d1_9) rfl n2 hd9 k) ?_
  show Go p.tables e below P (s₁.setTop (mkF m 10 #[.val (.double vd), .second, .val (.double ld), .second] [(.double d9), (.double d4)]))
  rw [hd4, hd9] at hc
  refine Go.step (fun t k => XS.dcmpS X0.here hx rfl (hb hby d1_10) rfl rfl k) ?_
  show Go p.tables e below P (s₁.setTop (mkF m 11 #[.val (.double vd), .second, .val (.double ld), .second] [(.int (cmpValue (FP.dcmp d4 d9) .l))]))
  by_cases hc11 : x_ ≤ y_
  · refine Go.step (fun t k => XS.ifYes X0.here hx rfl (pc0 := 11) (pc' := 18) rfl (hb hby d1_11) rfl (dcY (cd := .le) hc hc11) (by decide) (by decide) k) ?_
    show Go p.tables e below P (s₁.setTop (mkF m 18 #[.val (.double vd), .second, .val (.double ld), .second] []))
    refine Go.step (fun t k => XS.iconst X0.here hx rfl (hb hby d1_18) k) ?_
    show Go p.tables e below P (s₁.setTop (mkF m 19 #[.val (.double vd), .second, .val (.double ld), .second] [(.int (0 : Int32))]))
    exact retGo X0 hx hP Bd.returns hlk rfl (Or.inl ⟨rfl, Or.inr (Or.inl rfl), _, rfl⟩) (hb hby d1_19) (by decide) (by decide) (by rw [e0]; exact ⟨0, rfl, Or.inr ⟨rfl, hc11⟩, N0, rfl⟩)
  · refine Go.step (fun t k => XS.ifNo X0.here hx rfl (hb hby d1_11) rfl (dcN (cd := .le) hc hc11) k) ?_
    show Go p.tables e below P (s₁.setTop (mkF m 14 #[.val (.double vd), .second, .val (.double ld), .second] []))
    refine Go.step (fun t k => XS.iconst X0.here hx rfl (hb hby d1_14) k) ?_
    show Go p.tables e below P (s₁.setTop (mkF m 15 #[.val (.double vd), .second, .val (.double ld), .second] [(.int (1 : Int32))]))
    refine Go.step (fun t k => XS.goto X0.here hx rfl (pc0 := 15) (pc' := 19) rfl (hb hby d1_15) (by decide) (by decide) k) ?_
    show Go p.tables e below P (s₁.setTop (mkF m 19 #[.val (.double vd), .second, .val (.double ld), .second] [(.int (1 : Int32))]))
    exact retGo X0 hx hP Bd.returns hlk rfl (Or.inl ⟨rfl, Or.inr (Or.inl rfl), _, rfl⟩) (hb hby d1_19) (by decide) (by decide) (by rw [e0]; exact ⟨1, rfl, Or.inl ⟨rfl, by omega⟩, N0, rfl⟩)
theorem pn_0 : plainName "com/example/fieldroster/fieldroster/util/DecimalsFarAbovePinLaw" = true := by first | (simp [plainName, overriddenIn]; done) | decide +kernel
theorem ef_0 (m : MethodId) (x0 : Int64) (x1 : Int64) (x2 : Int32) : entryFrame m #[(.long x0), (.long x1), (.int x2)] maxLocals = mkF m 0 #[.val (.long x0), .second, .val (.long x1), .second, .val (.int x2), .unset, .unset, .unset, .unset, .unset, .unset, .unset, .unset, .unset, .unset, .unset, .unset, .unset, .unset, .unset, .unset] [] := by first | (simp [entryFrame, mkF, argsToLocals, Value.category, maxLocals]; done) | rfl
def Q0 (Z : State) (p1 : Int64) (p2 : Int64) (p3 : Int32) (h0 : Heap) (n0 : Nat) (v : Option Value) (h : Heap) (L : List Loc) : Prop := v = some (.int 1) ∧ Fr n0 L
set_option maxRecDepth 65536 in
set_option maxHeartbeats 40000000 in
theorem rm0 (l : Launch) (Z : State) (a0 : Array Value) (hw : ∀ d ∈ tables_1, d.before a0 Z = true) (ws : List Jvm.Cond) (p1 : Int64) (p2 : Int64) (p3 : Int32) (h0 : Heap) (n0 : Nat) (Z0 : n0 ≤ h0.size) :
    MetFree l x (head1 (Jvm.Cond.code x code maxLocals ret :: ws) room_1) (fun a_ U => a_ = #[(.long p1), (.long p2), (.int p3)] ∧ Z.Warmed39 U.vm ∧ U.heap = h0) (fun _ _ _ _ _ => True) (fun _ U o U' => ∃ v L, o = .returned v ∧ Q0 Z p1 p2 p3 h0 n0 v U'.heap L ∧ FrameEnd U o U' L 0 0) := by
  refine MetFree.of_bodySF (plainFor_of_name pn_0) hisR ?_
  intro p e s m args below meth c s₁ Bd hml0 hP0 hK
  obtain ⟨rfl, hZ, hh⟩ := hP0
  have hx := Bd.exec
  have hby := Bd.bytes
  have hml : c.maxLocals = 21 := hml0
  have hown : s.vm.findClass "com/example/fieldroster/fieldroster/util/DecimalsFarAbovePinLaw" = some m.cls := findClass_of_methodNamed Bd.named
  have hnm := (name_of_methodNamed Bd.named Bd.method).1
  have X0 : Stand p l e room_1 s m #[(.long p1), (.long p2), (.int p3)] below meth c s₁ [] 0 0 := Stand.of_body Bd
  have e0 : s₁.heap = h0 := by rw [← hh, Bd.state]; rfl
  have N0 := Fr.nil n0
  have hlk : meth.locks = false := BodyLoose.notSynchronized Bd
  refine Go.start (P₀ := fun s₂ o => ∃ v L, o = .returned v ∧ Q0 Z p1 p2 p3 h0 n0 v s₂.heap L ∧ FrameEnd s o s₂ L 0 0) (congrArg s₁.setTop (ef_0 m p1 p2 p3)) ?_
  intro P hP
  show Go p.tables e below P (s₁.setTop (mkF m 0 #[.val (.long p1), .second, .val (.long p2), .second, .val (.int p3), .unset, .unset, .unset, .unset, .unset, .unset, .unset, .unset, .unset, .unset, .unset, .unset, .unset, .unset, .unset, .unset] []))
  refine Go.step (fun t k => XS.lloadN X0.here hx rfl (hb hby at_0) rfl  k) ?_
  show Go p.tables e below P (s₁.setTop (mkF m 1 #[.val (.long p1), .second, .val (.long p2), .second, .val (.int p3), .unset, .unset, .unset, .unset, .unset, .unset, .unset, .unset, .unset, .unset, .unset, .unset, .unset, .unset, .unset, .unset] [(.long p1)]))
  refine Go.step (fun t k => X0.ldc2Long hx hown (mvT hZ (hw _ (List.mem_of_getElem? (i := 0) rfl))) (g := (mkF m 1 #[.val (.long p1), .second, .val (.long p2), .second, .val (.int p3), .unset, .unset, .unset, .unset, .unset, .unset, .unset, .unset, .unset, .unset, .unset, .unset, .unset, .unset, .unset, .unset] [(.long p1)])) rfl (hb hby at_1) t k) ?_
  show Go p.tables e below P (s₁.setTop (mkF m 4 #[.val (.long p1), .second, .val (.long p2), .second, .val (.int p3), .unset, .unset, .unset, .unset, .unset, .unset, .unset, .unset, .unset, .unset, .unset, .unset, .unset, .unset, .unset, .unset] [(.long (17179869183 : Int64)), (.long p1)]))
  obtain ⟨j4, hj4⟩ : ∃ z : Int64, p1 &&& (17179869183 : Int64) = z := ⟨_, rfl⟩
  refine Go.step (fun t k => land_v X0.here hx rfl (hb hby at_4) rfl  hj4 k) ?_
  show Go p.tables e below P (s₁.setTop (mkF m 5 #[.val (.long p1), .second, .val (.long p2), .second, .val (.int p3), .unset, .unset, .unset, .unset, .unset, .unset, .unset, .unset, .unset, .unset, .unset, .unset, .unset, .unset, .unset, .unset] [(.long j4)]))
  refine Go.step (fun t k => XS.lstore X0.here hx rfl (hb hby at_5) rfl (l' := #[.val (.long p1), .second, .val (.long p2), .second, .val (.int p3), .val (.long j4), .second, .unset, .unset, .unset, .unset, .unset, .unset, .unset, .unset, .unset, .unset, .unset, .unset, .unset, .unset]) rfl k) ?_
  show Go p.tables e below P (s₁.setTop (mkF m 7 #[.val (.long p1), .second, .val (.long p2), .second, .val (.int p3), .val (.long j4), .second, .unset, .unset, .unset, .unset, .unset, .unset, .unset, .unset, .unset, .unset, .unset, .unset, .unset, .unset] []))
  refine Go.step (fun t k => XS.lloadN X0.here hx rfl (hb hby at_7) rfl  k) ?_
  show Go p.tables e below P (s₁.setTop (mkF m 8 #[.val (.long p1), .second, .val (.long p2), .second, .val (.int p3), .val (.long j4), .second, .unset, .unset, .unset, .unset, .unset, .unset, .unset, .unset, .unset, .unset, .unset, .unset, .unset, .unset] [(.long p2)]))
  refine Go.step (fun t k => X0.ldc2Long hx hown (mvT hZ (hw _ (List.mem_of_getElem? (i := 1) rfl))) (g := (mkF m 8 #[.val (.long p1), .second, .val (.long p2), .second, .val (.int p3), .val (.long j4), .second, .unset, .unset, .unset, .unset, .unset, .unset, .unset, .unset, .unset, .unset, .unset, .unset, .unset, .unset] [(.long p2)])) rfl (hb hby at_8) t k) ?_
  show Go p.tables e below P (s₁.setTop (mkF m 11 #[.val (.long p1), .second, .val (.long p2), .second, .val (.int p3), .val (.long j4), .second, .unset, .unset, .unset, .unset, .unset, .unset, .unset, .unset, .unset, .unset, .unset, .unset, .unset, .unset] [(.long (34359738367 : Int64)), (.long p2)]))
  obtain ⟨j11, hj11⟩ : ∃ z : Int64, p2 &&& (34359738367 : Int64) = z := ⟨_, rfl⟩
  refine Go.step (fun t k => land_v X0.here hx rfl (hb hby at_11) rfl  hj11 k) ?_
  show Go p.tables e below P (s₁.setTop (mkF m 12 #[.val (.long p1), .second, .val (.long p2), .second, .val (.int p3), .val (.long j4), .second, .unset, .unset, .unset, .unset, .unset, .unset, .unset, .unset, .unset, .unset, .unset, .unset, .unset, .unset] [(.long j11)]))
  refine Go.step (fun t k => X0.ldc2Long hx hown (mvT hZ (hw _ (List.mem_of_getElem? (i := 2) rfl))) (g := (mkF m 12 #[.val (.long p1), .second, .val (.long p2), .second, .val (.int p3), .val (.long j4), .second, .unset, .unset, .unset, .unset, .unset, .unset, .unset, .unset, .unset, .unset, .unset, .unset, .unset, .unset] [(.long j11)])) rfl (hb hby at_12) t k) ?_
  show Go p.tables e below P (s₁.setTop (mkF m 15 #[.val (.long p1), .second, .val (.long p2), .second, .val (.int p3), .val (.long j4), .second, .unset, .unset, .unset, .unset, .unset, .unset, .unset, .unset, .unset, .unset, .unset, .unset, .unset, .unset] [(.long (17179869184 : Int64)), (.long j11)]))
  obtain ⟨j15, hj15⟩ : ∃ z : Int64, j11 - (17179869184 : Int64) = z := ⟨_, rfl⟩
  refine Go.step (fun t k => lsub_v X0.here hx rfl (hb hby at_15) rfl  hj15 k) ?_
  show Go p.tables e below P (s₁.setTop (mkF m 16 #[.val (.long p1), .second, .val (.long p2), .second, .val (.int p3), .val (.long j4), .second, .unset, .unset, .unset, .unset, .unset, .unset, .unset, .unset, .unset, .unset, .unset, .unset, .unset, .unset] [(.long j15)]))
  refine Go.step (fun t k => XS.lstore X0.here hx rfl (hb hby at_16) rfl (l' := #[.val (.long p1), .second, .val (.long p2), .second, .val (.int p3), .val (.long j4), .second, .val (.long j15), .second, .unset, .unset, .unset, .unset, .unset, .unset, .unset, .unset, .unset, .unset, .unset, .unset]) rfl k) ?_
  show Go p.tables e below P (s₁.setTop (mkF m 18 #[.val (.long p1), .second, .val (.long p2), .second, .val (.int p3), .val (.long j4), .second, .val (.long j15), .second, .unset, .unset, .unset, .unset, .unset, .unset, .unset, .unset, .unset, .unset, .unset, .unset] []))
  refine Go.step (fun t k => XS.iload X0.here hx rfl (hb hby at_18) rfl  k) ?_
  show Go p.tables e below P (s₁.setTop (mkF m 20 #[.val (.long p1), .second, .val (.long p2), .second, .val (.int p3), .val (.long j4), .second, .val (.long j15), .second, .unset, .unset, .unset, .unset, .unset, .unset, .unset, .unset, .unset, .unset, .unset, .unset] [(.int p3)]))
  refine Go.step (fun t k => XS.bipush X0.here hx rfl (hb hby at_20) k) ?_
  show Go p.tables e below P (s₁.setTop (mkF m 22 #[.val (.long p1), .second, .val (.long p2), .second, .val (.int p3), .val (.long j4), .second, .val (.long j15), .second, .unset, .unset, .unset, .unset, .unset, .unset, .unset, .unset, .unset, .unset, .unset, .unset] [(.int (31 : Int32)), (.int p3)]))
  obtain ⟨i22, hi22⟩ : ∃ z : Int32, p3 &&& (31 : Int32) = z := ⟨_, rfl⟩
  refine Go.step (fun t k => iand_v X0.here hx rfl (hb hby at_22) rfl  hi22 k) ?_
  show Go p.tables e below P (s₁.setTop (mkF m 23 #[.val (.long p1), .second, .val (.long p2), .second, .val (.int p3), .val (.long j4), .second, .val (.long j15), .second, .unset, .unset, .unset, .unset, .unset, .unset, .unset, .unset, .unset, .unset, .unset, .unset] [(.int i22)]))
  refine Go.step (fun t k => XS.istore X0.here hx rfl (hb hby at_23) rfl (l' := #[.val (.long p1), .second, .val (.long p2), .second, .val (.int p3), .val (.long j4), .second, .val (.long j15), .second, .val (.int i22), .unset, .unset, .unset, .unset, .unset, .unset, .unset, .unset, .unset, .unset, .unset]) rfl k) ?_
  show Go p.tables e below P (s₁.setTop (mkF m 25 #[.val (.long p1), .second, .val (.long p2), .second, .val (.int p3), .val (.long j4), .second, .val (.long j15), .second, .val (.int i22), .unset, .unset, .unset, .unset, .unset, .unset, .unset, .unset, .unset, .unset, .unset] []))
  refine Go.step (fun t k => XS.lconst X0.here hx rfl (hb hby at_25) k) ?_
  show Go p.tables e below P (s₁.setTop (mkF m 26 #[.val (.long p1), .second, .val (.long p2), .second, .val (.int p3), .val (.long j4), .second, .val (.long j15), .second, .val (.int i22), .unset, .unset, .unset, .unset, .unset, .unset, .unset, .unset, .unset, .unset, .unset] [(.long (1 : Int64))]))
  refine Go.step (fun t k => XS.iload X0.here hx rfl (hb hby at_26) rfl  k) ?_
  show Go p.tables e below P (s₁.setTop (mkF m 28 #[.val (.long p1), .second, .val (.long p2), .second, .val (.int p3), .val (.long j4), .second, .val (.long j15), .second, .val (.int i22), .unset, .unset, .unset, .unset, .unset, .unset, .unset, .unset, .unset, .unset, .unset] [(.int i22), (.long (1 : Int64))]))
  obtain ⟨j28, hj28⟩ : ∃ z : Int64, ((1 : Int64) <<< (i22 &&& 0x3f).toInt64) = z := ⟨_, rfl⟩
  refine Go.step (fun t k => lshl_v X0.here hx rfl (hb hby at_28) rfl  hj28 k) ?_
  show Go p.tables e below P (s₁.setTop (mkF m 29 #[.val (.long p1), .second, .val (.long p2), .second, .val (.int p3), .val (.long j4), .second, .val (.long j15), .second, .val (.int i22), .unset, .unset, .unset, .unset, .unset, .unset, .unset, .unset, .unset, .unset, .unset] [(.long j28)]))
  refine Go.step (fun t k => XS.lstore X0.here hx rfl (hb hby at_29) rfl (l' := #[.val (.long p1), .second, .val (.long p2), .second, .val (.int p3), .val (.long j4), .second, .val (.long j15), .second, .val (.int i22), .val (.long j28), .second, .unset, .unset, .unset, .unset, .unset, .unset, .unset, .unset, .unset]) rfl k) ?_
  show Go p.tables e below P (s₁.setTop (mkF m 31 #[.val (.long p1), .second, .val (.long p2), .second, .val (.int p3), .val (.long j4), .second, .val (.long j15), .second, .val (.int i22), .val (.long j28), .second, .unset, .unset, .unset, .unset, .unset, .unset, .unset, .unset, .unset] []))
  have f4 := c_maskL p1 (17179869183 : Int64) 34 (by decide) rfl; rw [hj4] at f4
  have ba : 0 ≤ j4.toInt ∧ j4.toInt < 17179869184 := by omega
  have f11 := c_maskL p2 (34359738367 : Int64) 35 (by decide) rfl; rw [hj11] at f11
  have E1 : (17179869184 : Int64).toInt = 17179869184 := rfl
  have f15 := c_lsub j11 (17179869184 : Int64); rw [hj15, E1] at f15
  have g15 := rng64 j15
  have bb : -17179869184 ≤ j15.toInt ∧ j15.toInt < 17179869184 := by omega
  have f22 := c_mask p3 (31 : Int32) 5 (by decide) rfl; rw [hi22] at f22
  have b22 : 0 ≤ i22.toInt ∧ i22.toInt < 32 := by omega
  have t22 := tn32 b22.1
  obtain ⟨k_, hk_⟩ : ∃ z : Nat, i22.toBitVec.toNat % 64 = z := ⟨_, rfl⟩
  have bk : k_ ≤ 31 := by omega
  have f28 := c_lshl (1 : Int64) i22 k_ hk_; rw [hj28] at f28
  have g28 := rng64 j28
  have E2 : (1 : Int64).toInt = 1 := rfl
  rw [E2] at f28
  have hD : 1 ≤ 2 ^ k_ ∧ 2 ^ k_ ≤ 2147483648 := ⟨Nat.one_le_two_pow, Nat.pow_le_pow_right (n := 2) (by decide) bk⟩
  have v28 : j28.toInt = ((2 ^ k_ : Nat) : Int) := by omega
  refine Go.step (fun t k => XS.lload X0.here hx rfl (hb hby at_31) rfl  k) ?_
  show Go p.tables e below P (s₁.setTop (mkF m 33 #[.val (.long p1), .second, .val (.long p2), .second, .val (.int p3), .val (.long j4), .second, .val (.long j15), .second, .val (.int i22), .val (.long j28), .second, .unset, .unset, .unset, .unset, .unset, .unset, .unset, .unset, .unset] [(.long j4)]))
  obtain ⟨d33, hd33⟩ : ∃ z : UInt64, FP.l2d j4 = z := ⟨_, rfl⟩
  refine Go.step (fun t k => XS.l2dS X0.here hx rfl (hb hby at_33) rfl hd33 k) ?_
  show Go p.tables e below P (s₁.setTop (mkF m 34 #[.val (.long p1), .second, .val (.long p2), .second, .val (.int p3), .val (.long j4), .second, .val (.long j15), .second, .val (.int i22), .val (.long j28), .second, .unset, .unset, .unset, .unset, .unset, .unset, .unset, .unset, .unset] [(.double d33)]))
  have qa := l2d_e (x := j4) (by omega); rw [hd33] at qa
  refine Go.step (fun t k => XS.lload X0.here hx rfl (hb hby at_34) rfl  k) ?_
  show Go p.tables e below P (s₁.setTop (mkF m 36 #[.val (.long p1), .second, .val (.long p2), .second, .val (.int p3), .val (.long j4), .second, .val (.long j15), .second, .val (.int i22), .val (.long j28), .second, .unset, .unset, .unset, .unset, .unset, .unset, .unset, .unset, .unset] [(.long j28), (.double d33)]))
  obtain ⟨d36, hd36⟩ : ∃ z : UInt64, FP.l2d j28 = z := ⟨_, rfl⟩
  refine Go.step (fun t k => XS.l2dS X0.here hx rfl (hb hby at_36) rfl hd36 k) ?_
  show Go p.tables e below P (s₁.setTop (mkF m 37 #[.val (.long p1), .second, .val (.long p2), .second, .val (.int p3), .val (.long j4), .second, .val (.long j15), .second, .val (.int i22), .val (.long j28), .second, .unset, .unset, .unset, .unset, .unset, .unset, .unset, .unset, .unset] [(.double d36), (.double d33)]))
  have qd := l2d_e (x := j28) (by omega); rw [hd36, v28] at qd
  have qd' : DE (1074 + k_) 1 d36 := DB.up (by rw [Int.one_mul]; exact qd)
  obtain ⟨vd, hvd⟩ : ∃ z : UInt64, FP.ddiv d33 d36 = z := ⟨_, rfl⟩
  have qv := div_e (k := 1074 - k_) (n := j4.toInt) qa qd' (by decide) (by omega) (Int.mul_one _) (by omega) (by omega)
  rw [hvd] at qv
  refine Go.step (fun t k => XS.ddivS X0.here hx rfl (hb hby at_37) rfl (hvd ▸ qv.nn) hvd k) ?_
  show Go p.tables e below P (s₁.setTop (mkF m 38 #[.val (.long p1), .second, .val (.long p2), .second, .val (.int p3), .val (.long j4), .second, .val (.long j15), .second, .val (.int i22), .val (.long j28), .second, .unset, .unset, .unset, .unset, .unset, .unset, .unset, .unset, .unset] [(.double vd)]))
  refine Go.step (fun t k => XS.dstore X0.here hx rfl (hb hby at_38) rfl (l' := #[.val (.long p1), .second, .val (.long p2), .second, .val (.int p3), .val (.long j4), .second, .val (.long j15), .second, .val (.int i22), .val (.long j28), .second, .val (.double vd), .second, .unset, .unset, .unset, .unset, .unset, .unset, .unset]) rfl k) ?_
  show Go p.tables e below P (s₁.setTop (mkF m 40 #[.val (.long p1), .second, .val (.long p2), .second, .val (.int p3), .val (.long j4), .second, .val (.long j15), .second, .val (.int i22), .val (.long j28), .second, .val (.double vd), .second, .unset, .unset, .unset, .unset, .unset, .unset, .unset] []))
  refine Go.step (fun t k => XS.lload X0.here hx rfl (hb hby at_40) rfl  k) ?_
  show Go p.tables e below P (s₁.setTop (mkF m 42 #[.val (.long p1), .second, .val (.long p2), .second, .val (.int p3), .val (.long j4), .second, .val (.long j15), .second, .val (.int i22), .val (.long j28), .second, .val (.double vd), .second, .unset, .unset, .unset, .unset, .unset, .unset, .unset] [(.long j15)]))
  obtain ⟨d42, hd42⟩ : ∃ z : UInt64, FP.l2d j15 = z := ⟨_, rfl⟩
  refine Go.step (fun t k => XS.l2dS X0.here hx rfl (hb hby at_42) rfl hd42 k) ?_
  show Go p.tables e below P (s₁.setTop (mkF m 43 #[.val (.long p1), .second, .val (.long p2), .second, .val (.int p3), .val (.long j4), .second, .val (.long j15), .second, .val (.int i22), .val (.long j28), .second, .val (.double vd), .second, .unset, .unset, .unset, .unset, .unset, .unset, .unset] [(.double d42)]))
  have qb := l2d_e (x := j15) (by omega); rw [hd42] at qb
  refine Go.step (fun t k => XS.lload X0.here hx rfl (hb hby at_43) rfl  k) ?_
  show Go p.tables e below P (s₁.setTop (mkF m 45 #[.val (.long p1), .second, .val (.long p2), .second, .val (.int p3), .val (.long j4), .second, .val (.long j15), .second, .val (.int i22), .val (.long j28), .second, .val (.double vd), .second, .unset, .unset, .unset, .unset, .unset, .unset, .unset] [(.long j28), (.double d42)]))
  obtain ⟨d45, hd45⟩ : ∃ z : UInt64, FP.l2d j28 = z := ⟨_, rfl⟩
  refine Go.step (fun t k => XS.l2dS X0.here hx rfl (hb hby at_45) rfl hd45 k) ?_
  show Go p.tables e below P (s₁.setTop (mkF m 46 #[.val (.long p1), .second, .val (.long p2), .second, .val (.int p3), .val (.long j4), .second, .val (.long j15), .second, .val (.int i22), .val (.long j28), .second, .val (.double vd), .second, .unset, .unset, .unset, .unset, .unset, .unset, .unset] [(.double d45), (.double d42)]))
  have qd2 := l2d_e (x := j28) (by omega); rw [hd45, v28] at qd2
  have qd2' : DE (1074 + k_) 1 d45 := DB.up (by rw [Int.one_mul]; exact qd2)
  obtain ⟨ld, hld⟩ : ∃ z : UInt64, FP.ddiv d42 d45 = z := ⟨_, rfl⟩
  have ql := div_e (k := 1074 - k_) (n := j15.toInt) qb qd2' (by decide) (by omega) (Int.mul_one _) (by omega) (by omega)
  rw [hld] at ql
  refine Go.step (fun t k => XS.ddivS X0.here hx rfl (hb hby at_46) rfl (hld ▸ ql.nn) hld k) ?_
  show Go p.tables e below P (s₁.setTop (mkF m 47 #[.val (.long p1), .second, .val (.long p2), .second, .val (.int p3), .val (.long j4), .second, .val (.long j15), .second, .val (.int i22), .val (.long j28), .second, .val (.double vd), .second, .unset, .unset, .unset, .unset, .unset, .unset, .unset] [(.double ld)]))
  obtain ⟨n1, n2, x_, y_, hcm, c1, c2, c3⟩ := far bk ba bb qv ql
  refine Go.step (fun t k => XS.dstore X0.here hx rfl (hb hby at_47) rfl (l' := #[.val (.long p1), .second, .val (.long p2), .second, .val (.int p3), .val (.long j4), .second, .val (.long j15), .second, .val (.int i22), .val (.long j28), .second, .val (.double vd), .second, .val (.double ld), .second, .unset, .unset, .unset, .unset, .unset]) rfl k) ?_
  show Go p.tables e below P (s₁.setTop (mkF m 49 #[.val (.long p1), .second, .val (.long p2), .second, .val (.int p3), .val (.long j4), .second, .val (.long j15), .second, .val (.int i22), .val (.long j28), .second, .val (.double vd), .second, .val (.double ld), .second, .unset, .unset, .unset, .unset, .unset] []))
  refine Go.step (fun t k => XS.dload X0.here hx rfl (hb hby at_49) rfl  k) ?_
  show Go p.tables e below P (s₁.setTop (mkF m 51 #[.val (.long p1), .second, .val (.long p2), .second, .val (.int p3), .val (.long j4), .second, .val (.long j15), .second, .val (.int i22), .val (.long j28), .second, .val (.double vd), .second, .val (.double ld), .second, .unset, .unset, .unset, .unset, .unset] [(.double vd)]))
  refine Go.step (fun t k => XS.dload X0.here hx rfl (hb hby at_51) rfl  k) ?_
  show Go p.tables e below P (s₁.setTop (mkF m 53 #[.val (.long p1), .second, .val (.long p2), .second, .val (.int p3), .val (.long j4), .second, .val (.long j15), .second, .val (.int i22), .val (.long j28), .second, .val (.double vd), .second, .val (.double ld), .second, .unset, .unset, .unset, .unset, .unset] [(.double ld), (.double vd)]))
  obtain ⟨_, _, ⟨T_1, L_1, k_1, n_1⟩, -, X_1, ⟨Lc_1, hQ_1, l_1, y_1, z_1⟩, st_1⟩ := Jvm.LawKit.callS X0 hx (y := (⟨"com/example/fieldroster/fieldroster/util/Decimals", "farAbove", "(DD)Z"⟩ : MethodName)) hown (mvT hZ (hw _ (List.mem_of_getElem? (i := 3) rfl))) (mvT hZ (hw _ (List.mem_of_getElem? (i := 4) rfl))) (mvT hZ (hw _ (List.mem_of_getElem? (i := 5) rfl))) (mvT hZ (hw _ (List.mem_of_getElem? (i := 6) rfl))) (by decide) (backOf (W := 0) (rm1 l Z a0 hw [] vd ld x_ y_ h0 n0 Z0 n1 n2 hcm) hZ (hw _ (List.mem_of_getElem? (i := 6) rfl)) (hw _ (List.mem_of_getElem? (i := 5) rfl)) (by decide) (by decide)) (g := (mkF m 53 #[.val (.long p1), .second, .val (.long p2), .second, .val (.int p3), .val (.long j4), .second, .val (.long j15), .second, .val (.int i22), .val (.long j28), .second, .val (.double vd), .second, .val (.double ld), .second, .unset, .unset, .unset, .unset, .unset] [(.double ld), (.double vd)])) rfl (by rw [hml]; rfl) (argsL := [(.double vd), (.double ld)]) (rest := []) (lenOf pd_0 rfl) rfl (by show 2 * 0 + _ ≤ _; exact Nat.le_of_eq rfl) (hb hby at_53) (fun _ _ => ⟨rfl, e0, (by decide : 0 + 0 ≤ _), (by decide : 0 + 0 ≤ _)⟩)
  dsimp only [Pt.U, Pt.locs, Pt.cells, Pt.slots] at X_1 l_1 y_1 z_1 st_1 hQ_1
  subst l_1 y_1 z_1
  obtain ⟨r_1, rfl, hr_1, N_1q, eh_1⟩ := hQ_1
  have N_1 := Fr.app N0 N_1q
  refine Go.step (fun t k => st_1 t k) ?_
  show Go p.tables e below P (T_1.setTop (mkF m 56 #[.val (.long p1), .second, .val (.long p2), .second, .val (.int p3), .val (.long j4), .second, .val (.long j15), .second, .val (.int i22), .val (.long j28), .second, .val (.double vd), .second, .val (.double ld), .second, .unset, .unset, .unset, .unset, .unset] [(.int r_1)]))
  refine Go.step (fun t k => XS.istore X_1.here hx rfl (hb hby at_56) rfl (l' := #[.val (.long p1), .second, .val (.long p2), .second, .val (.int p3), .val (.long j4), .second, .val (.long j15), .second, .val (.int i22), .val (.long j28), .second, .val (.double vd), .second, .val (.double ld), .second, .val (.int r_1), .unset, .unset, .unset, .unset]) rfl k) ?_
  show Go p.tables e below P (T_1.setTop (mkF m 58 #[.val (.long p1), .second, .val (.long p2), .second, .val (.int p3), .val (.long j4), .second, .val (.long j15), .second, .val (.int i22), .val (.long j28), .second, .val (.double vd), .second, .val (.double ld), .second, .val (.int r_1), .unset, .unset, .unset, .unset] []))
  refine Go.step (fun t k => XS.lload X_1.here hx rfl (hb hby at_58) rfl  k) ?_
  show Go p.tables e below P (T_1.setTop (mkF m 60 #[.val (.long p1), .second, .val (.long p2), .second, .val (.int p3), .val (.long j4), .second, .val (.long j15), .second, .val (.int i22), .val (.long j28), .second, .val (.double vd), .second, .val (.double ld), .second, .val (.int r_1), .unset, .unset, .unset, .unset] [(.long j4)]))
  refine Go.step (fun t k => XS.lload X_1.here hx rfl (hb hby at_60) rfl  k) ?_
  show Go p.tables e below P (T_1.setTop (mkF m 62 #[.val (.long p1), .second, .val (.long p2), .second, .val (.int p3), .val (.long j4), .second, .val (.long j15), .second, .val (.int i22), .val (.long j28), .second, .val (.double vd), .second, .val (.double ld), .second, .val (.int r_1), .unset, .unset, .unset, .unset] [(.long j15), (.long j4)]))
  obtain ⟨j62, hj62⟩ : ∃ z : Int64, j4 - j15 = z := ⟨_, rfl⟩
  refine Go.step (fun t k => lsub_v X_1.here hx rfl (hb hby at_62) rfl  hj62 k) ?_
  show Go p.tables e below P (T_1.setTop (mkF m 63 #[.val (.long p1), .second, .val (.long p2), .second, .val (.int p3), .val (.long j4), .second, .val (.long j15), .second, .val (.int i22), .val (.long j28), .second, .val (.double vd), .second, .val (.double ld), .second, .val (.int r_1), .unset, .unset, .unset, .unset] [(.long j62)]))
  refine Go.step (fun t k => XS.lstore X_1.here hx rfl (hb hby at_63) rfl (l' := #[.val (.long p1), .second, .val (.long p2), .second, .val (.int p3), .val (.long j4), .second, .val (.long j15), .second, .val (.int i22), .val (.long j28), .second, .val (.double vd), .second, .val (.double ld), .second, .val (.int r_1), .val (.long j62), .second, .unset, .unset]) rfl k) ?_
  show Go p.tables e below P (T_1.setTop (mkF m 65 #[.val (.long p1), .second, .val (.long p2), .second, .val (.int p3), .val (.long j4), .second, .val (.long j15), .second, .val (.int i22), .val (.long j28), .second, .val (.double vd), .second, .val (.double ld), .second, .val (.int r_1), .val (.long j62), .second, .unset, .unset] []))
  have f62 := c_lsub j4 j15; rw [hj62] at f62
  have g62 := rng64 j62
  have v62 : j62.toInt = j4.toInt - j15.toInt := by omega
  refine Go.step (fun t k => XS.lload X_1.here hx rfl (hb hby at_65) rfl  k) ?_
  show Go p.tables e below P (T_1.setTop (mkF m 67 #[.val (.long p1), .second, .val (.long p2), .second, .val (.int p3), .val (.long j4), .second, .val (.long j15), .second, .val (.int i22), .val (.long j28), .second, .val (.double vd), .second, .val (.double ld), .second, .val (.int r_1), .val (.long j62), .second, .unset, .unset] [(.long j62)]))
  refine Go.step (fun t k => XS.lconst X_1.here hx rfl (hb hby at_67) k) ?_
  show Go p.tables e below P (T_1.setTop (mkF m 68 #[.val (.long p1), .second, .val (.long p2), .second, .val (.int p3), .val (.long j4), .second, .val (.long j15), .second, .val (.int i22), .val (.long j28), .second, .val (.double vd), .second, .val (.double ld), .second, .val (.int r_1), .val (.long j62), .second, .unset, .unset] [(.long (0 : Int64)), (.long j62)]))
  refine Go.step (fun t k => XS.lcmp X_1.here hx rfl (hb hby at_68) rfl k) ?_
  show Go p.tables e below P (T_1.setTop (mkF m 69 #[.val (.long p1), .second, .val (.long p2), .second, .val (.int p3), .val (.long j4), .second, .val (.long j15), .second, .val (.int i22), .val (.long j28), .second, .val (.double vd), .second, .val (.double ld), .second, .val (.int r_1), .val (.long j62), .second, .unset, .unset] [(.int (lcmpW j62 (0 : Int64)))]))
  by_cases hc69 : (0 : Int) < j62.toInt
  · refine Go.step (fun t k => XS.ifYes X_1.here hx rfl (pc0 := 69) (pc' := 83) rfl (hb hby at_69) rfl (lcY (cd := .gt) hc69) (by decide) (by decide) k) ?_
    show Go p.tables e below P (T_1.setTop (mkF m 83 #[.val (.long p1), .second, .val (.long p2), .second, .val (.int p3), .val (.long j4), .second, .val (.long j15), .second, .val (.int i22), .val (.long j28), .second, .val (.double vd), .second, .val (.double ld), .second, .val (.int r_1), .val (.long j62), .second, .unset, .unset] []))
    refine Go.step (fun t k => X_1.ldc2Long hx hown (mvT hZ (hw _ (List.mem_of_getElem? (i := 9) rfl))) (g := (mkF m 83 #[.val (.long p1), .second, .val (.long p2), .second, .val (.int p3), .val (.long j4), .second, .val (.long j15), .second, .val (.int i22), .val (.long j28), .second, .val (.double vd), .second, .val (.double ld), .second, .val (.int r_1), .val (.long j62), .second, .unset, .unset] [])) rfl (hb hby at_83) t k) ?_
    show Go p.tables e below P (T_1.setTop (mkF m 86 #[.val (.long p1), .second, .val (.long p2), .second, .val (.int p3), .val (.long j4), .second, .val (.long j15), .second, .val (.int i22), .val (.long j28), .second, .val (.double vd), .second, .val (.double ld), .second, .val (.int r_1), .val (.long j62), .second, .unset, .unset] [(.long (100000000 : Int64))]))
    refine Go.step (fun t k => XS.lload X_1.here hx rfl (hb hby at_86) rfl  k) ?_
    show Go p.tables e below P (T_1.setTop (mkF m 88 #[.val (.long p1), .second, .val (.long p2), .second, .val (.int p3), .val (.long j4), .second, .val (.long j15), .second, .val (.int i22), .val (.long j28), .second, .val (.double vd), .second, .val (.double ld), .second, .val (.int r_1), .val (.long j62), .second, .unset, .unset] [(.long j62), (.long (100000000 : Int64))]))
    obtain ⟨j88, hj88⟩ : ∃ z : Int64, (100000000 : Int64) * j62 = z := ⟨_, rfl⟩
    refine Go.step (fun t k => lmul_v X_1.here hx rfl (hb hby at_88) rfl  hj88 k) ?_
    show Go p.tables e below P (T_1.setTop (mkF m 89 #[.val (.long p1), .second, .val (.long p2), .second, .val (.int p3), .val (.long j4), .second, .val (.long j15), .second, .val (.int i22), .val (.long j28), .second, .val (.double vd), .second, .val (.double ld), .second, .val (.int r_1), .val (.long j62), .second, .unset, .unset] [(.long j88)]))
    refine Go.step (fun t k => XS.lload X_1.here hx rfl (hb hby at_89) rfl  k) ?_
    show Go p.tables e below P (T_1.setTop (mkF m 91 #[.val (.long p1), .second, .val (.long p2), .second, .val (.int p3), .val (.long j4), .second, .val (.long j15), .second, .val (.int i22), .val (.long j28), .second, .val (.double vd), .second, .val (.double ld), .second, .val (.int r_1), .val (.long j62), .second, .unset, .unset] [(.long j4), (.long j88)]))
    obtain ⟨j91, hj91⟩ : ∃ z : Int64, j88 - j4 = z := ⟨_, rfl⟩
    refine Go.step (fun t k => lsub_v X_1.here hx rfl (hb hby at_91) rfl  hj91 k) ?_
    show Go p.tables e below P (T_1.setTop (mkF m 92 #[.val (.long p1), .second, .val (.long p2), .second, .val (.int p3), .val (.long j4), .second, .val (.long j15), .second, .val (.int i22), .val (.long j28), .second, .val (.double vd), .second, .val (.double ld), .second, .val (.int r_1), .val (.long j62), .second, .unset, .unset] [(.long j91)]))
    refine Go.step (fun t k => XS.lload X_1.here hx rfl (hb hby at_92) rfl  k) ?_
    show Go p.tables e below P (T_1.setTop (mkF m 94 #[.val (.long p1), .second, .val (.long p2), .second, .val (.int p3), .val (.long j4), .second, .val (.long j15), .second, .val (.int i22), .val (.long j28), .second, .val (.double vd), .second, .val (.double ld), .second, .val (.int r_1), .val (.long j62), .second, .unset, .unset] [(.long j28), (.long j91)]))
    obtain ⟨j94, hj94⟩ : ∃ z : Int64, j91 - j28 = z := ⟨_, rfl⟩
    refine Go.step (fun t k => lsub_v X_1.here hx rfl (hb hby at_94) rfl  hj94 k) ?_
    show Go p.tables e below P (T_1.setTop (mkF m 95 #[.val (.long p1), .second, .val (.long p2), .second, .val (.int p3), .val (.long j4), .second, .val (.long j15), .second, .val (.int i22), .val (.long j28), .second, .val (.double vd), .second, .val (.double ld), .second, .val (.int r_1), .val (.long j62), .second, .unset, .unset] [(.long j94)]))
    refine Go.step (fun t k => XS.lstore X_1.here hx rfl (hb hby at_95) rfl (l' := #[.val (.long p1), .second, .val (.long p2), .second, .val (.int p3), .val (.long j4), .second, .val (.long j15), .second, .val (.int i22), .val (.long j28), .second, .val (.double vd), .second, .val (.double ld), .second, .val (.int r_1), .val (.long j62), .second, .val (.long j94), .second]) rfl k) ?_
    show Go p.tables e below P (T_1.setTop (mkF m 97 #[.val (.long p1), .second, .val (.long p2), .second, .val (.int p3), .val (.long j4), .second, .val (.long j15), .second, .val (.int i22), .val (.long j28), .second, .val (.double vd), .second, .val (.double ld), .second, .val (.int r_1), .val (.long j62), .second, .val (.long j94), .second] []))
    have E3 : (100000000 : Int64).toInt = 100000000 := rfl
    have f88 := c_lmul (100000000 : Int64) j62; rw [hj88, E3] at f88
    have g88 := rng64 j88
    have v88 : j88.toInt = 100000000 * j62.toInt := by omega
    have f91 := c_lsub j88 j4; rw [hj91] at f91
    have g91 := rng64 j91
    have f94 := c_lsub j91 j28; rw [hj94] at f94
    have g94 := rng64 j94
    have v94 : j94.toInt = 100000000 * (j4.toInt - j15.toInt) - j4.toInt - ((2 ^ k_ : Nat) : Int) := by omega
    refine Go.step (fun t k => XS.lload X_1.here hx rfl (hb hby at_97) rfl  k) ?_
    show Go p.tables e below P (T_1.setTop (mkF m 99 #[.val (.long p1), .second, .val (.long p2), .second, .val (.int p3), .val (.long j4), .second, .val (.long j15), .second, .val (.int i22), .val (.long j28), .second, .val (.double vd), .second, .val (.double ld), .second, .val (.int r_1), .val (.long j62), .second, .val (.long j94), .second] [(.long j94)]))
    refine Go.step (fun t k => X_1.ldc2Long hx hown (mvT hZ (hw _ (List.mem_of_getElem? (i := 10) rfl))) (g := (mkF m 99 #[.val (.long p1), .second, .val (.long p2), .second, .val (.int p3), .val (.long j4), .second, .val (.long j15), .second, .val (.int i22), .val (.long j28), .second, .val (.double vd), .second, .val (.double ld), .second, .val (.int r_1), .val (.long j62), .second, .val (.long j94), .second] [(.long j94)])) rfl (hb hby at_99) t k) ?_
    show Go p.tables e below P (T_1.setTop (mkF m 102 #[.val (.long p1), .second, .val (.long p2), .second, .val (.int p3), .val (.long j4), .second, .val (.long j15), .second, .val (.int i22), .val (.long j28), .second, .val (.double vd), .second, .val (.double ld), .second, .val (.int r_1), .val (.long j62), .second, .val (.long j94), .second] [(.long (-1000 : Int64)), (.long j94)]))
    refine Go.step (fun t k => XS.lcmp X_1.here hx rfl (hb hby at_102) rfl k) ?_
    show Go p.tables e below P (T_1.setTop (mkF m 103 #[.val (.long p1), .second, .val (.long p2), .second, .val (.int p3), .val (.long j4), .second, .val (.long j15), .second, .val (.int i22), .val (.long j28), .second, .val (.double vd), .second, .val (.double ld), .second, .val (.int r_1), .val (.long j62), .second, .val (.long j94), .second] [(.int (lcmpW j94 (-1000 : Int64)))]))
    by_cases hc103 : j94.toInt < (-1000 : Int)
    · refine Go.step (fun t k => XS.ifYes X_1.here hx rfl (pc0 := 103) (pc' := 117) rfl (hb hby at_103) rfl (lcY (cd := .lt) hc103) (by decide) (by decide) k) ?_
      show Go p.tables e below P (T_1.setTop (mkF m 117 #[.val (.long p1), .second, .val (.long p2), .second, .val (.int p3), .val (.long j4), .second, .val (.long j15), .second, .val (.int i22), .val (.long j28), .second, .val (.double vd), .second, .val (.double ld), .second, .val (.int r_1), .val (.long j62), .second, .val (.long j94), .second] []))
      refine Go.step (fun t k => XS.iload X_1.here hx rfl (hb hby at_117) rfl  k) ?_
      show Go p.tables e below P (T_1.setTop (mkF m 119 #[.val (.long p1), .second, .val (.long p2), .second, .val (.int p3), .val (.long j4), .second, .val (.long j15), .second, .val (.int i22), .val (.long j28), .second, .val (.double vd), .second, .val (.double ld), .second, .val (.int r_1), .val (.long j62), .second, .val (.long j94), .second] [(.int r_1)]))
      refine Go.step (fun t k => XS.lload X_1.here hx rfl (hb hby at_119) rfl  k) ?_
      show Go p.tables e below P (T_1.setTop (mkF m 121 #[.val (.long p1), .second, .val (.long p2), .second, .val (.int p3), .val (.long j4), .second, .val (.long j15), .second, .val (.int i22), .val (.long j28), .second, .val (.double vd), .second, .val (.double ld), .second, .val (.int r_1), .val (.long j62), .second, .val (.long j94), .second] [(.long j94), (.int r_1)]))
      refine Go.step (fun t k => XS.lconst X_1.here hx rfl (hb hby at_121) k) ?_
      show Go p.tables e below P (T_1.setTop (mkF m 122 #[.val (.long p1), .second, .val (.long p2), .second, .val (.int p3), .val (.long j4), .second, .val (.long j15), .second, .val (.int i22), .val (.long j28), .second, .val (.double vd), .second, .val (.double ld), .second, .val (.int r_1), .val (.long j62), .second, .val (.long j94), .second] [(.long (0 : Int64)), (.long j94), (.int r_1)]))
      refine Go.step (fun t k => XS.lcmp X_1.here hx rfl (hb hby at_122) rfl k) ?_
      show Go p.tables e below P (T_1.setTop (mkF m 123 #[.val (.long p1), .second, .val (.long p2), .second, .val (.int p3), .val (.long j4), .second, .val (.long j15), .second, .val (.int i22), .val (.long j28), .second, .val (.double vd), .second, .val (.double ld), .second, .val (.int r_1), .val (.long j62), .second, .val (.long j94), .second] [(.int (lcmpW j94 (0 : Int64))), (.int r_1)]))
      by_cases hc123 : j94.toInt ≤ (0 : Int)
      · refine Go.step (fun t k => XS.ifYes X_1.here hx rfl (pc0 := 123) (pc' := 130) rfl (hb hby at_123) rfl (lcY (cd := .le) hc123) (by decide) (by decide) k) ?_
        show Go p.tables e below P (T_1.setTop (mkF m 130 #[.val (.long p1), .second, .val (.long p2), .second, .val (.int p3), .val (.long j4), .second, .val (.long j15), .second, .val (.int i22), .val (.long j28), .second, .val (.double vd), .second, .val (.double ld), .second, .val (.int r_1), .val (.long j62), .second, .val (.long j94), .second] [(.int r_1)]))
        refine Go.step (fun t k => XS.iconst X_1.here hx rfl (hb hby at_130) k) ?_
        show Go p.tables e below P (T_1.setTop (mkF m 131 #[.val (.long p1), .second, .val (.long p2), .second, .val (.int p3), .val (.long j4), .second, .val (.long j15), .second, .val (.int i22), .val (.long j28), .second, .val (.double vd), .second, .val (.double ld), .second, .val (.int r_1), .val (.long j62), .second, .val (.long j94), .second] [(.int (0 : Int32)), (.int r_1)]))
        refine Go.step (fun t k => XS.icmpNo X_1.here hx rfl (hb hby at_131) rfl (icN (cd := .ne) (by omega : ¬ (¬ r_1.toInt = (0 : Int)))) k) ?_
        show Go p.tables e below P (T_1.setTop (mkF m 134 #[.val (.long p1), .second, .val (.long p2), .second, .val (.int p3), .val (.long j4), .second, .val (.long j15), .second, .val (.int i22), .val (.long j28), .second, .val (.double vd), .second, .val (.double ld), .second, .val (.int r_1), .val (.long j62), .second, .val (.long j94), .second] []))
        refine Go.step (fun t k => XS.iconst X_1.here hx rfl (hb hby at_134) k) ?_
        show Go p.tables e below P (T_1.setTop (mkF m 135 #[.val (.long p1), .second, .val (.long p2), .second, .val (.int p3), .val (.long j4), .second, .val (.long j15), .second, .val (.int i22), .val (.long j28), .second, .val (.double vd), .second, .val (.double ld), .second, .val (.int r_1), .val (.long j62), .second, .val (.long j94), .second] [(.int (1 : Int32))]))
        refine Go.step (fun t k => XS.goto X_1.here hx rfl (pc0 := 135) (pc' := 139) rfl (hb hby at_135) (by decide) (by decide) k) ?_
        show Go p.tables e below P (T_1.setTop (mkF m 139 #[.val (.long p1), .second, .val (.long p2), .second, .val (.int p3), .val (.long j4), .second, .val (.long j15), .second, .val (.int i22), .val (.long j28), .second, .val (.double vd), .second, .val (.double ld), .second, .val (.int r_1), .val (.long j62), .second, .val (.long j94), .second] [(.int (1 : Int32))]))
        exact retGo X_1 hx hP Bd.returns hlk rfl (Or.inl ⟨rfl, Or.inr (Or.inl rfl), _, rfl⟩) (hb hby at_139) (by decide) (by decide) (by rw [eh_1]; exact ⟨rfl, N_1⟩)
      · refine Go.step (fun t k => XS.ifNo X_1.here hx rfl (hb hby at_123) rfl (lcN (cd := .le) hc123) k) ?_
        show Go p.tables e below P (T_1.setTop (mkF m 126 #[.val (.long p1), .second, .val (.long p2), .second, .val (.int p3), .val (.long j4), .second, .val (.long j15), .second, .val (.int i22), .val (.long j28), .second, .val (.double vd), .second, .val (.double ld), .second, .val (.int r_1), .val (.long j62), .second, .val (.long j94), .second] [(.int r_1)]))
        refine Go.step (fun t k => XS.iconst X_1.here hx rfl (hb hby at_126) k) ?_
        show Go p.tables e below P (T_1.setTop (mkF m 127 #[.val (.long p1), .second, .val (.long p2), .second, .val (.int p3), .val (.long j4), .second, .val (.long j15), .second, .val (.int i22), .val (.long j28), .second, .val (.double vd), .second, .val (.double ld), .second, .val (.int r_1), .val (.long j62), .second, .val (.long j94), .second] [(.int (1 : Int32)), (.int r_1)]))
        refine Go.step (fun t k => XS.goto X_1.here hx rfl (pc0 := 127) (pc' := 131) rfl (hb hby at_127) (by decide) (by decide) k) ?_
        show Go p.tables e below P (T_1.setTop (mkF m 131 #[.val (.long p1), .second, .val (.long p2), .second, .val (.int p3), .val (.long j4), .second, .val (.long j15), .second, .val (.int i22), .val (.long j28), .second, .val (.double vd), .second, .val (.double ld), .second, .val (.int r_1), .val (.long j62), .second, .val (.long j94), .second] [(.int (1 : Int32)), (.int r_1)]))
        refine Go.step (fun t k => XS.icmpNo X_1.here hx rfl (hb hby at_131) rfl (icN (cd := .ne) (by omega : ¬ (¬ r_1.toInt = (1 : Int)))) k) ?_
        show Go p.tables e below P (T_1.setTop (mkF m 134 #[.val (.long p1), .second, .val (.long p2), .second, .val (.int p3), .val (.long j4), .second, .val (.long j15), .second, .val (.int i22), .val (.long j28), .second, .val (.double vd), .second, .val (.double ld), .second, .val (.int r_1), .val (.long j62), .second, .val (.long j94), .second] []))
        refine Go.step (fun t k => XS.iconst X_1.here hx rfl (hb hby at_134) k) ?_
        show Go p.tables e below P (T_1.setTop (mkF m 135 #[.val (.long p1), .second, .val (.long p2), .second, .val (.int p3), .val (.long j4), .second, .val (.long j15), .second, .val (.int i22), .val (.long j28), .second, .val (.double vd), .second, .val (.double ld), .second, .val (.int r_1), .val (.long j62), .second, .val (.long j94), .second] [(.int (1 : Int32))]))
        refine Go.step (fun t k => XS.goto X_1.here hx rfl (pc0 := 135) (pc' := 139) rfl (hb hby at_135) (by decide) (by decide) k) ?_
        show Go p.tables e below P (T_1.setTop (mkF m 139 #[.val (.long p1), .second, .val (.long p2), .second, .val (.int p3), .val (.long j4), .second, .val (.long j15), .second, .val (.int i22), .val (.long j28), .second, .val (.double vd), .second, .val (.double ld), .second, .val (.int r_1), .val (.long j62), .second, .val (.long j94), .second] [(.int (1 : Int32))]))
        exact retGo X_1 hx hP Bd.returns hlk rfl (Or.inl ⟨rfl, Or.inr (Or.inl rfl), _, rfl⟩) (hb hby at_139) (by decide) (by decide) (by rw [eh_1]; exact ⟨rfl, N_1⟩)
    · refine Go.step (fun t k => XS.ifNo X_1.here hx rfl (hb hby at_103) rfl (lcN (cd := .lt) hc103) k) ?_
      show Go p.tables e below P (T_1.setTop (mkF m 106 #[.val (.long p1), .second, .val (.long p2), .second, .val (.int p3), .val (.long j4), .second, .val (.long j15), .second, .val (.int i22), .val (.long j28), .second, .val (.double vd), .second, .val (.double ld), .second, .val (.int r_1), .val (.long j62), .second, .val (.long j94), .second] []))
      refine Go.step (fun t k => XS.lload X_1.here hx rfl (hb hby at_106) rfl  k) ?_
      show Go p.tables e below P (T_1.setTop (mkF m 108 #[.val (.long p1), .second, .val (.long p2), .second, .val (.int p3), .val (.long j4), .second, .val (.long j15), .second, .val (.int i22), .val (.long j28), .second, .val (.double vd), .second, .val (.double ld), .second, .val (.int r_1), .val (.long j62), .second, .val (.long j94), .second] [(.long j94)]))
      refine Go.step (fun t k => X_1.ldc2Long hx hown (mvT hZ (hw _ (List.mem_of_getElem? (i := 11) rfl))) (g := (mkF m 108 #[.val (.long p1), .second, .val (.long p2), .second, .val (.int p3), .val (.long j4), .second, .val (.long j15), .second, .val (.int i22), .val (.long j28), .second, .val (.double vd), .second, .val (.double ld), .second, .val (.int r_1), .val (.long j62), .second, .val (.long j94), .second] [(.long j94)])) rfl (hb hby at_108) t k) ?_
      show Go p.tables e below P (T_1.setTop (mkF m 111 #[.val (.long p1), .second, .val (.long p2), .second, .val (.int p3), .val (.long j4), .second, .val (.long j15), .second, .val (.int i22), .val (.long j28), .second, .val (.double vd), .second, .val (.double ld), .second, .val (.int r_1), .val (.long j62), .second, .val (.long j94), .second] [(.long (1000 : Int64)), (.long j94)]))
      refine Go.step (fun t k => XS.lcmp X_1.here hx rfl (hb hby at_111) rfl k) ?_
      show Go p.tables e below P (T_1.setTop (mkF m 112 #[.val (.long p1), .second, .val (.long p2), .second, .val (.int p3), .val (.long j4), .second, .val (.long j15), .second, .val (.int i22), .val (.long j28), .second, .val (.double vd), .second, .val (.double ld), .second, .val (.int r_1), .val (.long j62), .second, .val (.long j94), .second] [(.int (lcmpW j94 (1000 : Int64)))]))
      by_cases hc112 : (1000 : Int) < j94.toInt
      · refine Go.step (fun t k => XS.ifYes X_1.here hx rfl (pc0 := 112) (pc' := 117) rfl (hb hby at_112) rfl (lcY (cd := .gt) hc112) (by decide) (by decide) k) ?_
        show Go p.tables e below P (T_1.setTop (mkF m 117 #[.val (.long p1), .second, .val (.long p2), .second, .val (.int p3), .val (.long j4), .second, .val (.long j15), .second, .val (.int i22), .val (.long j28), .second, .val (.double vd), .second, .val (.double ld), .second, .val (.int r_1), .val (.long j62), .second, .val (.long j94), .second] []))
        refine Go.step (fun t k => XS.iload X_1.here hx rfl (hb hby at_117) rfl  k) ?_
        show Go p.tables e below P (T_1.setTop (mkF m 119 #[.val (.long p1), .second, .val (.long p2), .second, .val (.int p3), .val (.long j4), .second, .val (.long j15), .second, .val (.int i22), .val (.long j28), .second, .val (.double vd), .second, .val (.double ld), .second, .val (.int r_1), .val (.long j62), .second, .val (.long j94), .second] [(.int r_1)]))
        refine Go.step (fun t k => XS.lload X_1.here hx rfl (hb hby at_119) rfl  k) ?_
        show Go p.tables e below P (T_1.setTop (mkF m 121 #[.val (.long p1), .second, .val (.long p2), .second, .val (.int p3), .val (.long j4), .second, .val (.long j15), .second, .val (.int i22), .val (.long j28), .second, .val (.double vd), .second, .val (.double ld), .second, .val (.int r_1), .val (.long j62), .second, .val (.long j94), .second] [(.long j94), (.int r_1)]))
        refine Go.step (fun t k => XS.lconst X_1.here hx rfl (hb hby at_121) k) ?_
        show Go p.tables e below P (T_1.setTop (mkF m 122 #[.val (.long p1), .second, .val (.long p2), .second, .val (.int p3), .val (.long j4), .second, .val (.long j15), .second, .val (.int i22), .val (.long j28), .second, .val (.double vd), .second, .val (.double ld), .second, .val (.int r_1), .val (.long j62), .second, .val (.long j94), .second] [(.long (0 : Int64)), (.long j94), (.int r_1)]))
        refine Go.step (fun t k => XS.lcmp X_1.here hx rfl (hb hby at_122) rfl k) ?_
        show Go p.tables e below P (T_1.setTop (mkF m 123 #[.val (.long p1), .second, .val (.long p2), .second, .val (.int p3), .val (.long j4), .second, .val (.long j15), .second, .val (.int i22), .val (.long j28), .second, .val (.double vd), .second, .val (.double ld), .second, .val (.int r_1), .val (.long j62), .second, .val (.long j94), .second] [(.int (lcmpW j94 (0 : Int64))), (.int r_1)]))
        by_cases hc123 : j94.toInt ≤ (0 : Int)
        · refine Go.step (fun t k => XS.ifYes X_1.here hx rfl (pc0 := 123) (pc' := 130) rfl (hb hby at_123) rfl (lcY (cd := .le) hc123) (by decide) (by decide) k) ?_
          show Go p.tables e below P (T_1.setTop (mkF m 130 #[.val (.long p1), .second, .val (.long p2), .second, .val (.int p3), .val (.long j4), .second, .val (.long j15), .second, .val (.int i22), .val (.long j28), .second, .val (.double vd), .second, .val (.double ld), .second, .val (.int r_1), .val (.long j62), .second, .val (.long j94), .second] [(.int r_1)]))
          refine Go.step (fun t k => XS.iconst X_1.here hx rfl (hb hby at_130) k) ?_
          show Go p.tables e below P (T_1.setTop (mkF m 131 #[.val (.long p1), .second, .val (.long p2), .second, .val (.int p3), .val (.long j4), .second, .val (.long j15), .second, .val (.int i22), .val (.long j28), .second, .val (.double vd), .second, .val (.double ld), .second, .val (.int r_1), .val (.long j62), .second, .val (.long j94), .second] [(.int (0 : Int32)), (.int r_1)]))
          refine Go.step (fun t k => XS.icmpNo X_1.here hx rfl (hb hby at_131) rfl (icN (cd := .ne) (by omega : ¬ (¬ r_1.toInt = (0 : Int)))) k) ?_
          show Go p.tables e below P (T_1.setTop (mkF m 134 #[.val (.long p1), .second, .val (.long p2), .second, .val (.int p3), .val (.long j4), .second, .val (.long j15), .second, .val (.int i22), .val (.long j28), .second, .val (.double vd), .second, .val (.double ld), .second, .val (.int r_1), .val (.long j62), .second, .val (.long j94), .second] []))
          refine Go.step (fun t k => XS.iconst X_1.here hx rfl (hb hby at_134) k) ?_
          show Go p.tables e below P (T_1.setTop (mkF m 135 #[.val (.long p1), .second, .val (.long p2), .second, .val (.int p3), .val (.long j4), .second, .val (.long j15), .second, .val (.int i22), .val (.long j28), .second, .val (.double vd), .second, .val (.double ld), .second, .val (.int r_1), .val (.long j62), .second, .val (.long j94), .second] [(.int (1 : Int32))]))
          refine Go.step (fun t k => XS.goto X_1.here hx rfl (pc0 := 135) (pc' := 139) rfl (hb hby at_135) (by decide) (by decide) k) ?_
          show Go p.tables e below P (T_1.setTop (mkF m 139 #[.val (.long p1), .second, .val (.long p2), .second, .val (.int p3), .val (.long j4), .second, .val (.long j15), .second, .val (.int i22), .val (.long j28), .second, .val (.double vd), .second, .val (.double ld), .second, .val (.int r_1), .val (.long j62), .second, .val (.long j94), .second] [(.int (1 : Int32))]))
          exact retGo X_1 hx hP Bd.returns hlk rfl (Or.inl ⟨rfl, Or.inr (Or.inl rfl), _, rfl⟩) (hb hby at_139) (by decide) (by decide) (by rw [eh_1]; exact ⟨rfl, N_1⟩)
        · refine Go.step (fun t k => XS.ifNo X_1.here hx rfl (hb hby at_123) rfl (lcN (cd := .le) hc123) k) ?_
          show Go p.tables e below P (T_1.setTop (mkF m 126 #[.val (.long p1), .second, .val (.long p2), .second, .val (.int p3), .val (.long j4), .second, .val (.long j15), .second, .val (.int i22), .val (.long j28), .second, .val (.double vd), .second, .val (.double ld), .second, .val (.int r_1), .val (.long j62), .second, .val (.long j94), .second] [(.int r_1)]))
          refine Go.step (fun t k => XS.iconst X_1.here hx rfl (hb hby at_126) k) ?_
          show Go p.tables e below P (T_1.setTop (mkF m 127 #[.val (.long p1), .second, .val (.long p2), .second, .val (.int p3), .val (.long j4), .second, .val (.long j15), .second, .val (.int i22), .val (.long j28), .second, .val (.double vd), .second, .val (.double ld), .second, .val (.int r_1), .val (.long j62), .second, .val (.long j94), .second] [(.int (1 : Int32)), (.int r_1)]))
          refine Go.step (fun t k => XS.goto X_1.here hx rfl (pc0 := 127) (pc' := 131) rfl (hb hby at_127) (by decide) (by decide) k) ?_
          show Go p.tables e below P (T_1.setTop (mkF m 131 #[.val (.long p1), .second, .val (.long p2), .second, .val (.int p3), .val (.long j4), .second, .val (.long j15), .second, .val (.int i22), .val (.long j28), .second, .val (.double vd), .second, .val (.double ld), .second, .val (.int r_1), .val (.long j62), .second, .val (.long j94), .second] [(.int (1 : Int32)), (.int r_1)]))
          refine Go.step (fun t k => XS.icmpNo X_1.here hx rfl (hb hby at_131) rfl (icN (cd := .ne) (by omega : ¬ (¬ r_1.toInt = (1 : Int)))) k) ?_
          show Go p.tables e below P (T_1.setTop (mkF m 134 #[.val (.long p1), .second, .val (.long p2), .second, .val (.int p3), .val (.long j4), .second, .val (.long j15), .second, .val (.int i22), .val (.long j28), .second, .val (.double vd), .second, .val (.double ld), .second, .val (.int r_1), .val (.long j62), .second, .val (.long j94), .second] []))
          refine Go.step (fun t k => XS.iconst X_1.here hx rfl (hb hby at_134) k) ?_
          show Go p.tables e below P (T_1.setTop (mkF m 135 #[.val (.long p1), .second, .val (.long p2), .second, .val (.int p3), .val (.long j4), .second, .val (.long j15), .second, .val (.int i22), .val (.long j28), .second, .val (.double vd), .second, .val (.double ld), .second, .val (.int r_1), .val (.long j62), .second, .val (.long j94), .second] [(.int (1 : Int32))]))
          refine Go.step (fun t k => XS.goto X_1.here hx rfl (pc0 := 135) (pc' := 139) rfl (hb hby at_135) (by decide) (by decide) k) ?_
          show Go p.tables e below P (T_1.setTop (mkF m 139 #[.val (.long p1), .second, .val (.long p2), .second, .val (.int p3), .val (.long j4), .second, .val (.long j15), .second, .val (.int i22), .val (.long j28), .second, .val (.double vd), .second, .val (.double ld), .second, .val (.int r_1), .val (.long j62), .second, .val (.long j94), .second] [(.int (1 : Int32))]))
          exact retGo X_1 hx hP Bd.returns hlk rfl (Or.inl ⟨rfl, Or.inr (Or.inl rfl), _, rfl⟩) (hb hby at_139) (by decide) (by decide) (by rw [eh_1]; exact ⟨rfl, N_1⟩)
      · refine Go.step (fun t k => XS.ifNo X_1.here hx rfl (hb hby at_112) rfl (lcN (cd := .gt) hc112) k) ?_
        show Go p.tables e below P (T_1.setTop (mkF m 115 #[.val (.long p1), .second, .val (.long p2), .second, .val (.int p3), .val (.long j4), .second, .val (.long j15), .second, .val (.int i22), .val (.long j28), .second, .val (.double vd), .second, .val (.double ld), .second, .val (.int r_1), .val (.long j62), .second, .val (.long j94), .second] []))
        refine Go.step (fun t k => XS.iconst X_1.here hx rfl (hb hby at_115) k) ?_
        show Go p.tables e below P (T_1.setTop (mkF m 116 #[.val (.long p1), .second, .val (.long p2), .second, .val (.int p3), .val (.long j4), .second, .val (.long j15), .second, .val (.int i22), .val (.long j28), .second, .val (.double vd), .second, .val (.double ld), .second, .val (.int r_1), .val (.long j62), .second, .val (.long j94), .second] [(.int (1 : Int32))]))
        exact retGo X_1 hx hP Bd.returns hlk rfl (Or.inl ⟨rfl, Or.inr (Or.inl rfl), _, rfl⟩) (hb hby at_116) (by decide) (by decide) (by rw [eh_1]; exact ⟨rfl, N_1⟩)
  · refine Go.step (fun t k => XS.ifNo X_1.here hx rfl (hb hby at_69) rfl (lcN (cd := .gt) hc69) k) ?_
    show Go p.tables e below P (T_1.setTop (mkF m 72 #[.val (.long p1), .second, .val (.long p2), .second, .val (.int p3), .val (.long j4), .second, .val (.long j15), .second, .val (.int i22), .val (.long j28), .second, .val (.double vd), .second, .val (.double ld), .second, .val (.int r_1), .val (.long j62), .second, .unset, .unset] []))
    refine Go.step (fun t k => XS.iload X_1.here hx rfl (hb hby at_72) rfl  k) ?_
    show Go p.tables e below P (T_1.setTop (mkF m 74 #[.val (.long p1), .second, .val (.long p2), .second, .val (.int p3), .val (.long j4), .second, .val (.long j15), .second, .val (.int i22), .val (.long j28), .second, .val (.double vd), .second, .val (.double ld), .second, .val (.int r_1), .val (.long j62), .second, .unset, .unset] [(.int r_1)]))
    refine Go.step (fun t k => XS.ifNo X_1.here hx rfl (hb hby at_74) rfl (ifN (cd := .ne) (by omega : ¬ (¬ r_1.toInt = 0))) k) ?_
    show Go p.tables e below P (T_1.setTop (mkF m 77 #[.val (.long p1), .second, .val (.long p2), .second, .val (.int p3), .val (.long j4), .second, .val (.long j15), .second, .val (.int i22), .val (.long j28), .second, .val (.double vd), .second, .val (.double ld), .second, .val (.int r_1), .val (.long j62), .second, .unset, .unset] []))
    refine Go.step (fun t k => XS.iconst X_1.here hx rfl (hb hby at_77) k) ?_
    show Go p.tables e below P (T_1.setTop (mkF m 78 #[.val (.long p1), .second, .val (.long p2), .second, .val (.int p3), .val (.long j4), .second, .val (.long j15), .second, .val (.int i22), .val (.long j28), .second, .val (.double vd), .second, .val (.double ld), .second, .val (.int r_1), .val (.long j62), .second, .unset, .unset] [(.int (1 : Int32))]))
    refine Go.step (fun t k => XS.goto X_1.here hx rfl (pc0 := 78) (pc' := 82) rfl (hb hby at_78) (by decide) (by decide) k) ?_
    show Go p.tables e below P (T_1.setTop (mkF m 82 #[.val (.long p1), .second, .val (.long p2), .second, .val (.int p3), .val (.long j4), .second, .val (.long j15), .second, .val (.int i22), .val (.long j28), .second, .val (.double vd), .second, .val (.double ld), .second, .val (.int r_1), .val (.long j62), .second, .unset, .unset] [(.int (1 : Int32))]))
    exact retGo X_1 hx hP Bd.returns hlk rfl (Or.inl ⟨rfl, Or.inr (Or.inl rfl), _, rfl⟩) (hb hby at_82) (by decide) (by decide) (by rw [eh_1]; exact ⟨rfl, N_1⟩)
set_option maxRecDepth 65536 in
set_option maxHeartbeats 40000000 in
theorem comes_1 {Post : Tables → Env → Array Value → State → Outcome → State → Prop} (hpost : ∀ tb e args s v u, (limb_1_1.after args s (.returned v) u = true ∧ limb_1_2.after args s (.returned v) u = true ∧ True) → FrameEnd s (.returned v) u (Jvm.fieldLocs frame_1_writes args s ++ Jvm.arrayLocs frame_1_arrays args s ++ Jvm.staticLocs frame_1_statics s) 0 0 → Post tb e args s (.returned v) u) :
    ArmFor flags0 classFile x code maxLocals ret World_1 tables_1 room_1 Calls_1 rest_1 Pre_1 Post := by
  intro l hfl _ _ p e ha hc hk s m args below hf hA hF happ hP
  obtain ⟨hcalls, hrest, hpre⟩ := hP
  obtain ⟨-, -, -, hnamed, -, -, -, hat⟩ := (Spec.applies_iff hf).mp happ
  obtain ⟨hg, hn⟩ := and_e (Cond.before_iff.mp (show (Jvm.Cond.and given_1 narrow_1).before args s = true from hpre))
  obtain ⟨gc, hg0⟩ := and_e hg
  obtain ⟨ga0, hg1⟩ := and_e hg0
  obtain ⟨ga1, hg2⟩ := and_e hg1
  have ga2 := hg2
  obtain ⟨w0, w1, w2, rfl⟩ : ∃ w0 w1 w2 : Value, args = #[w0, w1, w2] := by
    have hs : args.size = 3 := by simpa [Cond.value, given_1] using gc
    obtain ⟨L⟩ := args
    match L, hs with
    | [w0, w1, w2], _ => exact ⟨w0, w1, w2, rfl⟩
  have hw := fun d (hd : d ∈ tables_1) => atoms_spec (ws := Jvm.Cond.code x code maxLocals ret :: tables_1) hat d (List.mem_cons_of_mem _ hd)
  obtain ⟨i0, ei0⟩ := isL_v ga0
  obtain rfl : w0 = (.long i0) := Option.some.inj ei0
  obtain ⟨i1, ei1⟩ := isL_v ga1
  obtain rfl : w1 = (.long i1) := Option.some.inj ei1
  obtain ⟨i2, ei2⟩ := is_v ga2
  obtain rfl : w2 = (.int i2) := Option.some.inj ei2
  obtain ⟨n, o, h1, h2, h3, _, L, rfl, ⟨rfl, N⟩, hq⟩ := rm0 l s _ hw tables_1 i0 i1 i2 s.heap s.heap.size (Nat.le_refl _) p e ha hc hk s m _ below hf ((Spec.applies_iff_loose hf).mp happ).1 ⟨rfl, State.Warmed39.refl s, rfl⟩ trivial
  refine ⟨n, _, h1, h2, h3, hpost _ _ _ _ _ _ ⟨Cond.after_iff.mpr rfl, Cond.after_iff.mpr (eq_i res_at (Term.int_eval (1)) rfl), trivial⟩ ⟨hq.1, hq.2.1, (hq.2.2.sift fun y hy => Or.inr (N y hy)).mono (by decide) (by decide)⟩⟩
theorem main_1_1 : Claimed_1_1 := comes_1 fun _ _ _ _ _ _ h hF => ⟨h.1, hF⟩
theorem main_1_2 : Claimed_1_2 := comes_1 fun _ _ _ _ _ _ h hF => ⟨h.2.1, hF⟩
end Jvm.Pilot.@@N@@
namespace Jvm.Pilot.@@N@@
open Jvm Jvm.ClassFile Sem Op Lib Jvm.Free Jvm.Stand Jvm.Pilot.@@N@@.Jvm.D
/-! MADE BY PROGRAM (witnessworld.py) out of the Statement's table words and the real class files: 9 classes; the members and pool entries that the words name. The judged class is class 1, her method 1. -/
namespace start1
open Jvm.ClassFile
def u (s : String) : CpInfo := .utf8 (stringToUtf16 s)
/-- a pool by its gaps: so many unusable entries, then the entry; so many at the end -/
def gap : Nat → List CpInfo → List CpInfo
  | 0, r => r
  | n + 1, r => .unusable :: gap n r
def poolList (es : List (Nat × CpInfo)) (last : Nat) : List CpInfo := es.foldr (fun e r => gap e.1 (e.2 :: r)) (gap last [])
def pool (es : List (Nat × CpInfo)) (last : Nat) : Array CpInfo := ⟨poolList es last⟩
def fileOf (pool : Array CpInfo) (this : Nat) (attrs : Array Attribute := #[]) (ms : Array MethodInfo := #[]) (fl : Nat := 33) (sup : Nat := 0) (ifs : Array Nat := #[]) (fds : Array FieldInfo := #[]) : ClassFile where
  minorVersion := 0
  majorVersion := 65
  constantPool := pool
  accessFlags := fl
  thisClass := this
  superClass := sup
  interfaces := ifs
  fields := fds
  methods := ms
  attributes := attrs
def plain (name : String) (sup : Option ClassId) : Class where
  name := name
  kind := .ordinary
  loader := none
  accessFlags := 33
  super := sup
  interfaces := #[]
  cf := none
  fields := #[]
  methods := #[]
  instanceTypes := #[]
  staticTypes := #[]
  resolved := #[]
  callSites := []
  init := .initialized
  statics := none
  mirror := none

def pool0 : Array CpInfo := pool [(5, u "<init>"), (0, u "()V"), (1, .class_ 10), (1, u "java/lang/Object")] 113

def k0m0 : Method := { name := "<init>", desc := "()V", sig := { parameters := [], returnType := none }, accessFlags := 1, code := none }
/-- java/lang/Object -/
def k0 : Class := { plain "java/lang/Object" none with
  accessFlags := 33
  interfaces := #[]
  cf := some (fileOf pool0 8 #[] #[{ accessFlags := 1, nameIndex := 5, descriptorIndex := 6, attributes := #[] }] 33 0 #[] #[])
  fields := #[]
  methods := #[k0m0]
  instanceTypes := #[]
  staticTypes := #[]
  resolved := Array.replicate 124 none
  statics := none }

def pool1 : Array CpInfo := pool [(2, .class_ 4), (1, u "java/lang/Object"), (0, u "<init>"), (0, u "()V"), (0, .long 17179869183), (1, .long 34359738367), (1, .long 17179869184), (1, .methodref 14 15), (0, .class_ 16), (0, .nameAndType 17 18), (0, u "com/example/fieldroster/fieldroster/util/Decimals"), (0, u "farAbove"), (0, u "(DD)Z"), (0, .long 100000000), (1, .long 18446744073709550616), (1, .long 1000), (1, .class_ 26), (0, u "com/example/fieldroster/fieldroster/util/DecimalsFarAbovePinLaw"), (2, u "law"), (0, u "(JJI)Z")] 3

def k1m0 : Method := { name := "<init>", desc := "()V", sig := { parameters := [], returnType := none }, accessFlags := 1, code := none }
def k1c1 : Code := { maxStack := 5, maxLocals := 21, code := code, exceptionTable := #[], attributes := #[] }
def k1m1 : Method := { name := "law", desc := "(JJI)Z", sig := { parameters := [.long, .long, .int], returnType := some .boolean }, accessFlags := 9, code := some k1c1 }
/-- com/example/fieldroster/fieldroster/util/DecimalsFarAbovePinLaw -/
def k1 : Class := { plain "com/example/fieldroster/fieldroster/util/DecimalsFarAbovePinLaw" (some 0) with
  accessFlags := 49
  interfaces := #[]
  cf := some (fileOf pool1 25 #[] #[{ accessFlags := 1, nameIndex := 5, descriptorIndex := 6, attributes := #[] }, { accessFlags := 9, nameIndex := 29, descriptorIndex := 30, attributes := #[] }] 49 2 #[] #[])
  fields := #[]
  methods := #[k1m0, k1m1]
  instanceTypes := #[]
  staticTypes := #[]
  resolved := Array.replicate 34 none
  statics := none }

def pool2 : Array CpInfo := pool [(2, .class_ 4), (1, u "java/lang/Object"), (0, u "<init>"), (0, u "()V"), (34, .class_ 42), (0, u "com/example/fieldroster/fieldroster/util/Decimals"), (6, .double 4607182418709945415), (1, .double 4487126258331716666), (2, u "TOLERANCE"), (0, u "D"), (6, u "farAbove"), (0, u "(DD)Z")] 3

def k2m0 : Method := { name := "<init>", desc := "()V", sig := { parameters := [], returnType := none }, accessFlags := 2, code := none }
def k2c1 : Code := { maxStack := 6, maxLocals := 4, code := prog_71_method_4_code, exceptionTable := #[], attributes := #[] }
def k2m1 : Method := { name := "farAbove", desc := "(DD)Z", sig := { parameters := [.double, .double], returnType := some .boolean }, accessFlags := 9, code := some k2c1 }
/-- com/example/fieldroster/fieldroster/util/Decimals -/
def k2 : Class := { plain "com/example/fieldroster/fieldroster/util/Decimals" (some 0) with
  accessFlags := 49
  interfaces := #[]
  cf := some (fileOf pool2 41 #[] #[{ accessFlags := 2, nameIndex := 5, descriptorIndex := 6, attributes := #[] }, { accessFlags := 9, nameIndex := 62, descriptorIndex := 63, attributes := #[] }] 49 2 #[] #[{ accessFlags := 25, nameIndex := 54, descriptorIndex := 55, attributes := #[] }])
  fields := #[{ name := "TOLERANCE", type := .double, accessFlags := 25, slot := 0, constantValue := 0 }]
  methods := #[k2m0, k2m1]
  instanceTypes := #[]
  staticTypes := #[.double]
  resolved := Array.replicate 67 none
  statics := none }

def pool3 : Array CpInfo := pool [(1, u "java/lang/Cloneable"), (0, .class_ 1), (0, u "java/lang/Object"), (0, .class_ 3)] 3

/-- java/lang/Cloneable -/
def k3 : Class := { plain "java/lang/Cloneable" (some 0) with
  accessFlags := 1537
  interfaces := #[]
  cf := some (fileOf pool3 2 #[] #[] 1537 4 #[] #[])
  fields := #[]
  methods := #[]
  instanceTypes := #[]
  staticTypes := #[]
  resolved := Array.replicate 8 none
  statics := none }

def pool4 : Array CpInfo := pool [(1, u "java/io/Serializable"), (0, .class_ 1), (0, u "java/lang/Object"), (0, .class_ 3)] 3

/-- java/io/Serializable -/
def k4 : Class := { plain "java/io/Serializable" (some 0) with
  accessFlags := 1537
  interfaces := #[]
  cf := some (fileOf pool4 2 #[] #[] 1537 4 #[] #[])
  fields := #[]
  methods := #[]
  instanceTypes := #[]
  staticTypes := #[]
  resolved := Array.replicate 8 none
  statics := none }

/-- the primitive byte -/
def k5 : Class := { plain "byte" none with kind := .primitive 'B', accessFlags := 0x411 }
/-- [B -/
def k6 : Class := { plain "[B" (some 0) with kind := .array 5 .byte, interfaces := #[3, 4], accessFlags := 1041 }

/-- the primitive int -/
def k7 : Class := { plain "int" none with kind := .primitive 'I', accessFlags := 0x411 }
/-- [I -/
def k8 : Class := { plain "[I" (some 0) with kind := .array 7 .int, interfaces := #[3, 4], accessFlags := 1041 }

def heap : Heap := #[]
def classes : Array Class := #[k0, k1, k2, k3, k4, k5, k6, k7, k8]
def interned : List (Array UInt16 × Addr) := []
def slotsUsed : Nat := 0
def theMethod : MethodId := ⟨1, 1⟩
def args0 : Array Value := #[.long 3, .long 8, .int 5]
def aboutOver (below : List Frame) : State where
  vm := { classes := classes, interned := interned.toArray }
  heap := heap
  slotsUsed := slotsUsed
  threads := #[{ frames := .invoking theMethod args0 :: below }]
def below0 : List Frame := [.native { method := ⟨0, 0⟩, args := #[] }]
def about1 : State := aboutOver below0
def p0 : Program := .bare "" "" ""
def e0 : Env := launch0.env 0 0 0
theorem w_frames : about1.frames = Frame.invoking theMethod args0 :: below0 := rfl
set_option maxRecDepth 65536 in
theorem w_args : argsFit about1.vm theMethod args0 = true := by decide +kernel
set_option maxRecDepth 65536 in
theorem w_heap : heapFits about1 = true := by decide +kernel
set_option maxRecDepth 65536 in
theorem w_runnable : about1.curStatus? = some .runnable := by decide +kernel
set_option maxRecDepth 65536 in
theorem w_alone : about1.alone = true := by decide +kernel
set_option maxRecDepth 65536 in
theorem w_named : about1.methodNamed? x = some theMethod := by decide +kernel
set_option maxRecDepth 65536 in
theorem w_hears : about1.hears theMethod below0 = true := by decide +kernel
set_option maxRecDepth 65536 in
theorem w_ripe : about1.ripe theMethod args0 below0 = true := by decide +kernel
theorem w_running : about1.status = .running := rfl
set_option maxRecDepth 65536 in
theorem w_room : about1.hasRoom e0.platform room_1 = true :=
  launch0.hasRoom_least _ room_1 (by decide +kernel) (by decide +kernel) (by decide +kernel) (by decide +kernel) (by decide +kernel) (by decide +kernel)
theorem allAtoms_all (ts : List Jvm.Cond) (a : Array Jvm.Value) (st : Jvm.State) : (allAtoms ts).before a st = ts.all (fun c => c.before a st) := by
  induction ts with
  | nil => rfl
  | cons c t ih =>
    show (Jvm.Cond.and c (allAtoms t)).before a st = _
    rw [Jvm.Cond.before_and, ih, List.all_cons]
def words1 : List Jvm.Cond := Jvm.Cond.code x code maxLocals ret :: tables_1
/-- a 'code' word, met by the world's own term for the bytes: nothing is compared byte by byte -/
theorem code_word {y : MethodName} {bytes : ByteArray} {mx : Nat} {rt : Option FieldType} {a : Array Value} {s : State} {m : MethodId} {meth : Method} {c : Code} (h1 : s.methodNamed? y = some m) (h2 : s.vm.method? m = some meth) (h3 : meth.code = some c) (h4 : c.code = bytes)
    (h5 : (c.maxLocals == mx && c.exceptionTable.isEmpty && decide (c.maxStack ≤ mostOperands) && decide (meth.sig.returnType = rt) && !meth.locks && decide (parseMethodDescriptor y.desc = some meth.sig)) = true) : (Jvm.Cond.code y bytes mx rt).before a s = true := by
  simp only [Bool.and_eq_true, beq_iff_eq, Bool.not_eq_true', decide_eq_true_eq] at h5
  obtain ⟨⟨⟨⟨⟨g1, g2⟩, g3⟩, g4⟩, g5⟩, g6⟩ := h5
  simp [Cond.before, Cond.holds, Cond.value, h1, h2, h3, h4, g1, g2, g3, g4, g5, g6]
def isCode : Jvm.Cond → Bool
  | .code _ _ _ _ => true
  | _ => false
theorem all_split {L : List Jvm.Cond} {P : Jvm.Cond → Bool} (h1 : L.all (fun c => isCode c || P c) = true) (h2 : ∀ c ∈ L.filter isCode, P c = true) : L.all P = true := by
  refine List.all_eq_true.mpr fun c hc => ?_
  have h := List.all_eq_true.mp h1 c hc
  rcases Bool.eq_false_or_eq_true (isCode c) with hi | hi
  · exact h2 c (List.mem_filter.mpr ⟨hc, hi⟩)
  · simpa [hi] using h
set_option maxRecDepth 65536 in
theorem w_c0 : (Jvm.Cond.code x code maxLocals ret).before args0 about1 = true := code_word (m := ⟨1, 1⟩) (meth := k1m1) (c := k1c1) (by decide +kernel) rfl rfl rfl (by decide +kernel)
set_option maxRecDepth 65536 in
theorem w_c1 : (Jvm.Cond.code ({ cls := "com/example/fieldroster/fieldroster/util/Decimals", name := "farAbove", desc := "(DD)Z" } : Jvm.MethodName) prog_71_method_4_code (4 : Nat) (Option.some Jvm.ClassFile.FieldType.boolean)).before args0 about1 = true := code_word (m := ⟨2, 1⟩) (meth := k2m1) (c := k2c1) (by decide +kernel) rfl rfl rfl (by decide +kernel)
def codes1 : List Jvm.Cond := [Jvm.Cond.code x code maxLocals ret, Jvm.Cond.code ({ cls := "com/example/fieldroster/fieldroster/util/Decimals", name := "farAbove", desc := "(DD)Z" } : Jvm.MethodName) prog_71_method_4_code (4 : Nat) (Option.some Jvm.ClassFile.FieldType.boolean)]
set_option maxRecDepth 65536 in
theorem codes_eq : words1.filter isCode = codes1 := rfl
theorem w_codes : ∀ c ∈ words1.filter isCode, c.before args0 about1 = true := by
  rw [codes_eq]
  intro c hc
  simp only [codes1, List.mem_cons, List.not_mem_nil, or_false] at hc
  rcases hc with rfl | rfl
  · exact w_c0
  · exact w_c1
set_option maxRecDepth 65536 in
theorem w_t1 : words1.all (fun c => isCode c || c.before args0 about1) = true := by decide +kernel
theorem w_tables : (allAtoms (Jvm.Cond.code x code maxLocals ret :: tables_1)).before args0 about1 = true := by
  rw [allAtoms_all]
  show words1.all (fun c => c.before args0 about1) = true
  refine all_split ?_ w_codes
  rw [w_t1]
set_option maxRecDepth 65536 in
theorem w_case : (Jvm.Cond.and given_1 narrow_1).before args0 about1 = true := by decide +kernel
theorem w_applies : (headSpec (Jvm.Cond.code x code maxLocals ret :: tables_1) room_1).applies x e0.platform about1 = true :=
  (Spec.applies_iff w_frames).mpr ⟨w_running, w_runnable, w_alone, w_named, w_hears, w_ripe, w_room, w_tables⟩
theorem atStart : AtStart classFile x code maxLocals ret World_1 tables_1 room_1 Calls_1 rest_1 Pre_1 launch0 p0 e0 about1 theMethod args0 below0 :=
  ⟨lists_1, trivial, launch0.admits_env _ _ _, launch0.least_env, fairChoices_fair.cas, fairChoices_fair.clock, w_frames, w_args, w_heap, w_applies, trivial, trivial, w_case⟩
end start1
theorem witness_1 : WitnessClaimed_1 := ⟨start1.p0, start1.e0, start1.about1, start1.theMethod, start1.args0, start1.below0, start1.atStart⟩
end Jvm.Pilot.@@N@@
