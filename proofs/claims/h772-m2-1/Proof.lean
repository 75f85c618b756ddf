import JvmDerived
import JvmDerived.Pilot.@@N@@Statement
import JvmDerived.Pilot.@@N@@Code
set_option linter.unusedVariables false
set_option linter.unusedSimpArgs false
namespace Jvm.Pilot.@@N@@.Own
open Jvm Jvm.ClassFile Sem Op Lib Jvm.Free Jvm.Stand Jvm.LawKit Jvm.RoadKit
/-- from S the run comes to an end of which P holds -/
def Go (tb : Tables) (e : Env) (below : List Frame) (P : State → Outcome → Prop) (S : State) : Prop :=
  ∃ s₂ o, Steps tb e below S s₂ ∧ s₂.status = .running ∧ Ended s₂ below o ∧ P s₂ o
theorem Go.step {tb : Tables} {e : Env} {below : List Frame} {P : State → Outcome → Prop} {S S' : State}
    (h : ∀ t, Steps tb e below S' t → Steps tb e below S t) (g : Go tb e below P S') : Go tb e below P S := by
  obtain ⟨t, o, h1, h2⟩ := g; exact ⟨t, o, h t h1, h2⟩
theorem Go.tr {tb : Tables} {e : Env} {below : List Frame} {P : State → Outcome → Prop} {S S' : State}
    (h : Steps tb e below S S') (g : Go tb e below P S') : Go tb e below P S := by
  obtain ⟨t, o, h1, h2⟩ := g; exact ⟨t, o, h.trans h1, h2⟩
theorem Go.start {tb : Tables} {e : Env} {below : List Frame} {P₀ : State → Outcome → Prop} {S S' : State} (q : S = S')
    (h : ∀ P : State → Outcome → Prop, (∀ s₂ o, P₀ s₂ o → P s₂ o) → Go tb e below P S') : Go tb e below P₀ S := by
  subst q; exact h P₀ fun _ _ h => h
/-- a value gets a name -/
theorem nm {α : Type} (F : α → Prop) (x : α) (H : ∀ z, z = x → F z) : F x := H x rfl
section Ends
variable {p : Program} {l : Launch} {e : Env} {R : Room} {s : State} {m : MethodId} {args : Array Value} {below : List Frame} {meth : Method} {c : Code} {T : State} {locs : List Loc} {cells slots : Nat}
theorem retGo (X : Stand p l e R s m args below meth c T locs cells slots) (hx : p.tables.exec = Jvm.exec) {P : State → Outcome → Prop} {Q : Option Value → Heap → List Loc → Prop} {kc ks : Nat}
    (hP : ∀ s₂ o, (∃ v L, o = .returned v ∧ Q v s₂.heap L ∧ FrameEnd s o s₂ L kc ks) → P s₂ o) {pc : Nat} {Ls : Array Slot} {w : Value} {t : FieldType} {i : Instr} {rest : List Value} (hret : meth.sig.returnType = some t) (hlk : meth.locks = false) (hn : narrow t w = w)
    (hi : (i = .ireturn ∧ (t = .int ∨ t = .boolean ∨ t = .byte ∨ t = .char ∨ t = .short) ∧ ∃ z, w = .int z) ∨ (i = .lreturn ∧ t = .long ∧ ∃ z, w = .long z) ∨ (i = .dreturn ∧ t = .double ∧ ∃ z, w = .double z) ∨ (i = .freturn ∧ t = .float ∧ ∃ z, w = .float z) ∨ (i = .areturn ∧ t.isReference = true ∧ w.isRef = true))
    (hd : decode c.code pc = .ok (i, 1)) (hc : cells ≤ kc) (hs : slots ≤ ks) (hQ : Q (some w) T.heap locs) : Go p.tables e below P (T.setTop (mkF m pc Ls (w :: rest))) := by
  obtain ⟨fs, hr, hrun, hended, hW, hsame⟩ := X.leave (v := some w) (fun h => by rw [hret] at h; cases h) hlk
  exact ⟨_, _, retOut X hx hret hn hi hd hr, hrun, hended, hP _ _ ⟨_, _, rfl, hQ, ⟨_, rfl⟩, hW, hsame.mono hc hs⟩⟩
theorem voidGo (X : Stand p l e R s m args below meth c T locs cells slots) (hx : p.tables.exec = Jvm.exec) {P : State → Outcome → Prop} {Q : Option Value → Heap → List Loc → Prop} {kc ks : Nat}
    (hP : ∀ s₂ o, (∃ v L, o = .returned v ∧ Q v s₂.heap L ∧ FrameEnd s o s₂ L kc ks) → P s₂ o) {pc : Nat} {Ls : Array Slot} (hret : meth.sig.returnType = none) (hlk : meth.locks = false)
    (hd : decode c.code pc = .ok (.return_, 1)) (hc : cells ≤ kc) (hs : slots ≤ ks) (hQ : Q none T.heap locs) : Go p.tables e below P (T.setTop (mkF m pc Ls [])) := by
  obtain ⟨fs, hr, hrun, hended, hW, hsame⟩ := X.leave (v := none) (fun _ => rfl) hlk
  exact ⟨_, _, X.returnOut hx hret hd hr, hrun, hended, hP _ _ ⟨_, _, rfl, hQ, ⟨_, rfl⟩, hW, hsame.mono hc hs⟩⟩
end Ends
/-! branches: what is compared, as whole numbers -/
def rel : ClassFile.Cond → Int → Int → Prop
  | .eq, a, b => a = b
  | .ne, a, b => ¬ a = b
  | .lt, a, b => a < b
  | .ge, a, b => b ≤ a
  | .gt, a, b => b < a
  | .le, a, b => a ≤ b
theorem icY {cd : ClassFile.Cond} {x y : Int32} (h : rel cd x.toInt y.toInt) : if_icmp.holds cd x y = true := by
  cases cd <;> simp only [rel] at h <;> simp [if_icmp.holds, Int32.lt_iff_toInt_lt, Int32.le_iff_toInt_le, ← Int32.toInt_inj] <;> omega
theorem icN {cd : ClassFile.Cond} {x y : Int32} (h : ¬ rel cd x.toInt y.toInt) : if_icmp.holds cd x y = false := by
  cases cd <;> simp only [rel] at h <;> simp [if_icmp.holds, Int32.lt_iff_toInt_lt, Int32.le_iff_toInt_le, ← Int32.toInt_inj] <;> omega
theorem ifY {cd : ClassFile.Cond} {x : Int32} (h : rel cd x.toInt 0) : ifCond.holds cd x = true := (if0 cd x).trans (icY h)
theorem ifN {cd : ClassFile.Cond} {x : Int32} (h : ¬ rel cd x.toInt 0) : ifCond.holds cd x = false := (if0 cd x).trans (icN h)
theorem lcmp_rel {cd : ClassFile.Cond} {x y : Int64} : rel cd (lcmpW x y).toInt 0 ↔ rel cd x.toInt y.toInt := by
  have h1 : x < y ↔ x.toInt < y.toInt := Int64.lt_iff_toInt_lt
  have h2 : y < x ↔ y.toInt < x.toInt := Int64.lt_iff_toInt_lt
  have h3 : x = y ↔ x.toInt = y.toInt := Int64.toInt_inj.symm
  have e1 : (1 : Int32).toInt = 1 := rfl
  have e2 : (-1 : Int32).toInt = -1 := rfl
  have e3 : (0 : Int32).toInt = 0 := rfl
  unfold lcmpW
  by_cases c1 : x > y
  · rw [if_pos c1, e1]; have := h2.mp c1; cases cd <;> simp only [rel] <;> omega
  · rw [if_neg c1]
    have n1 : ¬ y.toInt < x.toInt := fun q => c1 (h2.mpr q)
    by_cases c2 : x = y
    · rw [if_pos c2, e3]; have q := h3.mp c2; cases cd <;> simp only [rel] <;> first | omega | simp [q]
    · rw [if_neg c2, e2]
      have n2 : ¬ x.toInt = y.toInt := fun q => c2 (h3.mpr q)
      cases cd <;> simp only [rel] <;> omega
theorem lcY {cd : ClassFile.Cond} {x y : Int64} (h : rel cd x.toInt y.toInt) : ifCond.holds cd (lcmpW x y) = true := ifY (lcmp_rel.mpr h)
theorem lcN {cd : ClassFile.Cond} {x y : Int64} (h : ¬ rel cd x.toInt y.toInt) : ifCond.holds cd (lcmpW x y) = false := ifN fun q => h (lcmp_rel.mp q)
theorem cmpV_rel {cd : ClassFile.Cond} {op : CmpOp} {i j : Int} : rel cd (cmpValue (some (compare i j)) op).toInt 0 ↔ rel cd i j := by
  have e1 : (1 : Int32).toInt = 1 := rfl
  have e2 : (-1 : Int32).toInt = -1 := rfl
  have e3 : (0 : Int32).toInt = 0 := rfl
  cases h : compare i j with
  | lt => have := (FP.Core.compare_lt_iff i j).mp h; show rel cd (-1 : Int32).toInt 0 ↔ _; rw [e2]; cases cd <;> simp only [rel] <;> omega
  | eq => have := (FP.Core.compare_eq_iff i j).mp h; show rel cd (0 : Int32).toInt 0 ↔ _; rw [e3]; cases cd <;> simp only [rel] <;> first | omega | simp [this]
  | gt => have := (FP.Core.compare_gt_iff i j).mp h; show rel cd (1 : Int32).toInt 0 ↔ _; rw [e1]; cases cd <;> simp only [rel] <;> omega
theorem dcY {cd : ClassFile.Cond} {op : CmpOp} {r : Option Ordering} {i j : Int} (q : r = some (compare i j)) (h : rel cd i j) : ifCond.holds cd (cmpValue r op) = true := by subst q; exact ifY (cmpV_rel.mpr h)
theorem dcN {cd : ClassFile.Cond} {op : CmpOp} {r : Option Ordering} {i j : Int} (q : r = some (compare i j)) (h : ¬ rel cd i j) : ifCond.holds cd (cmpValue r op) = false := by subst q; exact ifN fun z => h (cmpV_rel.mp z)
end Jvm.Pilot.@@N@@.Own
namespace Jvm.Pilot.@@N@@.Own
open Jvm Jvm.FP Jvm.FP.Core
/-! ## doubles as whole numbers of 2^-1074: what rounding leaves -/
/-- a double's value in units of 2^-1074 -/
def zv (a : UInt64) : Int := zval b64 (val64 a)
/-- a is finite and lies between lo * 2^k and hi * 2^k units -/
def DB (k : Nat) (lo hi : Int) (a : UInt64) : Prop := DFin a ∧ lo * ((2 ^ k : Nat) : Int) ≤ zv a ∧ zv a ≤ hi * ((2 ^ k : Nat) : Int)
/-- a is finite and is i * 2^k units -/
abbrev DE (k : Nat) (i : Int) (a : UInt64) : Prop := DB k i i a
theorem DE.eq {k : Nat} {i : Int} {a : UInt64} (h : DE k i a) : zv a = i * ((2 ^ k : Nat) : Int) := Int.le_antisymm h.2.2 h.2.1
theorem DE.of {k : Nat} {i : Int} {a : UInt64} (hf : DFin a) (h : zv a = i * ((2 ^ k : Nat) : Int)) : DE k i a := ⟨hf, Int.le_of_eq h.symm, Int.le_of_eq h⟩
theorem tn32 {q : Int32} (h0 : 0 ≤ q.toInt) : (q.toBitVec.toNat : Int) = q.toInt := by
  have l := q.toBitVec.isLt
  have e : q.toInt = q.toBitVec.toInt := rfl
  rw [e] at h0 ⊢
  rw [BitVec.toInt_eq_toNat_cond] at h0 ⊢
  split at h0 <;> split <;> omega
theorem nmul {a b : Int} {A B : Nat} (ha : a.natAbs ≤ A) (hb : b.natAbs ≤ B) : (a * b).natAbs ≤ A * B := by rw [Int.natAbs_mul]; exact Nat.mul_le_mul ha hb
theorem le_mul1 {a b : Int} (ha : 0 ≤ a) (hb : 1 ≤ b) : a ≤ a * b := by have := Int.mul_le_mul_of_nonneg_left hb ha; rwa [Int.mul_one] at this
theorem pw_pos (k : Nat) : (0 : Int) < ((2 ^ k : Nat) : Int) := Int.natCast_pos.mpr (Nat.two_pow_pos k)
theorem DB.nn {k : Nat} {lo hi : Int} {a : UInt64} (h : DB k lo hi a) : Jvm.Free.Fl.NoNaN64 a := Jvm.Free.Fl.noNaN64_no.mpr h.1.notNaN
theorem DB.ne {k : Nat} {lo hi : Int} {a : UInt64} (h : DB k lo hi a) : val64 a ≠ .nan := h.1.ne_nan
/-- a number of 53 digits is a double -/
theorem rep {n : Int} {k : Nat} (hn : n.natAbs ≤ 2 ^ 53) (hk : k ≤ 2044) : ∃ s c q, FP.Core.fits b64 (.fin s c q) ∧ zval b64 (.fin s c q) = n * ((2 ^ k : Nat) : Int) := by
  have key : ∀ (n : Int) (k : Nat), n.natAbs < 2 ^ 53 → k ≤ 2045 → ∃ s c q, FP.Core.fits b64 (.fin s c q) ∧ zval b64 (.fin s c q) = n * ((2 ^ k : Nat) : Int) := by
    intro n k hn hk
    have q1 : b64.qmin = -1074 := by decide
    have q2 : b64.qmax = 971 := by decide
    obtain ⟨c', q', h1, h2⟩ := round_exact good_b64 (decide (n < 0)) (c := n.natAbs) (q := b64.qmin + (k : Int)) (show n.natAbs < 2 ^ b64.p from hn) (by omega) (by omega)
    refine ⟨_, c', q', h1 ▸ round_fits good_b64 _, ?_⟩
    show signed (decide (n < 0)) (inUnits c' q' b64.qmin) = _
    rw [h2]
    unfold inUnits
    rw [signed_mul, show (b64.qmin + (k : Int) - b64.qmin).toNat = k by omega]
    congr 1
    unfold signed
    by_cases h : n < 0 <;> simp [h] <;> omega
  by_cases h : n.natAbs < 2 ^ 53
  · exact key n k h (by omega)
  · have e : n.natAbs = 2 ^ 53 := by omega
    have : ∃ m : Int, n = m * 2 ∧ m.natAbs < 2 ^ 53 := by
      rcases Int.natAbs_eq n with q | q
      · exact ⟨2 ^ 52, by rw [q, e]; decide, by decide⟩
      · exact ⟨-2 ^ 52, by rw [q, e]; decide, by decide⟩
    obtain ⟨m, rfl, hm⟩ := this
    obtain ⟨s, c, q, h1, h2⟩ := key m (k + 1) hm (by omega)
    refine ⟨s, c, q, h1, ?_⟩
    rw [h2, Nat.pow_succ, Int.natCast_mul, Int.mul_assoc]
    congr 1
    rw [Int.mul_comm]; rfl
/-- a number between two finite ones is finite -/
theorem fin_between {a : UInt64} {lo hi : Int} {k : Nat} (hl : lo.natAbs ≤ 2 ^ 53) (hh : hi.natAbs ≤ 2 ^ 53) (hk : k ≤ 2044) (hn : val64 a ≠ .nan) (h1 : lo * ((2 ^ k : Nat) : Int) ≤ zv a) (h2 : zv a ≤ hi * ((2 ^ k : Nat) : Int)) : DB k lo hi a := by
  refine ⟨?_, h1, h2⟩
  obtain ⟨s1, c1, q1, f1, e1⟩ := rep hl hk
  obtain ⟨s2, c2, q2, f2, e2⟩ := rep hh hk
  have t1 : zmag b64 (.fin s1 c1 q1) < b64.tails * 2 ^ (b64.exps - 2) := zmag_lt_top good_b64 f1
  have t2 : zmag b64 (.fin s2 c2 q2) < b64.tails * 2 ^ (b64.exps - 2) := zmag_lt_top good_b64 f2
  rw [← e1] at h1
  rw [← e2] at h2
  unfold zv at h1 h2
  cases hv : val64 a with
  | nan => exact absurd hv hn
  | fin s c q => exact ⟨s, c, q, hv⟩
  | inf s =>
    exfalso
    rw [hv] at h1 h2
    have z : zmag b64 (.inf s) = b64.tails * 2 ^ (b64.exps - 2) := rfl
    unfold zval at h1 h2
    rw [z] at h1 h2
    generalize b64.tails * 2 ^ (b64.exps - 2) = top at *
    generalize zmag b64 (.fin s1 c1 q1) = m1 at *
    generalize zmag b64 (.fin s2 c2 q2) = m2 at *
    simp only [sgn] at h1 h2
    cases s <;> cases s1 <;> cases s2 <;> simp only [signed, if_true, Bool.false_eq_true, if_false] at h1 h2 <;> omega
theorem qmin_sub : ((2 ^ (b64.qmin - b64.qmin).toNat : Nat) : Int) = 1 := by rw [Int.sub_self]; rfl
/-- what lies between two numbers of 53 digits is rounded to something between them -/
theorem round_between {s : Bool} {c : Nat} {q : Int} {lo hi : Int} {k : Nat} {a : UInt64} (ha : val64 a = round b64 (.fin s c q)) (hl : lo.natAbs ≤ 2 ^ 53) (hh : hi.natAbs ≤ 2 ^ 53) (hk : k ≤ 2044) {e0 : Int} (h0 : e0 ≤ b64.qmin) (h0e : e0 ≤ q)
    (h1 : lo * ((2 ^ k : Nat) : Int) * ((2 ^ (b64.qmin - e0).toNat : Nat) : Int) ≤ signed s (inUnits c q e0)) (h2 : signed s (inUnits c q e0) ≤ hi * ((2 ^ k : Nat) : Int) * ((2 ^ (b64.qmin - e0).toNat : Nat) : Int)) : DB k lo hi a := by
  obtain ⟨s1, c1, q1, f1, e1⟩ := rep hl hk
  obtain ⟨s2, c2, q2, f2, e2⟩ := rep hh hk
  have hn : val64 a ≠ .nan := by rw [ha]; exact roundRatio_ne_nan _ _ _ _ _
  refine fin_between hl hh hk hn ?_ ?_
  · unfold zv; rw [ha, ← e1]; exact zval_round_ge good_b64 f1 (by simp) h0 h0e (by rw [e1]; exact h1)
  · unfold zv; rw [ha, ← e2]; exact zval_round_le good_b64 f2 (by simp) h0 h0e (by rw [e2]; exact h2)
theorem add_b {a b : UInt64} {k : Nat} {l1 h1 l2 h2 lo hi : Int} (ha : DB k l1 h1 a) (hb : DB k l2 h2 b) (hlo : lo ≤ l1 + l2) (hhi : h1 + h2 ≤ hi) (hl : lo.natAbs ≤ 2 ^ 53) (hh : hi.natAbs ≤ 2 ^ 53) (hk : k ≤ 2044) : DB k lo hi (FP.dadd a b) := by
  obtain ⟨⟨s, c, q, va⟩, a1, a2⟩ := ha
  obtain ⟨⟨t, d, r, vb⟩, b1, b2⟩ := hb
  have hv := val64_dadd a b
  have fa := val64_fits a
  have fb := val64_fits b
  unfold zv at a1 a2 b1 b2
  rw [va] at hv fa a1 a2
  rw [vb] at hv fb b1 b2
  obtain ⟨sg, n, e, h3, h4, h5⟩ := sum_units fa fb
  rw [h3] at hv
  have hp := pw_pos k
  refine round_between hv hl hh hk (e0 := b64.qmin) (Int.le_refl _) h4 ?_ ?_
  · rw [h5, qmin_sub, Int.mul_one]
    have := Int.mul_le_mul_of_nonneg_right hlo (Int.le_of_lt hp)
    rw [Int.add_mul] at this
    omega
  · rw [h5, qmin_sub, Int.mul_one]
    have := Int.mul_le_mul_of_nonneg_right hhi (Int.le_of_lt hp)
    rw [Int.add_mul] at this
    omega
theorem zv_dneg {a : UInt64} : zv (FP.dneg a) = -zv a := by unfold zv; rw [FP.val64_dneg, zval_negate]
theorem neg_b {a : UInt64} {k : Nat} {lo hi : Int} (ha : DB k lo hi a) : DB k (-hi) (-lo) (FP.dneg a) := by
  refine ⟨?_, ?_, ?_⟩
  · obtain ⟨s, c, q, va⟩ := ha.1
    exact ⟨!s, c, q, by rw [FP.val64_dneg, va]; rfl⟩
  · rw [zv_dneg, Int.neg_mul]; have := ha.2.2; omega
  · rw [zv_dneg, Int.neg_mul]; have := ha.2.1; omega
theorem sub_b {a b : UInt64} {k : Nat} {l1 h1 l2 h2 lo hi : Int} (ha : DB k l1 h1 a) (hb : DB k l2 h2 b) (hlo : lo ≤ l1 - h2) (hhi : h1 - l2 ≤ hi) (hl : lo.natAbs ≤ 2 ^ 53) (hh : hi.natAbs ≤ 2 ^ 53) (hk : k ≤ 2044) : DB k lo hi (FP.dsub a b) := by
  have e : FP.dsub a b = FP.dadd a (FP.dneg b) := by
    rw [FP.dneg_core hb.1.notNaN]; exact dsub_eq a b
  rw [e]
  exact add_b ha (neg_b hb) (by omega) (by omega) hl hh hk
theorem pw_1074 : ((2 ^ (b64.qmin - 2 * b64.qmin).toNat : Nat) : Int) = ((2 ^ 1074 : Nat) : Int) := by
  rw [show (b64.qmin - 2 * b64.qmin).toNat = 1074 by decide]
/-- the exact product of the two lies between -/
theorem mul_z {a b : UInt64} {k : Nat} {lo hi : Int} (fa : DFin a) (fb : DFin b) (h1 : lo * ((2 ^ k : Nat) : Int) * ((2 ^ 1074 : Nat) : Int) ≤ zv a * zv b) (h2 : zv a * zv b ≤ hi * ((2 ^ k : Nat) : Int) * ((2 ^ 1074 : Nat) : Int)) (hl : lo.natAbs ≤ 2 ^ 53) (hh : hi.natAbs ≤ 2 ^ 53) (hk : k ≤ 2044) : DB k lo hi (FP.dmul a b) := by
  obtain ⟨s, c, q, va⟩ := fa
  obtain ⟨t, d, r, vb⟩ := fb
  have hv := val64_dmul a b
  have fa := val64_fits a
  have fb := val64_fits b
  unfold zv at h1 h2
  rw [va] at hv fa h1 h2
  rw [vb] at hv fb h1 h2
  obtain ⟨g1, g2, g3⟩ := product_units fa fb
  rw [g1] at hv
  have e : signed (s != t) (inUnits (c * d) (q + r) (2 * b64.qmin)) = zval b64 (.fin s c q) * zval b64 (.fin t d r) := by
    rw [g3, signed_xor]; rfl
  refine round_between hv hl hh hk (e0 := 2 * b64.qmin) (by decide) g2 ?_ ?_
  · rw [e, pw_1074]; exact h1
  · rw [e, pw_1074]; exact h2
theorem pw_add (a b : Nat) : ((2 ^ (a + b) : Nat) : Int) = ((2 ^ a : Nat) : Int) * ((2 ^ b : Nat) : Int) := by rw [Nat.pow_add, Int.natCast_mul]
theorem mul_e {a b : UInt64} {k k1 k2 : Nat} {i j n : Int} (ha : DE k1 i a) (hb : DE k2 j b) (hk : k1 + k2 = k + 1074) (hn : i * j = n) (hh : n.natAbs ≤ 2 ^ 53) (hk' : k ≤ 2044) : DE k n (FP.dmul a b) := by
  have e : zv a * zv b = n * ((2 ^ k : Nat) : Int) * ((2 ^ 1074 : Nat) : Int) := by
    rw [ha.eq, hb.eq, ← hn, Int.mul_assoc (i * j), ← pw_add, ← hk, pw_add]
    simp only [Int.mul_assoc, Int.mul_left_comm]
  exact mul_z ha.1 hb.1 (Int.le_of_eq e.symm) (Int.le_of_eq e) hh hh hk'
/-- a bounded one times a known one that isn't negative -/
theorem mul_b {a b : UInt64} {k k1 k2 : Nat} {l1 h1 j lo hi : Int} (ha : DB k1 l1 h1 a) (hb : DE k2 j b) (hj : 0 ≤ j) (hk : k1 + k2 = k + 1074) (hlo : lo ≤ l1 * j) (hhi : h1 * j ≤ hi) (hl : lo.natAbs ≤ 2 ^ 53) (hh : hi.natAbs ≤ 2 ^ 53) (hk' : k ≤ 2044) : DB k lo hi (FP.dmul a b) := by
  have p1 := pw_pos k1
  have p2 := pw_pos k2
  have hz : 0 ≤ zv b := by rw [hb.eq]; exact Int.mul_nonneg hj (Int.le_of_lt p2)
  have e : ∀ x : Int, x * j * ((2 ^ k : Nat) : Int) * ((2 ^ 1074 : Nat) : Int) = x * ((2 ^ k1 : Nat) : Int) * zv b := fun x => by
    rw [hb.eq, Int.mul_assoc (x * j), ← pw_add, ← hk, pw_add]
    simp only [Int.mul_assoc, Int.mul_left_comm]
  have up : ∀ {x y : Int}, x ≤ y → x * ((2 ^ k : Nat) : Int) * ((2 ^ 1074 : Nat) : Int) ≤ y * ((2 ^ k : Nat) : Int) * ((2 ^ 1074 : Nat) : Int) := fun h =>
    Int.mul_le_mul_of_nonneg_right (Int.mul_le_mul_of_nonneg_right h (Int.le_of_lt (pw_pos _))) (Int.le_of_lt (pw_pos _))
  refine mul_z ha.1 hb.1 ?_ ?_ hl hh hk'
  · refine Int.le_trans (up hlo) ?_
    rw [e]; exact Int.mul_le_mul_of_nonneg_right ha.2.1 hz
  · refine Int.le_trans ?_ (up hhi)
    rw [e]; exact Int.mul_le_mul_of_nonneg_right ha.2.2 hz
theorem pw3 {A B C D E : Nat} (c : Nat) (h : A + B = C + D + E) : c * 2 ^ A * 2 ^ B = c * 2 ^ C * 2 ^ D * 2 ^ E := by
  rw [Nat.mul_assoc, ← Nat.pow_add, h, Nat.pow_add, Nat.pow_add, ← Nat.mul_assoc, ← Nat.mul_assoc]
theorem ev_aux (V : Int) (n d y : Nat) : V * ((2 ^ n * d : Nat) : Int) * ((2 ^ y : Nat) : Int) = V * ((d * 2 ^ y : Nat) : Int) * ((2 ^ n : Nat) : Int) := by
  rw [Int.natCast_mul, Int.natCast_mul]
  generalize ((2 ^ n : Nat) : Int) = x
  generalize ((2 ^ y : Nat) : Int) = z
  simp only [Int.mul_assoc, Int.mul_comm, Int.mul_left_comm]
/-- the quotient, with signs -/
theorem ratio_le {s : Bool} {A B : Nat} {e e0 : Int} {V : Datum} (hB : 0 < B) (hV : FP.Core.fits b64 V) (hn : V ≠ .nan) (h0 : e0 ≤ b64.qmin) (h0e : e0 ≤ e)
    (h : signed s (inUnits A e e0) ≤ zval b64 V * ((2 ^ (b64.qmin - e0).toNat * B : Nat) : Int)) : zval b64 (roundRatio b64 s A B e) ≤ zval b64 V := by
  have hle := zmag_roundRatio_le good_b64 (s := s) (A := A) hB hV hn h0 h0e
  have hge := zmag_roundRatio_ge good_b64 (s := s) (A := A) hB hV h0 h0e
  rw [Nat.mul_assoc] at hle hge
  have hP : 0 < 2 ^ (b64.qmin - e0).toNat * B := Nat.mul_pos (Nat.two_pow_pos _) hB
  unfold zval at h ⊢
  rw [sgn_roundRatio]
  rw [← signed_mul] at h
  have hz : zmag b64 V * (2 ^ (b64.qmin - e0).toNat * B) = 0 → zmag b64 V = 0 := by
    intro h
    rcases Nat.mul_eq_zero.mp h with h | h <;> omega
  generalize zmag b64 V * (2 ^ (b64.qmin - e0).toNat * B) = vP at *
  generalize sgn V = t at *
  cases s <;> cases t <;> simp only [signed, if_true, Bool.false_eq_true, if_false] at h ⊢
  · have := hle (by omega); omega
  · have := hle (by omega); have := hz (by omega); omega
  · omega
  · have := hge (by omega); omega
theorem ratio_ge {s : Bool} {A B : Nat} {e e0 : Int} {V : Datum} (hB : 0 < B) (hV : FP.Core.fits b64 V) (hn : V ≠ .nan) (h0 : e0 ≤ b64.qmin) (h0e : e0 ≤ e)
    (h : zval b64 V * ((2 ^ (b64.qmin - e0).toNat * B : Nat) : Int) ≤ signed s (inUnits A e e0)) : zval b64 V ≤ zval b64 (roundRatio b64 s A B e) := by
  have h1 := ratio_le (s := !s) (A := A) (B := B) (e := e) (V := negate V) hB (negate_fits hV) (negate_ne_nan hn) h0 h0e (by
    rw [zval_negate, Int.neg_mul]
    have : signed (!s) (inUnits A e e0) = -signed s (inUnits A e e0) := by cases s <;> simp [signed]
    rw [this]; omega)
  rw [zval_negate, ← negate_roundRatio, zval_negate] at h1
  omega
/-- the quotient by a positive number: no NaN, and at the least, at the most, what is so when multiplied back -/
theorem div_zz {a b : UInt64} (fa : DFin a) (fb : DFin b) (hb : 0 < zv b) : val64 (FP.ddiv a b) ≠ .nan ∧
    (∀ {k : Nat} {lo : Int}, lo.natAbs ≤ 2 ^ 53 → k ≤ 2044 → lo * ((2 ^ k : Nat) : Int) * zv b ≤ zv a * ((2 ^ 1074 : Nat) : Int) → lo * ((2 ^ k : Nat) : Int) ≤ zv (FP.ddiv a b)) ∧
    (∀ {k : Nat} {hi : Int}, hi.natAbs ≤ 2 ^ 53 → k ≤ 2044 → zv a * ((2 ^ 1074 : Nat) : Int) ≤ hi * ((2 ^ k : Nat) : Int) * zv b → zv (FP.ddiv a b) ≤ hi * ((2 ^ k : Nat) : Int)) := by
  obtain ⟨s, c, q, va⟩ := fa
  obtain ⟨t, d, r, vb⟩ := fb
  have hv := val64_ddiv a b
  have fa := val64_fits a
  have fb := val64_fits b
  have zea : zv a = zval b64 (.fin s c q) := by unfold zv; rw [va]
  have zeb : zv b = zval b64 (.fin t d r) := by unfold zv; rw [vb]
  rw [zea, zeb]
  rw [zeb] at hb
  rw [va] at hv fa
  rw [vb] at hv fb
  have qn : b64.qmin = -1074 := by decide
  have qx : b64.qmax = 971 := by decide
  have fa2 := fa.2.1
  have fb2 := fb.2.1
  have fb3 := fb.2.2.1
  have zb : zval b64 (.fin t d r) = signed t (d * 2 ^ (r - b64.qmin).toNat) := rfl
  have za : zval b64 (.fin s c q) = signed s (c * 2 ^ (q - b64.qmin).toNat) := rfl
  have hd : 0 < d := by
    refine Nat.pos_of_ne_zero fun e => ?_
    rw [zb, e, Nat.zero_mul, signed_zero] at hb
    omega
  have ht : t = false := by
    cases t with
    | false => rfl
    | true => rw [zb] at hb; simp only [signed, if_true] at hb; omega
  subst ht
  have hq : quotient b64 (.fin s c q) (.fin false d r) = roundRatio b64 s c d (q - r) := by
    show (if d = 0 then _ else roundRatio b64 (s != false) c d (q - r)) = _
    rw [if_neg (by omega)]; cases s <;> rfl
  rw [hq] at hv
  have hn : val64 (Core.ddiv a b) ≠ .nan := by rw [hv]; exact roundRatio_ne_nan _ _ _ _ _
  -- both sides times 2^(r - qmin)
  have hP := pw_pos (r - b64.qmin).toNat
  have ex : signed s (inUnits c (q - r) (2 * b64.qmin)) * ((2 ^ (r - b64.qmin).toNat : Nat) : Int) = zval b64 (.fin s c q) * ((2 ^ 1074 : Nat) : Int) * ((2 ^ 1074 : Nat) : Int) := by
    rw [za, ← signed_mul, ← signed_mul, ← signed_mul]
    exact congrArg (signed s) (pw3 (A := (q - r - 2 * b64.qmin).toNat) (D := 1074) (E := 1074) c (by omega))
  have ev : ∀ V : Int, V * ((2 ^ (b64.qmin - 2 * b64.qmin).toNat * d : Nat) : Int) * ((2 ^ (r - b64.qmin).toNat : Nat) : Int) = V * zval b64 (.fin false d r) * ((2 ^ 1074 : Nat) : Int) := fun V => by
    rw [zb, show (b64.qmin - 2 * b64.qmin).toNat = 1074 by decide]
    exact ev_aux V 1074 d _
  have p1074 := pw_pos 1074
  refine ⟨hn, fun {k lo} hl hk h1 => ?_, fun {k hi} hh hk h2 => ?_⟩
  · obtain ⟨s1, c1, q1, f1, e1⟩ := rep hl hk
    unfold zv; rw [hv, ← e1]
    refine ratio_ge hd f1 (by simp) (e0 := 2 * b64.qmin) (by decide) (by omega) ?_
    refine Int.le_of_mul_le_mul_right ?_ hP
    rw [ev, ex, e1]
    exact Int.mul_le_mul_of_nonneg_right h1 (Int.le_of_lt p1074)
  · obtain ⟨s2, c2, q2, f2, e2⟩ := rep hh hk
    unfold zv; rw [hv, ← e2]
    refine ratio_le hd f2 (by simp) (e0 := 2 * b64.qmin) (by decide) (by omega) ?_
    refine Int.le_of_mul_le_mul_right ?_ hP
    rw [ev, ex, e2]
    exact Int.mul_le_mul_of_nonneg_right h2 (Int.le_of_lt p1074)
/-- between lo and hi -/
theorem div_z {a b : UInt64} {k : Nat} {lo hi : Int} (fa : DFin a) (fb : DFin b) (hb : 0 < zv b) (h1 : lo * ((2 ^ k : Nat) : Int) * zv b ≤ zv a * ((2 ^ 1074 : Nat) : Int)) (h2 : zv a * ((2 ^ 1074 : Nat) : Int) ≤ hi * ((2 ^ k : Nat) : Int) * zv b) (hl : lo.natAbs ≤ 2 ^ 53) (hh : hi.natAbs ≤ 2 ^ 53) (hk : k ≤ 2044) : DB k lo hi (FP.ddiv a b) := by
  obtain ⟨n, ge, le⟩ := div_zz fa fb hb
  exact fin_between hl hh hk n (ge hl hk h1) (le hh hk h2)
/-- the quotient of two known numbers, the second one positive -/
theorem div_b {a b : UInt64} {k k1 k2 : Nat} {i j lo hi : Int} (ha : DE k1 i a) (hb : DE k2 j b) (hj : 0 < j) (hk : k1 + 1074 = k + k2) (hlo : lo * j ≤ i) (hhi : i ≤ hi * j) (hl : lo.natAbs ≤ 2 ^ 53) (hh : hi.natAbs ≤ 2 ^ 53) (hk' : k ≤ 2044) : DB k lo hi (FP.ddiv a b) := by
  have p2 := pw_pos k2
  have e : ∀ x : Int, x * ((2 ^ k : Nat) : Int) * zv b = x * j * ((2 ^ (k1 + 1074) : Nat) : Int) := fun x => by
    rw [hb.eq, hk, pw_add]
    simp only [Int.mul_assoc, Int.mul_left_comm]
  have e2 : zv a * ((2 ^ 1074 : Nat) : Int) = i * ((2 ^ (k1 + 1074) : Nat) : Int) := by rw [ha.eq, pw_add, Int.mul_assoc]
  refine div_z ha.1 hb.1 (by rw [hb.eq]; exact Int.mul_pos hj p2) ?_ ?_ hl hh hk'
  · rw [e, e2]; exact Int.mul_le_mul_of_nonneg_right hlo (Int.le_of_lt (pw_pos _))
  · rw [e, e2]; exact Int.mul_le_mul_of_nonneg_right hhi (Int.le_of_lt (pw_pos _))
theorem div_e {a b : UInt64} {k k1 k2 : Nat} {i j n : Int} (ha : DE k1 i a) (hb : DE k2 j b) (hj : 0 < j) (hk : k1 + 1074 = k + k2) (hn : n * j = i) (hh : n.natAbs ≤ 2 ^ 53) (hk' : k ≤ 2044) : DE k n (FP.ddiv a b) :=
  div_b ha hb hj hk (Int.le_of_eq hn) (Int.le_of_eq hn.symm) hh hh hk'
theorem add_e {a b : UInt64} {k : Nat} {i j n : Int} (ha : DE k i a) (hb : DE k j b) (hn : i + j = n) (hh : n.natAbs ≤ 2 ^ 53) (hk : k ≤ 2044) : DE k n (FP.dadd a b) := add_b ha hb (Int.le_of_eq hn.symm) (Int.le_of_eq hn) hh hh hk
theorem sub_e {a b : UInt64} {k : Nat} {i j n : Int} (ha : DE k i a) (hb : DE k j b) (hn : i - j = n) (hh : n.natAbs ≤ 2 ^ 53) (hk : k ≤ 2044) : DE k n (FP.dsub a b) := sub_b ha hb (Int.le_of_eq hn.symm) (Int.le_of_eq hn) hh hh hk
theorem i2d_e (x : Int32) : DE 1074 x.toInt (FP.i2d x) := DE.of (Core.i2d_fin x) (DInt_zval (i2d_int x))
theorem l2d_e {x : Int64} (h : x.toInt.natAbs ≤ 2 ^ 53) : DE 1074 x.toInt (FP.l2d x) := DE.of (Core.l2d_fin x) (DInt_zval (l2d_int h))
theorem zero_e (k : Nat) : DE k 0 FP.dconst0 := DE.of ⟨_, _, _, rfl⟩ (by rw [Int.zero_mul]; exact zval64_zero)
/-- in smaller units -/
theorem DB.down {a : UInt64} {k : Nat} {lo hi : Int} (h : DB k lo hi a) {k' n : Nat} (hk : k = k' + n) : DB k' (lo * ((2 ^ n : Nat) : Int)) (hi * ((2 ^ n : Nat) : Int)) a := by
  subst hk
  refine ⟨h.1, ?_, ?_⟩
  · have := h.2.1; rw [Nat.add_comm, pw_add, ← Int.mul_assoc] at this; exact this
  · have := h.2.2; rw [Nat.add_comm, pw_add, ← Int.mul_assoc] at this; exact this
/-- the quotient from below alone -/
theorem div_ge {a b : UInt64} {k k1 k2 : Nat} {i j lo : Int} (ha : DE k1 i a) (hb : DE k2 j b) (hj : 0 < j) (hk : k1 + 1074 = k + k2) (hlo : lo * j ≤ i) (hl : lo.natAbs ≤ 2 ^ 53) (hk' : k ≤ 2044) : lo * ((2 ^ k : Nat) : Int) ≤ zv (FP.ddiv a b) := by
  have p2 := pw_pos k2
  have e : ∀ x : Int, x * ((2 ^ k : Nat) : Int) * zv b = x * j * ((2 ^ (k1 + 1074) : Nat) : Int) := fun x => by
    rw [hb.eq, hk, pw_add]
    simp only [Int.mul_assoc, Int.mul_left_comm]
  have e2 : zv a * ((2 ^ 1074 : Nat) : Int) = i * ((2 ^ (k1 + 1074) : Nat) : Int) := by rw [ha.eq, pw_add, Int.mul_assoc]
  refine (div_zz ha.1 hb.1 (by rw [hb.eq]; exact Int.mul_pos hj p2)).2.1 hl hk' ?_
  rw [e, e2]; exact Int.mul_le_mul_of_nonneg_right hlo (Int.le_of_lt (pw_pos _))
/-- in greater units -/
theorem DB.up {a : UInt64} {k : Nat} {lo hi : Int} {n : Nat} (h : DB k (lo * ((2 ^ n : Nat) : Int)) (hi * ((2 ^ n : Nat) : Int)) a) : DB (k + n) lo hi a := by
  refine ⟨h.1, ?_, ?_⟩
  · have := h.2.1; rw [Int.mul_assoc, ← pw_add, Nat.add_comm] at this; exact this
  · have := h.2.2; rw [Int.mul_assoc, ← pw_add, Nat.add_comm] at this; exact this
/-- the product of two known numbers, between two that lie on a grid 2^g times as coarse -/
theorem mul_g {a b : UInt64} {k k1 k2 g : Nat} {i j lo hi : Int} (ha : DE k1 i a) (hb : DE k2 j b) (hk : k1 + k2 + g = k + 1074) (hlo : lo * ((2 ^ g : Nat) : Int) ≤ i * j) (hhi : i * j ≤ hi * ((2 ^ g : Nat) : Int)) (hl : lo.natAbs ≤ 2 ^ 53) (hh : hi.natAbs ≤ 2 ^ 53) (hk' : k ≤ 2044) : DB k lo hi (FP.dmul a b) := by
  have e : zv a * zv b = i * j * ((2 ^ (k1 + k2) : Nat) : Int) := by
    rw [ha.eq, hb.eq, pw_add]
    simp only [Int.mul_assoc, Int.mul_left_comm]
  have e2 : ∀ x : Int, x * ((2 ^ k : Nat) : Int) * ((2 ^ 1074 : Nat) : Int) = x * ((2 ^ g : Nat) : Int) * ((2 ^ (k1 + k2) : Nat) : Int) := fun x => by
    rw [Int.mul_assoc, ← pw_add, ← hk, Nat.add_comm, pw_add, ← Int.mul_assoc]
  refine mul_z ha.1 hb.1 ?_ ?_ hl hh hk'
  · rw [e, e2]; exact Int.mul_le_mul_of_nonneg_right hlo (Int.le_of_lt (pw_pos _))
  · rw [e, e2]; exact Int.mul_le_mul_of_nonneg_right hhi (Int.le_of_lt (pw_pos _))
theorem DB.wide {a : UInt64} {k : Nat} {lo hi lo' hi' : Int} (h : DB k lo hi a) (h1 : lo' ≤ lo) (h2 : hi ≤ hi') : DB k lo' hi' a :=
  ⟨h.1, Int.le_trans (Int.mul_le_mul_of_nonneg_right h1 (Int.le_of_lt (pw_pos k))) h.2.1, Int.le_trans h.2.2 (Int.mul_le_mul_of_nonneg_right h2 (Int.le_of_lt (pw_pos k)))⟩
theorem DE.cmp {a b : UInt64} {k : Nat} {i j : Int} (ha : DE k i a) (hb : DE k j b) : FP.dcmp a b = some (compare i j) := by
  rw [show FP.dcmp a b = some (compare (zv a) (zv b)) from dcmp_zval ha.ne hb.ne, ha.eq, hb.eq, compare_mul_pos _ _ _ (pw_pos k)]
theorem DB.lt {a b : UInt64} {k : Nat} {l1 h1 l2 h2 : Int} (ha : DB k l1 h1 a) (hb : DB k l2 h2 b) (h : h1 < l2) : FP.dcmp a b = some .lt := by
  rw [show FP.dcmp a b = some (compare (zv a) (zv b)) from dcmp_zval ha.ne hb.ne]
  congr 1
  rw [compare_lt_iff]
  have := Int.mul_lt_mul_of_pos_right h (pw_pos k)
  have := ha.2.2; have := hb.2.1
  omega
theorem DB.gt {a b : UInt64} {k : Nat} {l1 h1 l2 h2 : Int} (ha : DB k l1 h1 a) (hb : DB k l2 h2 b) (h : h2 < l1) : FP.dcmp a b = some .gt := by
  rw [show FP.dcmp a b = some (compare (zv a) (zv b)) from dcmp_zval ha.ne hb.ne]
  congr 1
  rw [compare_gt_iff]
  have := Int.mul_lt_mul_of_pos_right h (pw_pos k)
  have := ha.2.1; have := hb.2.2
  omega
/-- two doubles of one value that isn't nought are one -/
theorem DE.uniq {a b : UInt64} {k : Nat} {i : Int} (ha : DE k i a) (hb : DE k i b) (hi : i ≠ 0) : a = b := by
  have h1 := dcmp_key ha.ne hb.ne
  rw [dcmp_zval ha.ne hb.ne] at h1
  have e : zval b64 (val64 a) = zval b64 (val64 b) := (ha.eq).trans hb.eq.symm
  have h2 := Option.some.inj h1
  rw [(compare_eq_iff _ _).mpr e] at h2
  have h3 := (compare_eq_iff _ _).mp h2.symm
  have nz : ∀ {c : UInt64}, DE k i c → dkey c ≠ 0 := fun {c} hc h0 => by
    have q := dcmp_key hc.ne (b := 0) (by rw [val64_zero]; simp)
    rw [dcmp_zval hc.ne (by rw [val64_zero]; simp), zval64_zero] at q
    have q2 := Option.some.inj q
    have z : dkey 0 = 0 := by decide
    rw [h0, z, (compare_eq_iff (0 : Int) 0).mpr rfl] at q2
    have q3 := (compare_eq_iff _ _).mp q2
    have q4 : zv c = 0 := q3
    rw [hc.eq] at q4
    rcases Int.mul_eq_zero.mp q4 with q5 | q5
    · exact hi q5
    · have := pw_pos k; omega
  have n1 := nz ha
  have n2 := nz hb
  unfold dkey at h3 n1 n2
  apply UInt64.toNat_inj.mp
  have l1 := a.toNat_lt; have l2 := b.toNat_lt
  split at h3 <;> split at h3 <;> simp_all <;> omega
end Jvm.Pilot.@@N@@.Own
namespace Jvm.Pilot.@@N@@.Own
open Jvm Jvm.ClassFile Sem Op Lib Jvm.Free Jvm.Stand Jvm.LawKit Jvm.RoadKit
theorem lshr_v {tb : Tables} [Ours tb] {e : Env} {below : List Frame} {T target : State} {m : MethodId} {c : Code} {g : JFrame} (h : At T m c below) (hx : tb.exec = Jvm.exec) (hg : g.method = m) {x : Int64} {y : Int32} {v : Int64} {rest : List Value} (hd : decode c.code g.pc = .ok (.lshr, 1)) (hs : g.stack = .int y :: .long x :: rest) (hv : (x >>> (y &&& 0x3f).toInt64) = v)
    (hr : Steps tb e below (T.setTop { g with pc := g.pc + 1, stack := .long v :: rest }) target) : Steps tb e below (T.setTop g) target := by subst hv; exact XS.lshr h hx hg hd hs hr
theorem l2i_v {tb : Tables} [Ours tb] {e : Env} {below : List Frame} {T target : State} {m : MethodId} {c : Code} {g : JFrame} (h : At T m c below) (hx : tb.exec = Jvm.exec) (hg : g.method = m) {x : Int64} {v : Int32} {rest : List Value} (hd : decode c.code g.pc = .ok (.l2i, 1)) (hs : g.stack = .long x :: rest) (hv : x.toInt32 = v)
    (hr : Steps tb e below (T.setTop { g with pc := g.pc + 1, stack := .int v :: rest }) target) : Steps tb e below (T.setTop g) target := by subst hv; exact XS.l2i h hx hg hd hs hr
theorem i2l_v {tb : Tables} [Ours tb] {e : Env} {below : List Frame} {T target : State} {m : MethodId} {c : Code} {g : JFrame} (h : At T m c below) (hx : tb.exec = Jvm.exec) (hg : g.method = m) {x : Int32} {v : Int64} {rest : List Value} (hd : decode c.code g.pc = .ok (.i2l, 1)) (hs : g.stack = .int x :: rest) (hv : x.toInt64 = v)
    (hr : Steps tb e below (T.setTop { g with pc := g.pc + 1, stack := .long v :: rest }) target) : Steps tb e below (T.setTop g) target := by subst hv; exact XS.i2l h hx hg hd hs hr
theorem lushr_v {tb : Tables} [Ours tb] {e : Env} {below : List Frame} {T target : State} {m : MethodId} {c : Code} {g : JFrame} (h : At T m c below) (hx : tb.exec = Jvm.exec) (hg : g.method = m) {x : Int64} {y : Int32} {v : Int64} {rest : List Value} (hd : decode c.code g.pc = .ok (.lushr, 1)) (hs : g.stack = .int y :: .long x :: rest) (hv : ((x.toUInt64 >>> (y &&& 0x3f).toInt64.toUInt64).toInt64) = v)
    (hr : Steps tb e below (T.setTop { g with pc := g.pc + 1, stack := .long v :: rest }) target) : Steps tb e below (T.setTop g) target := by subst hv; exact XS.lushr h hx hg hd hs hr
theorem land_v {tb : Tables} [Ours tb] {e : Env} {below : List Frame} {T target : State} {m : MethodId} {c : Code} {g : JFrame} (h : At T m c below) (hx : tb.exec = Jvm.exec) (hg : g.method = m) {x : Int64} {y : Int64} {v : Int64} {rest : List Value} (hd : decode c.code g.pc = .ok (.land, 1)) (hs : g.stack = .long y :: .long x :: rest) (hv : x &&& y = v)
    (hr : Steps tb e below (T.setTop { g with pc := g.pc + 1, stack := .long v :: rest }) target) : Steps tb e below (T.setTop g) target := by subst hv; exact XS.land h hx hg hd hs hr
theorem ladd_v {tb : Tables} [Ours tb] {e : Env} {below : List Frame} {T target : State} {m : MethodId} {c : Code} {g : JFrame} (h : At T m c below) (hx : tb.exec = Jvm.exec) (hg : g.method = m) {x : Int64} {y : Int64} {v : Int64} {rest : List Value} (hd : decode c.code g.pc = .ok (.ladd, 1)) (hs : g.stack = .long y :: .long x :: rest) (hv : x + y = v)
    (hr : Steps tb e below (T.setTop { g with pc := g.pc + 1, stack := .long v :: rest }) target) : Steps tb e below (T.setTop g) target := by subst hv; exact XS.ladd h hx hg hd hs hr
theorem lsub_v {tb : Tables} [Ours tb] {e : Env} {below : List Frame} {T target : State} {m : MethodId} {c : Code} {g : JFrame} (h : At T m c below) (hx : tb.exec = Jvm.exec) (hg : g.method = m) {x : Int64} {y : Int64} {v : Int64} {rest : List Value} (hd : decode c.code g.pc = .ok (.lsub, 1)) (hs : g.stack = .long y :: .long x :: rest) (hv : x - y = v)
    (hr : Steps tb e below (T.setTop { g with pc := g.pc + 1, stack := .long v :: rest }) target) : Steps tb e below (T.setTop g) target := by subst hv; exact XS.lsub h hx hg hd hs hr
end Jvm.Pilot.@@N@@.Own
namespace Jvm.Pilot.@@N@@
open Jvm Jvm.ClassFile Sem Op Lib Jvm.Free Jvm.Stand Jvm.LawKit Jvm.RoadKit Bundle Jvm.Pilot.@@N@@.Jvm.D Jvm.Pilot.@@N@@.Own
theorem pd_0 : parseMethodDescriptor "()V" = some ⟨[], none⟩ := by decide +kernel
theorem pd_1 : parseMethodDescriptor "(JJ)J" = some ⟨[.long, .long], some .long⟩ := by decide +kernel
theorem pd_2 : parseMethodDescriptor "(DDDD)V" = some ⟨[.double, .double, .double, .double], none⟩ := by decide +kernel
theorem pd_3 : parseMethodDescriptor "(DDDD)Z" = some ⟨[.double, .double, .double, .double], some .boolean⟩ := by decide +kernel
theorem pd_4 : parseMethodDescriptor "(JJJJ)Z" = some ⟨[.long, .long, .long, .long], some .boolean⟩ := by decide +kernel
theorem d1_0 : decode jdk_30_method_1_code 0 = .ok (.aload_n 0, 1) := by decide +kernel
theorem d1_1 : decode jdk_30_method_1_code 1 = .ok (.invokespecial 1, 3) := by decide +kernel
theorem d1_4 : decode jdk_30_method_1_code 4 = .ok (.return_, 1) := by decide +kernel
theorem pn_1 : plainName "java/lang/Record" = true := by first | (simp [plainName, overriddenIn]; done) | decide +kernel
theorem ef_1 (m : MethodId) (x0 : Addr) : entryFrame m #[(.ref x0)] 1 = mkF m 0 #[.val (.ref x0)] [] := by first | (simp [entryFrame, mkF, argsToLocals, Value.category]; done) | rfl
def Q1 (Z : State) (a : Addr) (h0 : Heap) (n0 : Nat) (v : Option Value) (h : Heap) (L : List Loc) : Prop := v = none ∧ Fr n0 L ∧ h = h0
set_option maxRecDepth 65536 in
set_option maxHeartbeats 40000000 in
theorem rm1 (l : Launch) (Z : State) (a0 : Array Value) (hw : ∀ d ∈ tables_1, d.before a0 Z = true) (ws : List Jvm.Cond) (a : Addr) (h0 : Heap) (n0 : Nat) (Z0 : n0 ≤ h0.size) :
    MetFree l (⟨"java/lang/Record", "<init>", "()V"⟩ : MethodName) (head1 (Jvm.Cond.code (⟨"java/lang/Record", "<init>", "()V"⟩ : MethodName) jdk_30_method_1_code 1 none :: ws) ({ frames := 1, cells := 0, slots := 0, locals := 12 } : Room)) (fun a_ U => a_ = #[(.ref a)] ∧ Z.Warmed39 U.vm ∧ U.heap = h0) (fun _ _ _ _ _ => True) (fun _ U o U' => ∃ v L, o = .returned v ∧ Q1 Z a h0 n0 v U'.heap L ∧ FrameEnd U o U' L (({ frames := 1, cells := 0, slots := 0, locals := 12 } : Room)).cells (({ frames := 1, cells := 0, slots := 0, locals := 12 } : Room)).slots) := by
  refine MetFree.of_bodySF (plainFor_of_name pn_1) hisR ?_
  intro p e s m args below meth c s₁ Bd hml0 hP0 hK
  obtain ⟨rfl, hZ, hh⟩ := hP0
  have hx := Bd.exec
  have hby := Bd.bytes
  have hml : c.maxLocals = 1 := hml0
  have hown : s.vm.findClass "java/lang/Record" = some m.cls := findClass_of_methodNamed Bd.named
  have hnm := (name_of_methodNamed Bd.named Bd.method).1
  have X0 : Stand p l e ({ frames := 1, cells := 0, slots := 0, locals := 12 } : Room) s m #[(.ref a)] below meth c s₁ [] 0 0 := Stand.of_body Bd
  have e0 : s₁.heap = h0 := by rw [← hh, Bd.state]; rfl
  have N0 := Fr.nil n0
  have hlk : meth.locks = false := BodyLoose.notSynchronized Bd
  refine Go.start (P₀ := fun s₂ o => ∃ v L, o = .returned v ∧ Q1 Z a h0 n0 v s₂.heap L ∧ FrameEnd s o s₂ L (({ frames := 1, cells := 0, slots := 0, locals := 12 } : Room)).cells (({ frames := 1, cells := 0, slots := 0, locals := 12 } : Room)).slots) (congrArg s₁.setTop (ef_1 m a)) ?_
  intro P hP
  show Go p.tables e below P (s₁.setTop (mkF m 0 #[.val (.ref a)] []))
  refine Go.step (fun t k => XS.aloadN X0.here hx rfl (hb hby d1_0) rfl rfl k) ?_
  show Go p.tables e below P (s₁.setTop (mkF m 1 #[.val (.ref a)] [(.ref a)]))
  obtain ⟨T1, X1, e1, st1⟩ := initO X0 hx hZ hown (hw _ (List.mem_of_getElem? (i := 12) rfl)) (hw _ (List.mem_of_getElem? (i := 13) rfl)) (hw _ (List.mem_of_getElem? (i := 14) rfl)) e0 (g := (mkF m 1 #[.val (.ref a)] [(.ref a)])) rfl (by rw [hml]; rfl) rfl (hb hby d1_1) (by decide) (W := 0) (by show 2 * 0 + _ ≤ _; exact Nat.le_of_eq rfl) (by decide)
  refine Go.step (fun t k => st1 t k) ?_
  show Go p.tables e below P (T1.setTop (mkF m 4 #[.val (.ref a)] []))
  exact voidGo X1 hx hP Bd.returns hlk (hb hby d1_4) (by decide) (by decide) (by rw [e1]; exact ⟨rfl, N0, rfl⟩)
theorem d2_0 : decode jdk_29_method_66_code 0 = .ok (.lload_n 0, 1) := by decide +kernel
theorem d2_1 : decode jdk_29_method_66_code 1 = .ok (.lload_n 2, 1) := by decide +kernel
theorem d2_2 : decode jdk_29_method_66_code 2 = .ok (.lcmp, 1) := by decide +kernel
theorem d2_3 : decode jdk_29_method_66_code 3 = .ok (.ifCond .lt 7, 3) := by decide +kernel
theorem d2_6 : decode jdk_29_method_66_code 6 = .ok (.lload_n 0, 1) := by decide +kernel
theorem d2_7 : decode jdk_29_method_66_code 7 = .ok (.goto 4, 3) := by decide +kernel
theorem d2_10 : decode jdk_29_method_66_code 10 = .ok (.lload_n 2, 1) := by decide +kernel
theorem d2_11 : decode jdk_29_method_66_code 11 = .ok (.lreturn, 1) := by decide +kernel
theorem ef_2 (m : MethodId) (x0 : Int64) (x1 : Int64) : entryFrame m #[(.long x0), (.long x1)] 4 = mkF m 0 #[.val (.long x0), .second, .val (.long x1), .second] [] := by first | (simp [entryFrame, mkF, argsToLocals, Value.category]; done) | rfl
def Q2 (Z : State) (u1 : Int64) (u2 : Int64) (h0 : Heap) (n0 : Nat) (v : Option Value) (h : Heap) (L : List Loc) : Prop := ∃ r : Int64, v = some (.long r) ∧ r.toInt = max u1.toInt u2.toInt ∧ Fr n0 L ∧ h = h0
set_option maxRecDepth 65536 in
set_option maxHeartbeats 40000000 in
theorem rm2 (l : Launch) (Z : State) (a0 : Array Value) (hw : ∀ d ∈ tables_1, d.before a0 Z = true) (ws : List Jvm.Cond) (u1 : Int64) (u2 : Int64) (h0 : Heap) (n0 : Nat) (Z0 : n0 ≤ h0.size) :
    MetFree l (⟨"java/lang/Math", "max", "(JJ)J"⟩ : MethodName) (head1 (Jvm.Cond.code (⟨"java/lang/Math", "max", "(JJ)J"⟩ : MethodName) jdk_29_method_66_code 4 (some .long) :: ws) ({ frames := 0, cells := 0, slots := 0, locals := 0 } : Room)) (fun a_ U => a_ = #[(.long u1), (.long u2)] ∧ Z.Warmed39 U.vm ∧ U.heap = h0) (fun _ _ _ _ _ => True) (fun _ U o U' => ∃ v L, o = .returned v ∧ Q2 Z u1 u2 h0 n0 v U'.heap L ∧ FrameEnd U o U' L (({ frames := 0, cells := 0, slots := 0, locals := 0 } : Room)).cells (({ frames := 0, cells := 0, slots := 0, locals := 0 } : Room)).slots) := by
  refine MetFree.of_bodySF (Jvm.Free.JP.mathPlain rfl (by decide +kernel)) hisR ?_
  intro p e s m args below meth c s₁ Bd hml0 hP0 hK
  obtain ⟨rfl, hZ, hh⟩ := hP0
  have hx := Bd.exec
  have hby := Bd.bytes
  have hml : c.maxLocals = 4 := hml0
  have hown : s.vm.findClass "java/lang/Math" = some m.cls := findClass_of_methodNamed Bd.named
  have hnm := (name_of_methodNamed Bd.named Bd.method).1
  have X0 : Stand p l e ({ frames := 0, cells := 0, slots := 0, locals := 0 } : Room) s m #[(.long u1), (.long u2)] below meth c s₁ [] 0 0 := Stand.of_body Bd
  have e0 : s₁.heap = h0 := by rw [← hh, Bd.state]; rfl
  have N0 := Fr.nil n0
  have hlk : meth.locks = false := BodyLoose.notSynchronized Bd
  refine Go.start (P₀ := fun s₂ o => ∃ v L, o = .returned v ∧ Q2 Z u1 u2 h0 n0 v s₂.heap L ∧ FrameEnd s o s₂ L (({ frames := 0, cells := 0, slots := 0, locals := 0 } : Room)).cells (({ frames := 0, cells := 0, slots := 0, locals := 0 } : Room)).slots) (congrArg s₁.setTop (ef_2 m u1 u2)) ?_
  intro P hP
  show Go p.tables e below P (s₁.setTop (mkF m 0 #[.val (.long u1), .second, .val (.long u2), .second] []))
  refine Go.step (fun t k => XS.lloadN X0.here hx rfl (hb hby d2_0) rfl  k) ?_
  show Go p.tables e below P (s₁.setTop (mkF m 1 #[.val (.long u1), .second, .val (.long u2), .second] [(.long u1)]))
  refine Go.step (fun t k => XS.lloadN X0.here hx rfl (hb hby d2_1) rfl  k) ?_
  show Go p.tables e below P (s₁.setTop (mkF m 2 #[.val (.long u1), .second, .val (.long u2), .second] [(.long u2), (.long u1)]))
  refine Go.step (fun t k => XS.lcmp X0.here hx rfl (hb hby d2_2) rfl k) ?_
  show Go p.tables e below P (s₁.setTop (mkF m 3 #[.val (.long u1), .second, .val (.long u2), .second] [(.int (lcmpW u1 u2))]))
  by_cases hc3 : u1.toInt < u2.toInt
  · refine Go.step (fun t k => XS.ifYes X0.here hx rfl (pc0 := 3) (pc' := 10) rfl (hb hby d2_3) rfl (lcY (cd := .lt) hc3) (by decide) (by decide) k) ?_
    show Go p.tables e below P (s₁.setTop (mkF m 10 #[.val (.long u1), .second, .val (.long u2), .second] []))
    refine Go.step (fun t k => XS.lloadN X0.here hx rfl (hb hby d2_10) rfl  k) ?_
    show Go p.tables e below P (s₁.setTop (mkF m 11 #[.val (.long u1), .second, .val (.long u2), .second] [(.long u2)]))
    exact retGo X0 hx hP Bd.returns hlk rfl (Or.inr (Or.inl ⟨rfl, rfl, _, rfl⟩)) (hb hby d2_11) (by decide) (by decide) (by rw [e0]; exact ⟨u2, rfl, by omega, N0, rfl⟩)
  · refine Go.step (fun t k => XS.ifNo X0.here hx rfl (hb hby d2_3) rfl (lcN (cd := .lt) hc3) k) ?_
    show Go p.tables e below P (s₁.setTop (mkF m 6 #[.val (.long u1), .second, .val (.long u2), .second] []))
    refine Go.step (fun t k => XS.lloadN X0.here hx rfl (hb hby d2_6) rfl  k) ?_
    show Go p.tables e below P (s₁.setTop (mkF m 7 #[.val (.long u1), .second, .val (.long u2), .second] [(.long u1)]))
    refine Go.step (fun t k => XS.goto X0.here hx rfl (pc0 := 7) (pc' := 11) rfl (hb hby d2_7) (by decide) (by decide) k) ?_
    show Go p.tables e below P (s₁.setTop (mkF m 11 #[.val (.long u1), .second, .val (.long u2), .second] [(.long u1)]))
    exact retGo X0 hx hP Bd.returns hlk rfl (Or.inr (Or.inl ⟨rfl, rfl, _, rfl⟩)) (hb hby d2_11) (by decide) (by decide) (by rw [e0]; exact ⟨u1, rfl, by omega, N0, rfl⟩)
theorem d3_0 : decode jdk_29_method_70_code 0 = .ok (.lload_n 0, 1) := by decide +kernel
theorem d3_1 : decode jdk_29_method_70_code 1 = .ok (.lload_n 2, 1) := by decide +kernel
theorem d3_2 : decode jdk_29_method_70_code 2 = .ok (.lcmp, 1) := by decide +kernel
theorem d3_3 : decode jdk_29_method_70_code 3 = .ok (.ifCond .gt 7, 3) := by decide +kernel
theorem d3_6 : decode jdk_29_method_70_code 6 = .ok (.lload_n 0, 1) := by decide +kernel
theorem d3_7 : decode jdk_29_method_70_code 7 = .ok (.goto 4, 3) := by decide +kernel
theorem d3_10 : decode jdk_29_method_70_code 10 = .ok (.lload_n 2, 1) := by decide +kernel
theorem d3_11 : decode jdk_29_method_70_code 11 = .ok (.lreturn, 1) := by decide +kernel
theorem ef_3 (m : MethodId) (x0 : Int64) (x1 : Int64) : entryFrame m #[(.long x0), (.long x1)] 4 = mkF m 0 #[.val (.long x0), .second, .val (.long x1), .second] [] := by first | (simp [entryFrame, mkF, argsToLocals, Value.category]; done) | rfl
def Q3 (Z : State) (u1 : Int64) (u2 : Int64) (h0 : Heap) (n0 : Nat) (v : Option Value) (h : Heap) (L : List Loc) : Prop := ∃ r : Int64, v = some (.long r) ∧ r.toInt = min u1.toInt u2.toInt ∧ Fr n0 L ∧ h = h0
set_option maxRecDepth 65536 in
set_option maxHeartbeats 40000000 in
theorem rm3 (l : Launch) (Z : State) (a0 : Array Value) (hw : ∀ d ∈ tables_1, d.before a0 Z = true) (ws : List Jvm.Cond) (u1 : Int64) (u2 : Int64) (h0 : Heap) (n0 : Nat) (Z0 : n0 ≤ h0.size) :
    MetFree l (⟨"java/lang/Math", "min", "(JJ)J"⟩ : MethodName) (head1 (Jvm.Cond.code (⟨"java/lang/Math", "min", "(JJ)J"⟩ : MethodName) jdk_29_method_70_code 4 (some .long) :: ws) ({ frames := 0, cells := 0, slots := 0, locals := 0 } : Room)) (fun a_ U => a_ = #[(.long u1), (.long u2)] ∧ Z.Warmed39 U.vm ∧ U.heap = h0) (fun _ _ _ _ _ => True) (fun _ U o U' => ∃ v L, o = .returned v ∧ Q3 Z u1 u2 h0 n0 v U'.heap L ∧ FrameEnd U o U' L (({ frames := 0, cells := 0, slots := 0, locals := 0 } : Room)).cells (({ frames := 0, cells := 0, slots := 0, locals := 0 } : Room)).slots) := by
  refine MetFree.of_bodySF (Jvm.Free.JP.mathPlain rfl (by decide +kernel)) hisR ?_
  intro p e s m args below meth c s₁ Bd hml0 hP0 hK
  obtain ⟨rfl, hZ, hh⟩ := hP0
  have hx := Bd.exec
  have hby := Bd.bytes
  have hml : c.maxLocals = 4 := hml0
  have hown : s.vm.findClass "java/lang/Math" = some m.cls := findClass_of_methodNamed Bd.named
  have hnm := (name_of_methodNamed Bd.named Bd.method).1
  have X0 : Stand p l e ({ frames := 0, cells := 0, slots := 0, locals := 0 } : Room) s m #[(.long u1), (.long u2)] below meth c s₁ [] 0 0 := Stand.of_body Bd
  have e0 : s₁.heap = h0 := by rw [← hh, Bd.state]; rfl
  have N0 := Fr.nil n0
  have hlk : meth.locks = false := BodyLoose.notSynchronized Bd
  refine Go.start (P₀ := fun s₂ o => ∃ v L, o = .returned v ∧ Q3 Z u1 u2 h0 n0 v s₂.heap L ∧ FrameEnd s o s₂ L (({ frames := 0, cells := 0, slots := 0, locals := 0 } : Room)).cells (({ frames := 0, cells := 0, slots := 0, locals := 0 } : Room)).slots) (congrArg s₁.setTop (ef_3 m u1 u2)) ?_
  intro P hP
  show Go p.tables e below P (s₁.setTop (mkF m 0 #[.val (.long u1), .second, .val (.long u2), .second] []))
  refine Go.step (fun t k => XS.lloadN X0.here hx rfl (hb hby d3_0) rfl  k) ?_
  show Go p.tables e below P (s₁.setTop (mkF m 1 #[.val (.long u1), .second, .val (.long u2), .second] [(.long u1)]))
  refine Go.step (fun t k => XS.lloadN X0.here hx rfl (hb hby d3_1) rfl  k) ?_
  show Go p.tables e below P (s₁.setTop (mkF m 2 #[.val (.long u1), .second, .val (.long u2), .second] [(.long u2), (.long u1)]))
  refine Go.step (fun t k => XS.lcmp X0.here hx rfl (hb hby d3_2) rfl k) ?_
  show Go p.tables e below P (s₁.setTop (mkF m 3 #[.val (.long u1), .second, .val (.long u2), .second] [(.int (lcmpW u1 u2))]))
  by_cases hc3 : u2.toInt < u1.toInt
  · refine Go.step (fun t k => XS.ifYes X0.here hx rfl (pc0 := 3) (pc' := 10) rfl (hb hby d3_3) rfl (lcY (cd := .gt) hc3) (by decide) (by decide) k) ?_
    show Go p.tables e below P (s₁.setTop (mkF m 10 #[.val (.long u1), .second, .val (.long u2), .second] []))
    refine Go.step (fun t k => XS.lloadN X0.here hx rfl (hb hby d3_10) rfl  k) ?_
    show Go p.tables e below P (s₁.setTop (mkF m 11 #[.val (.long u1), .second, .val (.long u2), .second] [(.long u2)]))
    exact retGo X0 hx hP Bd.returns hlk rfl (Or.inr (Or.inl ⟨rfl, rfl, _, rfl⟩)) (hb hby d3_11) (by decide) (by decide) (by rw [e0]; exact ⟨u2, rfl, by omega, N0, rfl⟩)
  · refine Go.step (fun t k => XS.ifNo X0.here hx rfl (hb hby d3_3) rfl (lcN (cd := .gt) hc3) k) ?_
    show Go p.tables e below P (s₁.setTop (mkF m 6 #[.val (.long u1), .second, .val (.long u2), .second] []))
    refine Go.step (fun t k => XS.lloadN X0.here hx rfl (hb hby d3_6) rfl  k) ?_
    show Go p.tables e below P (s₁.setTop (mkF m 7 #[.val (.long u1), .second, .val (.long u2), .second] [(.long u1)]))
    refine Go.step (fun t k => XS.goto X0.here hx rfl (pc0 := 7) (pc' := 11) rfl (hb hby d3_7) (by decide) (by decide) k) ?_
    show Go p.tables e below P (s₁.setTop (mkF m 11 #[.val (.long u1), .second, .val (.long u2), .second] [(.long u1)]))
    exact retGo X0 hx hP Bd.returns hlk rfl (Or.inr (Or.inl ⟨rfl, rfl, _, rfl⟩)) (hb hby d3_11) (by decide) (by decide) (by rw [e0]; exact ⟨u1, rfl, by omega, N0, rfl⟩)
theorem d4_0 : decode prog_9_method_1_code 0 = .ok (.aload_n 0, 1) := by decide +kernel
theorem d4_1 : decode prog_9_method_1_code 1 = .ok (.invokespecial 1, 3) := by decide +kernel
theorem d4_4 : decode prog_9_method_1_code 4 = .ok (.aload_n 0, 1) := by decide +kernel
theorem d4_5 : decode prog_9_method_1_code 5 = .ok (.dload_n 1, 1) := by decide +kernel
theorem d4_6 : decode prog_9_method_1_code 6 = .ok (.putfield 7, 3) := by decide +kernel
theorem d4_9 : decode prog_9_method_1_code 9 = .ok (.aload_n 0, 1) := by decide +kernel
theorem d4_10 : decode prog_9_method_1_code 10 = .ok (.dload_n 3, 1) := by decide +kernel
theorem d4_11 : decode prog_9_method_1_code 11 = .ok (.putfield 13, 3) := by decide +kernel
theorem d4_14 : decode prog_9_method_1_code 14 = .ok (.aload_n 0, 1) := by decide +kernel
theorem d4_15 : decode prog_9_method_1_code 15 = .ok (.dload 5, 2) := by decide +kernel
theorem d4_17 : decode prog_9_method_1_code 17 = .ok (.putfield 16, 3) := by decide +kernel
theorem d4_20 : decode prog_9_method_1_code 20 = .ok (.aload_n 0, 1) := by decide +kernel
theorem d4_21 : decode prog_9_method_1_code 21 = .ok (.dload 7, 2) := by decide +kernel
theorem d4_23 : decode prog_9_method_1_code 23 = .ok (.putfield 19, 3) := by decide +kernel
theorem d4_26 : decode prog_9_method_1_code 26 = .ok (.return_, 1) := by decide +kernel
theorem pn_4 : plainName "com/example/geofence/geofence/geometry/Box" = true := by first | (simp [plainName, overriddenIn]; done) | decide +kernel
theorem ef_4 (m : MethodId) (x0 : Addr) (x1 : UInt64) (x2 : UInt64) (x3 : UInt64) (x4 : UInt64) : entryFrame m #[(.ref x0), (.double x1), (.double x2), (.double x3), (.double x4)] 9 = mkF m 0 #[.val (.ref x0), .val (.double x1), .second, .val (.double x2), .second, .val (.double x3), .second, .val (.double x4), .second] [] := by first | (simp [entryFrame, mkF, argsToLocals, Value.category]; done) | rfl
def Q4 (Z : State) (a : Addr) (bx : UInt64) (by_ : UInt64) (bw : UInt64) (bh : UInt64) (h0 : Heap) (n0 : Nat) (v : Option Value) (h : Heap) (L : List Loc) : Prop := v = none ∧ Fr n0 L ∧ Keep h0 h [a] ∧ Exa Z h a "com/example/geofence/geofence/geometry/Box" ∧ Fld Z h a "com/example/geofence/geofence/geometry/Box" "x" "D" (.double bx) ∧ Fld Z h a "com/example/geofence/geofence/geometry/Box" "y" "D" (.double by_) ∧ Fld Z h a "com/example/geofence/geofence/geometry/Box" "halfWidth" "D" (.double bw) ∧ Fld Z h a "com/example/geofence/geofence/geometry/Box" "halfHeight" "D" (.double bh)
set_option maxRecDepth 65536 in
set_option maxHeartbeats 40000000 in
theorem rm4 (l : Launch) (Z : State) (a0 : Array Value) (hw : ∀ d ∈ tables_1, d.before a0 Z = true) (ws : List Jvm.Cond) (a : Addr) (bx : UInt64) (by_ : UInt64) (bw : UInt64) (bh : UInt64) (h0 : Heap) (n0 : Nat) (Z0 : n0 ≤ h0.size) (E_a : Exa Z h0 a "com/example/geofence/geofence/geometry/Box") (F0 : Fld Z h0 a "com/example/geofence/geofence/geometry/Box" "x" "D" (.double (0 : UInt64))) (F1 : Fld Z h0 a "com/example/geofence/geofence/geometry/Box" "y" "D" (.double (0 : UInt64))) (F2 : Fld Z h0 a "com/example/geofence/geofence/geometry/Box" "halfWidth" "D" (.double (0 : UInt64))) (F3 : Fld Z h0 a "com/example/geofence/geofence/geometry/Box" "halfHeight" "D" (.double (0 : UInt64))) (g_a : n0 ≤ a) :
    MetFree l (⟨"com/example/geofence/geofence/geometry/Box", "<init>", "(DDDD)V"⟩ : MethodName) (head1 (Jvm.Cond.code (⟨"com/example/geofence/geofence/geometry/Box", "<init>", "(DDDD)V"⟩ : MethodName) prog_9_method_1_code 9 none :: ws) ({ frames := 2, cells := 0, slots := 0, locals := 24 } : Room)) (fun a_ U => a_ = #[(.ref a), (.double bx), (.double by_), (.double bw), (.double bh)] ∧ Z.Warmed39 U.vm ∧ U.heap = h0) (fun _ _ _ _ _ => True) (fun _ U o U' => ∃ v L, o = .returned v ∧ Q4 Z a bx by_ bw bh h0 n0 v U'.heap L ∧ FrameEnd U o U' L (({ frames := 2, cells := 0, slots := 0, locals := 24 } : Room)).cells (({ frames := 2, cells := 0, slots := 0, locals := 24 } : Room)).slots) := by
  refine MetFree.of_bodySF (plainFor_of_name pn_4) hisR ?_
  intro p e s m args below meth c s₁ Bd hml0 hP0 hK
  obtain ⟨rfl, hZ, hh⟩ := hP0
  have hx := Bd.exec
  have hby := Bd.bytes
  have hml : c.maxLocals = 9 := hml0
  have hown : s.vm.findClass "com/example/geofence/geofence/geometry/Box" = some m.cls := findClass_of_methodNamed Bd.named
  have hnm := (name_of_methodNamed Bd.named Bd.method).1
  have X0 : Stand p l e ({ frames := 2, cells := 0, slots := 0, locals := 24 } : Room) s m #[(.ref a), (.double bx), (.double by_), (.double bw), (.double bh)] below meth c s₁ [] 0 0 := Stand.of_body Bd
  have e0 : s₁.heap = h0 := by rw [← hh, Bd.state]; rfl
  have N0 := Fr.nil n0
  have hlk : meth.locks = false := BodyLoose.notSynchronized Bd
  refine Go.start (P₀ := fun s₂ o => ∃ v L, o = .returned v ∧ Q4 Z a bx by_ bw bh h0 n0 v s₂.heap L ∧ FrameEnd s o s₂ L (({ frames := 2, cells := 0, slots := 0, locals := 24 } : Room)).cells (({ frames := 2, cells := 0, slots := 0, locals := 24 } : Room)).slots) (congrArg s₁.setTop (ef_4 m a bx by_ bw bh)) ?_
  intro P hP
  show Go p.tables e below P (s₁.setTop (mkF m 0 #[.val (.ref a), .val (.double bx), .second, .val (.double by_), .second, .val (.double bw), .second, .val (.double bh), .second] []))
  refine Go.step (fun t k => XS.aloadN X0.here hx rfl (hb hby d4_0) rfl rfl k) ?_
  show Go p.tables e below P (s₁.setTop (mkF m 1 #[.val (.ref a), .val (.double bx), .second, .val (.double by_), .second, .val (.double bw), .second, .val (.double bh), .second] [(.ref a)]))
  obtain ⟨_, _, ⟨T1, L1, k1, n1⟩, -, X1, ⟨Lc1, hQ1, l1, y1, z1⟩, st1⟩ := X0.specialBack hx (y := (⟨"java/lang/Record", "<init>", "()V"⟩ : MethodName)) rfl hown (mvT hZ (hw _ (List.mem_of_getElem? (i := 7) rfl))) (mvT hZ (hw _ (List.mem_of_getElem? (i := 8) rfl))) (mvT hZ (hw _ (List.mem_of_getElem? (i := 11) rfl))) (by decide) (backOf (W := 0) (rm1 l Z a0 hw [] a h0 n0 Z0 ) hZ (hw _ (List.mem_of_getElem? (i := 11) rfl)) (hw _ (List.mem_of_getElem? (i := 10) rfl)) (by decide) (by decide)) (g := (mkF m 1 #[.val (.ref a), .val (.double bx), .second, .val (.double by_), .second, .val (.double bw), .second, .val (.double bh), .second] [(.ref a)])) rfl (by rw [hml]; rfl) (Steps.refl _) (a := a) (argsL := []) (rest := []) (lenOf pd_0 rfl) rfl (by show 2 * 0 + _ ≤ _; exact Nat.le_of_eq rfl) (hb hby d4_1) (fun _ _ => ⟨rfl, e0, (by decide : 0 + 0 ≤ _), (by decide : 0 + 0 ≤ _)⟩)
  dsimp only [Pt.U, Pt.locs, Pt.cells, Pt.slots] at X1 l1 y1 z1 st1 hQ1
  subst l1 y1 z1
  obtain ⟨rfl, N1q, eh1⟩ := hQ1
  have N1 := Fr.app N0 N1q
  refine Go.tr st1 ?_
  show Go p.tables e below P (T1.setTop (mkF m 4 #[.val (.ref a), .val (.double bx), .second, .val (.double by_), .second, .val (.double bw), .second, .val (.double bh), .second] []))
  refine Go.step (fun t k => XS.aloadN X1.here hx rfl (hb hby d4_4) rfl rfl k) ?_
  show Go p.tables e below P (T1.setTop (mkF m 5 #[.val (.ref a), .val (.double bx), .second, .val (.double by_), .second, .val (.double bw), .second, .val (.double bh), .second] [(.ref a)]))
  refine Go.step (fun t k => XS.dloadN X1.here hx rfl (hb hby d4_5) rfl  k) ?_
  show Go p.tables e below P (T1.setTop (mkF m 6 #[.val (.ref a), .val (.double bx), .second, .val (.double by_), .second, .val (.double bw), .second, .val (.double bh), .second] [(.double bx), (.ref a)]))
  obtain ⟨T2, h2, X2, e2, W2, st2⟩ := putF X1 hx hZ hown (host := "") (Or.inl (hw _ (List.mem_of_getElem? (i := 15) rfl))) Via.refl eh1 F0 E_a (Or.inr ⟨(hw _ (List.mem_of_getElem? (i := 16) rfl)), rfl, hnm⟩) (hw _ (List.mem_of_getElem? (i := 2) rfl)) (ty := .double) (by decide) rfl rfl (g := (mkF m 6 #[.val (.ref a), .val (.double bx), .second, .val (.double by_), .second, .val (.double bw), .second, .val (.double bh), .second] [(.double bx), (.ref a)])) rfl rfl (hb hby d4_6)
  have Fw2 := F0.same W2
  have N2 := Fr.snoc X2 N1 g_a
  have K2 : Keep h0 h2 [a] := (Keep.refl h0 [a]).wr W2 (Or.inl (List.mem_of_getElem? (i := 0) rfl))
  have Z2 : n0 ≤ h2.size := Nat.le_trans Z0 (Keep.of_wr W2).1
  refine Go.step (fun t k => st2 t k) ?_
  show Go p.tables e below P (T2.setTop (mkF m 9 #[.val (.ref a), .val (.double bx), .second, .val (.double by_), .second, .val (.double bw), .second, .val (.double bh), .second] []))
  refine Go.step (fun t k => XS.aloadN X2.here hx rfl (hb hby d4_9) rfl rfl k) ?_
  show Go p.tables e below P (T2.setTop (mkF m 10 #[.val (.ref a), .val (.double bx), .second, .val (.double by_), .second, .val (.double bw), .second, .val (.double bh), .second] [(.ref a)]))
  refine Go.step (fun t k => XS.dloadN X2.here hx rfl (hb hby d4_10) rfl  k) ?_
  show Go p.tables e below P (T2.setTop (mkF m 11 #[.val (.ref a), .val (.double bx), .second, .val (.double by_), .second, .val (.double bw), .second, .val (.double bh), .second] [(.double by_), (.ref a)]))
  obtain ⟨T3, h3, X3, e3, W3, st3⟩ := putF X2 hx hZ hown (host := "") (Or.inl (hw _ (List.mem_of_getElem? (i := 17) rfl))) Via.refl e2 (F1.other W2 (Or.inr (slot_ne (Or.inr (hw _ (List.mem_of_getElem? (i := 18) rfl))) (Or.inr (hw _ (List.mem_of_getElem? (i := 16) rfl))) (by decide) (t := .double) (t' := .double) (by decide) (by decide)))) (E_a.wr W2) (Or.inr ⟨(hw _ (List.mem_of_getElem? (i := 18) rfl)), rfl, hnm⟩) (hw _ (List.mem_of_getElem? (i := 2) rfl)) (ty := .double) (by decide) rfl rfl (g := (mkF m 11 #[.val (.ref a), .val (.double bx), .second, .val (.double by_), .second, .val (.double bw), .second, .val (.double bh), .second] [(.double by_), (.ref a)])) rfl rfl (hb hby d4_11)
  have Fw3 := (F1.other W2 (Or.inr (slot_ne (Or.inr (hw _ (List.mem_of_getElem? (i := 18) rfl))) (Or.inr (hw _ (List.mem_of_getElem? (i := 16) rfl))) (by decide) (t := .double) (t' := .double) (by decide) (by decide)))).same W3
  have N3 := Fr.snoc X3 N2 g_a
  have K3 : Keep h0 h3 [a] := K2.wr W3 (Or.inl (List.mem_of_getElem? (i := 0) rfl))
  have Z3 : n0 ≤ h3.size := Nat.le_trans Z2 (Keep.of_wr W3).1
  refine Go.step (fun t k => st3 t k) ?_
  show Go p.tables e below P (T3.setTop (mkF m 14 #[.val (.ref a), .val (.double bx), .second, .val (.double by_), .second, .val (.double bw), .second, .val (.double bh), .second] []))
  refine Go.step (fun t k => XS.aloadN X3.here hx rfl (hb hby d4_14) rfl rfl k) ?_
  show Go p.tables e below P (T3.setTop (mkF m 15 #[.val (.ref a), .val (.double bx), .second, .val (.double by_), .second, .val (.double bw), .second, .val (.double bh), .second] [(.ref a)]))
  refine Go.step (fun t k => XS.dload X3.here hx rfl (hb hby d4_15) rfl  k) ?_
  show Go p.tables e below P (T3.setTop (mkF m 17 #[.val (.ref a), .val (.double bx), .second, .val (.double by_), .second, .val (.double bw), .second, .val (.double bh), .second] [(.double bw), (.ref a)]))
  obtain ⟨T4, h4, X4, e4, W4, st4⟩ := putF X3 hx hZ hown (host := "") (Or.inl (hw _ (List.mem_of_getElem? (i := 19) rfl))) Via.refl e3 ((F2.other W2 (Or.inr (slot_ne (Or.inr (hw _ (List.mem_of_getElem? (i := 20) rfl))) (Or.inr (hw _ (List.mem_of_getElem? (i := 16) rfl))) (by decide) (t := .double) (t' := .double) (by decide) (by decide)))).other W3 (Or.inr (slot_ne (Or.inr (hw _ (List.mem_of_getElem? (i := 20) rfl))) (Or.inr (hw _ (List.mem_of_getElem? (i := 18) rfl))) (by decide) (t := .double) (t' := .double) (by decide) (by decide)))) ((E_a.wr W2).wr W3) (Or.inr ⟨(hw _ (List.mem_of_getElem? (i := 20) rfl)), rfl, hnm⟩) (hw _ (List.mem_of_getElem? (i := 2) rfl)) (ty := .double) (by decide) rfl rfl (g := (mkF m 17 #[.val (.ref a), .val (.double bx), .second, .val (.double by_), .second, .val (.double bw), .second, .val (.double bh), .second] [(.double bw), (.ref a)])) rfl rfl (hb hby d4_17)
  have Fw4 := ((F2.other W2 (Or.inr (slot_ne (Or.inr (hw _ (List.mem_of_getElem? (i := 20) rfl))) (Or.inr (hw _ (List.mem_of_getElem? (i := 16) rfl))) (by decide) (t := .double) (t' := .double) (by decide) (by decide)))).other W3 (Or.inr (slot_ne (Or.inr (hw _ (List.mem_of_getElem? (i := 20) rfl))) (Or.inr (hw _ (List.mem_of_getElem? (i := 18) rfl))) (by decide) (t := .double) (t' := .double) (by decide) (by decide)))).same W4
  have N4 := Fr.snoc X4 N3 g_a
  have K4 : Keep h0 h4 [a] := K3.wr W4 (Or.inl (List.mem_of_getElem? (i := 0) rfl))
  have Z4 : n0 ≤ h4.size := Nat.le_trans Z3 (Keep.of_wr W4).1
  refine Go.step (fun t k => st4 t k) ?_
  show Go p.tables e below P (T4.setTop (mkF m 20 #[.val (.ref a), .val (.double bx), .second, .val (.double by_), .second, .val (.double bw), .second, .val (.double bh), .second] []))
  refine Go.step (fun t k => XS.aloadN X4.here hx rfl (hb hby d4_20) rfl rfl k) ?_
  show Go p.tables e below P (T4.setTop (mkF m 21 #[.val (.ref a), .val (.double bx), .second, .val (.double by_), .second, .val (.double bw), .second, .val (.double bh), .second] [(.ref a)]))
  refine Go.step (fun t k => XS.dload X4.here hx rfl (hb hby d4_21) rfl  k) ?_
  show Go p.tables e below P (T4.setTop (mkF m 23 #[.val (.ref a), .val (.double bx), .second, .val (.double by_), .second, .val (.double bw), .second, .val (.double bh), .second] [(.double bh), (.ref a)]))
  obtain ⟨T5, h5, X5, e5, W5, st5⟩ := putF X4 hx hZ hown (host := "") (Or.inl (hw _ (List.mem_of_getElem? (i := 21) rfl))) Via.refl e4 (((F3.other W2 (Or.inr (slot_ne (Or.inr (hw _ (List.mem_of_getElem? (i := 22) rfl))) (Or.inr (hw _ (List.mem_of_getElem? (i := 16) rfl))) (by decide) (t := .double) (t' := .double) (by decide) (by decide)))).other W3 (Or.inr (slot_ne (Or.inr (hw _ (List.mem_of_getElem? (i := 22) rfl))) (Or.inr (hw _ (List.mem_of_getElem? (i := 18) rfl))) (by decide) (t := .double) (t' := .double) (by decide) (by decide)))).other W4 (Or.inr (slot_ne (Or.inr (hw _ (List.mem_of_getElem? (i := 22) rfl))) (Or.inr (hw _ (List.mem_of_getElem? (i := 20) rfl))) (by decide) (t := .double) (t' := .double) (by decide) (by decide)))) (((E_a.wr W2).wr W3).wr W4) (Or.inr ⟨(hw _ (List.mem_of_getElem? (i := 22) rfl)), rfl, hnm⟩) (hw _ (List.mem_of_getElem? (i := 2) rfl)) (ty := .double) (by decide) rfl rfl (g := (mkF m 23 #[.val (.ref a), .val (.double bx), .second, .val (.double by_), .second, .val (.double bw), .second, .val (.double bh), .second] [(.double bh), (.ref a)])) rfl rfl (hb hby d4_23)
  have Fw5 := (((F3.other W2 (Or.inr (slot_ne (Or.inr (hw _ (List.mem_of_getElem? (i := 22) rfl))) (Or.inr (hw _ (List.mem_of_getElem? (i := 16) rfl))) (by decide) (t := .double) (t' := .double) (by decide) (by decide)))).other W3 (Or.inr (slot_ne (Or.inr (hw _ (List.mem_of_getElem? (i := 22) rfl))) (Or.inr (hw _ (List.mem_of_getElem? (i := 18) rfl))) (by decide) (t := .double) (t' := .double) (by decide) (by decide)))).other W4 (Or.inr (slot_ne (Or.inr (hw _ (List.mem_of_getElem? (i := 22) rfl))) (Or.inr (hw _ (List.mem_of_getElem? (i := 20) rfl))) (by decide) (t := .double) (t' := .double) (by decide) (by decide)))).same W5
  have N5 := Fr.snoc X5 N4 g_a
  have K5 : Keep h0 h5 [a] := K4.wr W5 (Or.inl (List.mem_of_getElem? (i := 0) rfl))
  have Z5 : n0 ≤ h5.size := Nat.le_trans Z4 (Keep.of_wr W5).1
  refine Go.step (fun t k => st5 t k) ?_
  show Go p.tables e below P (T5.setTop (mkF m 26 #[.val (.ref a), .val (.double bx), .second, .val (.double by_), .second, .val (.double bw), .second, .val (.double bh), .second] []))
  exact voidGo X5 hx hP Bd.returns hlk (hb hby d4_26) (by decide) (by decide) (by rw [e5]; exact ⟨rfl, N5, K5, ((((E_a.wr W2).wr W3).wr W4).wr W5), (((Fw2.other W3 (Or.inr (slot_ne (Or.inr (hw _ (List.mem_of_getElem? (i := 16) rfl))) (Or.inr (hw _ (List.mem_of_getElem? (i := 18) rfl))) (by decide) (t := .double) (t' := .double) (by decide) (by decide)))).other W4 (Or.inr (slot_ne (Or.inr (hw _ (List.mem_of_getElem? (i := 16) rfl))) (Or.inr (hw _ (List.mem_of_getElem? (i := 20) rfl))) (by decide) (t := .double) (t' := .double) (by decide) (by decide)))).other W5 (Or.inr (slot_ne (Or.inr (hw _ (List.mem_of_getElem? (i := 16) rfl))) (Or.inr (hw _ (List.mem_of_getElem? (i := 22) rfl))) (by decide) (t := .double) (t' := .double) (by decide) (by decide)))), ((Fw3.other W4 (Or.inr (slot_ne (Or.inr (hw _ (List.mem_of_getElem? (i := 18) rfl))) (Or.inr (hw _ (List.mem_of_getElem? (i := 20) rfl))) (by decide) (t := .double) (t' := .double) (by decide) (by decide)))).other W5 (Or.inr (slot_ne (Or.inr (hw _ (List.mem_of_getElem? (i := 18) rfl))) (Or.inr (hw _ (List.mem_of_getElem? (i := 22) rfl))) (by decide) (t := .double) (t' := .double) (by decide) (by decide)))), (Fw4.other W5 (Or.inr (slot_ne (Or.inr (hw _ (List.mem_of_getElem? (i := 20) rfl))) (Or.inr (hw _ (List.mem_of_getElem? (i := 22) rfl))) (by decide) (t := .double) (t' := .double) (by decide) (by decide)))), Fw5⟩)
theorem d5_0 : decode prog_9_method_4_code 0 = .ok (.dload 5, 2) := by decide +kernel
theorem d5_2 : decode prog_9_method_4_code 2 = .ok (.aload_n 0, 1) := by decide +kernel
theorem d5_3 : decode prog_9_method_4_code 3 = .ok (.getfield 7, 3) := by decide +kernel
theorem d5_6 : decode prog_9_method_4_code 6 = .ok (.aload_n 0, 1) := by decide +kernel
theorem d5_7 : decode prog_9_method_4_code 7 = .ok (.getfield 16, 3) := by decide +kernel
theorem d5_10 : decode prog_9_method_4_code 10 = .ok (.dsub, 1) := by decide +kernel
theorem d5_11 : decode prog_9_method_4_code 11 = .ok (.dcmp .g, 1) := by decide +kernel
theorem d5_12 : decode prog_9_method_4_code 12 = .ok (.ifCond .lt 46, 3) := by decide +kernel
theorem d5_15 : decode prog_9_method_4_code 15 = .ok (.dload_n 1, 1) := by decide +kernel
theorem d5_16 : decode prog_9_method_4_code 16 = .ok (.aload_n 0, 1) := by decide +kernel
theorem d5_17 : decode prog_9_method_4_code 17 = .ok (.getfield 7, 3) := by decide +kernel
theorem d5_20 : decode prog_9_method_4_code 20 = .ok (.aload_n 0, 1) := by decide +kernel
theorem d5_21 : decode prog_9_method_4_code 21 = .ok (.getfield 16, 3) := by decide +kernel
theorem d5_24 : decode prog_9_method_4_code 24 = .ok (.dadd, 1) := by decide +kernel
theorem d5_25 : decode prog_9_method_4_code 25 = .ok (.dcmp .l, 1) := by decide +kernel
theorem d5_26 : decode prog_9_method_4_code 26 = .ok (.ifCond .gt 32, 3) := by decide +kernel
theorem d5_29 : decode prog_9_method_4_code 29 = .ok (.dload 7, 2) := by decide +kernel
theorem d5_31 : decode prog_9_method_4_code 31 = .ok (.aload_n 0, 1) := by decide +kernel
theorem d5_32 : decode prog_9_method_4_code 32 = .ok (.getfield 13, 3) := by decide +kernel
theorem d5_35 : decode prog_9_method_4_code 35 = .ok (.aload_n 0, 1) := by decide +kernel
theorem d5_36 : decode prog_9_method_4_code 36 = .ok (.getfield 19, 3) := by decide +kernel
theorem d5_39 : decode prog_9_method_4_code 39 = .ok (.dsub, 1) := by decide +kernel
theorem d5_40 : decode prog_9_method_4_code 40 = .ok (.dcmp .g, 1) := by decide +kernel
theorem d5_41 : decode prog_9_method_4_code 41 = .ok (.ifCond .lt 17, 3) := by decide +kernel
theorem d5_44 : decode prog_9_method_4_code 44 = .ok (.dload_n 3, 1) := by decide +kernel
theorem d5_45 : decode prog_9_method_4_code 45 = .ok (.aload_n 0, 1) := by decide +kernel
theorem d5_46 : decode prog_9_method_4_code 46 = .ok (.getfield 13, 3) := by decide +kernel
theorem d5_49 : decode prog_9_method_4_code 49 = .ok (.aload_n 0, 1) := by decide +kernel
theorem d5_50 : decode prog_9_method_4_code 50 = .ok (.getfield 19, 3) := by decide +kernel
theorem d5_53 : decode prog_9_method_4_code 53 = .ok (.dadd, 1) := by decide +kernel
theorem d5_54 : decode prog_9_method_4_code 54 = .ok (.dcmp .l, 1) := by decide +kernel
theorem d5_55 : decode prog_9_method_4_code 55 = .ok (.ifCond .le 7, 3) := by decide +kernel
theorem d5_58 : decode prog_9_method_4_code 58 = .ok (.iconst 1, 1) := by decide +kernel
theorem d5_59 : decode prog_9_method_4_code 59 = .ok (.goto 4, 3) := by decide +kernel
theorem d5_62 : decode prog_9_method_4_code 62 = .ok (.iconst 0, 1) := by decide +kernel
theorem d5_63 : decode prog_9_method_4_code 63 = .ok (.ireturn, 1) := by decide +kernel
theorem pn_5 : plainName "com/example/geofence/geofence/geometry/Box" = true := by first | (simp [plainName, overriddenIn]; done) | decide +kernel
theorem ef_5 (m : MethodId) (x0 : Addr) (x1 : UInt64) (x2 : UInt64) (x3 : UInt64) (x4 : UInt64) : entryFrame m #[(.ref x0), (.double x1), (.double x2), (.double x3), (.double x4)] 9 = mkF m 0 #[.val (.ref x0), .val (.double x1), .second, .val (.double x2), .second, .val (.double x3), .second, .val (.double x4), .second] [] := by first | (simp [entryFrame, mkF, argsToLocals, Value.category]; done) | rfl
def Q5 (Z : State) (a : Addr) (mnx : UInt64) (mny : UInt64) (mxx : UInt64) (mxy : UInt64) (bx : UInt64) (by_ : UInt64) (bw : UInt64) (bh : UInt64) (xi : Int) (yi : Int) (wi : Int) (hi : Int) (a1 : Int) (a2 : Int) (a3 : Int) (a4 : Int) (h0 : Heap) (n0 : Nat) (v : Option Value) (h : Heap) (L : List Loc) : Prop := ∃ r : Int32, v = some (.int r) ∧ ((r.toInt = 1 ∧ (a3 < xi - wi ∨ xi + wi < a1 ∨ a4 < yi - hi ∨ yi + hi < a2)) ∨ (r.toInt = 0 ∧ ¬ (a3 < xi - wi ∨ xi + wi < a1 ∨ a4 < yi - hi ∨ yi + hi < a2))) ∧ Fr n0 L ∧ h = h0
set_option maxRecDepth 65536 in
set_option maxHeartbeats 40000000 in
theorem rm5 (l : Launch) (Z : State) (a0 : Array Value) (hw : ∀ d ∈ tables_1, d.before a0 Z = true) (ws : List Jvm.Cond) (a : Addr) (mnx : UInt64) (mny : UInt64) (mxx : UInt64) (mxy : UInt64) (bx : UInt64) (by_ : UInt64) (bw : UInt64) (bh : UInt64) (xi : Int) (yi : Int) (wi : Int) (hi : Int) (a1 : Int) (a2 : Int) (a3 : Int) (a4 : Int) (h0 : Heap) (n0 : Nat) (Z0 : n0 ≤ h0.size) (F0 : Fld Z h0 a "com/example/geofence/geofence/geometry/Box" "x" "D" (.double bx)) (F1 : Fld Z h0 a "com/example/geofence/geofence/geometry/Box" "y" "D" (.double by_)) (F2 : Fld Z h0 a "com/example/geofence/geofence/geometry/Box" "halfWidth" "D" (.double bw)) (F3 : Fld Z h0 a "com/example/geofence/geofence/geometry/Box" "halfHeight" "D" (.double bh)) (qbx : DE 1074 xi bx) (qby_ : DE 1074 yi by_) (qbw : DE 1074 wi bw) (qbh : DE 1074 hi bh) (qmnx : DE 1074 a1 mnx) (qmny : DE 1074 a2 mny) (qmxx : DE 1074 a3 mxx) (qmxy : DE 1074 a4 mxy) (bxi : xi.natAbs ≤ 2 ^ 33) (byi : yi.natAbs ≤ 2 ^ 33) (bwi : wi.natAbs ≤ 2 ^ 33) (bhi : hi.natAbs ≤ 2 ^ 33) :
    MetFree l (⟨"com/example/geofence/geofence/geometry/Box", "misses", "(DDDD)Z"⟩ : MethodName) (head1 (Jvm.Cond.code (⟨"com/example/geofence/geofence/geometry/Box", "misses", "(DDDD)Z"⟩ : MethodName) prog_9_method_4_code 9 (some .boolean) :: ws) ({ frames := 0, cells := 0, slots := 0, locals := 0 } : Room)) (fun a_ U => a_ = #[(.ref a), (.double mnx), (.double mny), (.double mxx), (.double mxy)] ∧ Z.Warmed39 U.vm ∧ U.heap = h0) (fun _ _ _ _ _ => True) (fun _ U o U' => ∃ v L, o = .returned v ∧ Q5 Z a mnx mny mxx mxy bx by_ bw bh xi yi wi hi a1 a2 a3 a4 h0 n0 v U'.heap L ∧ FrameEnd U o U' L (({ frames := 0, cells := 0, slots := 0, locals := 0 } : Room)).cells (({ frames := 0, cells := 0, slots := 0, locals := 0 } : Room)).slots) := by
  refine MetFree.of_bodySF (plainFor_of_name pn_5) hisR ?_
  intro p e s m args below meth c s₁ Bd hml0 hP0 hK
  obtain ⟨rfl, hZ, hh⟩ := hP0
  have hx := Bd.exec
  have hby := Bd.bytes
  have hml : c.maxLocals = 9 := hml0
  have hown : s.vm.findClass "com/example/geofence/geofence/geometry/Box" = some m.cls := findClass_of_methodNamed Bd.named
  have hnm := (name_of_methodNamed Bd.named Bd.method).1
  have X0 : Stand p l e ({ frames := 0, cells := 0, slots := 0, locals := 0 } : Room) s m #[(.ref a), (.double mnx), (.double mny), (.double mxx), (.double mxy)] below meth c s₁ [] 0 0 := Stand.of_body Bd
  have e0 : s₁.heap = h0 := by rw [← hh, Bd.state]; rfl
  have N0 := Fr.nil n0
  have hlk : meth.locks = false := BodyLoose.notSynchronized Bd
  refine Go.start (P₀ := fun s₂ o => ∃ v L, o = .returned v ∧ Q5 Z a mnx mny mxx mxy bx by_ bw bh xi yi wi hi a1 a2 a3 a4 h0 n0 v s₂.heap L ∧ FrameEnd s o s₂ L (({ frames := 0, cells := 0, slots := 0, locals := 0 } : Room)).cells (({ frames := 0, cells := 0, slots := 0, locals := 0 } : Room)).slots) (congrArg s₁.setTop (ef_5 m a mnx mny mxx mxy)) ?_
  intro P hP
  show Go p.tables e below P (s₁.setTop (mkF m 0 #[.val (.ref a), .val (.double mnx), .second, .val (.double mny), .second, .val (.double mxx), .second, .val (.double mxy), .second] []))
  refine Go.step (fun t k => XS.dload X0.here hx rfl (hb hby d5_0) rfl  k) ?_
  show Go p.tables e below P (s₁.setTop (mkF m 2 #[.val (.ref a), .val (.double mnx), .second, .val (.double mny), .second, .val (.double mxx), .second, .val (.double mxy), .second] [(.double mxx)]))
  refine Go.step (fun t k => XS.aloadN X0.here hx rfl (hb hby d5_2) rfl rfl k) ?_
  show Go p.tables e below P (s₁.setTop (mkF m 3 #[.val (.ref a), .val (.double mnx), .second, .val (.double mny), .second, .val (.double mxx), .second, .val (.double mxy), .second] [(.ref a), (.double mxx)]))
  obtain ⟨T1, X1, e1, st1⟩ := getF X0 hx hZ hown (host := "") (Or.inl (hw _ (List.mem_of_getElem? (i := 15) rfl))) Via.refl e0 F0 (g := (mkF m 3 #[.val (.ref a), .val (.double mnx), .second, .val (.double mny), .second, .val (.double mxx), .second, .val (.double mxy), .second] [(.ref a), (.double mxx)])) rfl rfl (hb hby d5_3)
  refine Go.step (fun t k => st1 t k) ?_
  show Go p.tables e below P (T1.setTop (mkF m 6 #[.val (.ref a), .val (.double mnx), .second, .val (.double mny), .second, .val (.double mxx), .second, .val (.double mxy), .second] [(.double bx), (.double mxx)]))
  refine Go.step (fun t k => XS.aloadN X1.here hx rfl (hb hby d5_6) rfl rfl k) ?_
  show Go p.tables e below P (T1.setTop (mkF m 7 #[.val (.ref a), .val (.double mnx), .second, .val (.double mny), .second, .val (.double mxx), .second, .val (.double mxy), .second] [(.ref a), (.double bx), (.double mxx)]))
  obtain ⟨T2, X2, e2, st2⟩ := getF X1 hx hZ hown (host := "") (Or.inl (hw _ (List.mem_of_getElem? (i := 19) rfl))) Via.refl e1 F2 (g := (mkF m 7 #[.val (.ref a), .val (.double mnx), .second, .val (.double mny), .second, .val (.double mxx), .second, .val (.double mxy), .second] [(.ref a), (.double bx), (.double mxx)])) rfl rfl (hb hby d5_7)
  refine Go.step (fun t k => st2 t k) ?_
  show Go p.tables e below P (T2.setTop (mkF m 10 #[.val (.ref a), .val (.double mnx), .second, .val (.double mny), .second, .val (.double mxx), .second, .val (.double mxy), .second] [(.double bw), (.double bx), (.double mxx)]))
  obtain ⟨d10, hd10⟩ : ∃ z : UInt64, FP.dsub bx bw = z := ⟨_, rfl⟩
  have q10 := sub_e qbx qbw rfl (by omega) (by decide)
  rw [hd10] at q10
  refine Go.step (fun t k => XS.dsubS X2.here hx rfl (hb hby d5_10) rfl (hd10 ▸ q10.nn) hd10 k) ?_
  show Go p.tables e below P (T2.setTop (mkF m 11 #[.val (.ref a), .val (.double mnx), .second, .val (.double mny), .second, .val (.double mxx), .second, .val (.double mxy), .second] [(.double d10), (.double mxx)]))
  refine Go.step (fun t k => XS.dcmpS X2.here hx rfl (hb hby d5_11) rfl rfl k) ?_
  show Go p.tables e below P (T2.setTop (mkF m 12 #[.val (.ref a), .val (.double mnx), .second, .val (.double mny), .second, .val (.double mxx), .second, .val (.double mxy), .second] [(.int (cmpValue (FP.dcmp mxx d10) .g))]))
  by_cases hc12 : a3 < (xi - wi)
  · refine Go.step (fun t k => XS.ifYes X2.here hx rfl (pc0 := 12) (pc' := 58) rfl (hb hby d5_12) rfl (dcY (cd := .lt) (DE.cmp qmxx q10) hc12) (by decide) (by decide) k) ?_
    show Go p.tables e below P (T2.setTop (mkF m 58 #[.val (.ref a), .val (.double mnx), .second, .val (.double mny), .second, .val (.double mxx), .second, .val (.double mxy), .second] []))
    refine Go.step (fun t k => XS.iconst X2.here hx rfl (hb hby d5_58) k) ?_
    show Go p.tables e below P (T2.setTop (mkF m 59 #[.val (.ref a), .val (.double mnx), .second, .val (.double mny), .second, .val (.double mxx), .second, .val (.double mxy), .second] [(.int (1 : Int32))]))
    refine Go.step (fun t k => XS.goto X2.here hx rfl (pc0 := 59) (pc' := 63) rfl (hb hby d5_59) (by decide) (by decide) k) ?_
    show Go p.tables e below P (T2.setTop (mkF m 63 #[.val (.ref a), .val (.double mnx), .second, .val (.double mny), .second, .val (.double mxx), .second, .val (.double mxy), .second] [(.int (1 : Int32))]))
    exact retGo X2 hx hP Bd.returns hlk rfl (Or.inl ⟨rfl, Or.inr (Or.inl rfl), _, rfl⟩) (hb hby d5_63) (by decide) (by decide) (by rw [e2]; exact ⟨1, rfl, Or.inl ⟨rfl, by omega⟩, N0, rfl⟩)
  · refine Go.step (fun t k => XS.ifNo X2.here hx rfl (hb hby d5_12) rfl (dcN (cd := .lt) (DE.cmp qmxx q10) hc12) k) ?_
    show Go p.tables e below P (T2.setTop (mkF m 15 #[.val (.ref a), .val (.double mnx), .second, .val (.double mny), .second, .val (.double mxx), .second, .val (.double mxy), .second] []))
    refine Go.step (fun t k => XS.dloadN X2.here hx rfl (hb hby d5_15) rfl  k) ?_
    show Go p.tables e below P (T2.setTop (mkF m 16 #[.val (.ref a), .val (.double mnx), .second, .val (.double mny), .second, .val (.double mxx), .second, .val (.double mxy), .second] [(.double mnx)]))
    refine Go.step (fun t k => XS.aloadN X2.here hx rfl (hb hby d5_16) rfl rfl k) ?_
    show Go p.tables e below P (T2.setTop (mkF m 17 #[.val (.ref a), .val (.double mnx), .second, .val (.double mny), .second, .val (.double mxx), .second, .val (.double mxy), .second] [(.ref a), (.double mnx)]))
    obtain ⟨T3, X3, e3, st3⟩ := getF X2 hx hZ hown (host := "") (Or.inl (hw _ (List.mem_of_getElem? (i := 15) rfl))) Via.refl e2 F0 (g := (mkF m 17 #[.val (.ref a), .val (.double mnx), .second, .val (.double mny), .second, .val (.double mxx), .second, .val (.double mxy), .second] [(.ref a), (.double mnx)])) rfl rfl (hb hby d5_17)
    refine Go.step (fun t k => st3 t k) ?_
    show Go p.tables e below P (T3.setTop (mkF m 20 #[.val (.ref a), .val (.double mnx), .second, .val (.double mny), .second, .val (.double mxx), .second, .val (.double mxy), .second] [(.double bx), (.double mnx)]))
    refine Go.step (fun t k => XS.aloadN X3.here hx rfl (hb hby d5_20) rfl rfl k) ?_
    show Go p.tables e below P (T3.setTop (mkF m 21 #[.val (.ref a), .val (.double mnx), .second, .val (.double mny), .second, .val (.double mxx), .second, .val (.double mxy), .second] [(.ref a), (.double bx), (.double mnx)]))
    obtain ⟨T4, X4, e4, st4⟩ := getF X3 hx hZ hown (host := "") (Or.inl (hw _ (List.mem_of_getElem? (i := 19) rfl))) Via.refl e3 F2 (g := (mkF m 21 #[.val (.ref a), .val (.double mnx), .second, .val (.double mny), .second, .val (.double mxx), .second, .val (.double mxy), .second] [(.ref a), (.double bx), (.double mnx)])) rfl rfl (hb hby d5_21)
    refine Go.step (fun t k => st4 t k) ?_
    show Go p.tables e below P (T4.setTop (mkF m 24 #[.val (.ref a), .val (.double mnx), .second, .val (.double mny), .second, .val (.double mxx), .second, .val (.double mxy), .second] [(.double bw), (.double bx), (.double mnx)]))
    obtain ⟨d24, hd24⟩ : ∃ z : UInt64, FP.dadd bx bw = z := ⟨_, rfl⟩
    have q24 := add_e qbx qbw rfl (by omega) (by decide)
    rw [hd24] at q24
    refine Go.step (fun t k => XS.daddS X4.here hx rfl (hb hby d5_24) rfl (hd24 ▸ q24.nn) hd24 k) ?_
    show Go p.tables e below P (T4.setTop (mkF m 25 #[.val (.ref a), .val (.double mnx), .second, .val (.double mny), .second, .val (.double mxx), .second, .val (.double mxy), .second] [(.double d24), (.double mnx)]))
    refine Go.step (fun t k => XS.dcmpS X4.here hx rfl (hb hby d5_25) rfl rfl k) ?_
    show Go p.tables e below P (T4.setTop (mkF m 26 #[.val (.ref a), .val (.double mnx), .second, .val (.double mny), .second, .val (.double mxx), .second, .val (.double mxy), .second] [(.int (cmpValue (FP.dcmp mnx d24) .l))]))
    by_cases hc26 : (xi + wi) < a1
    · refine Go.step (fun t k => XS.ifYes X4.here hx rfl (pc0 := 26) (pc' := 58) rfl (hb hby d5_26) rfl (dcY (cd := .gt) (DE.cmp qmnx q24) hc26) (by decide) (by decide) k) ?_
      show Go p.tables e below P (T4.setTop (mkF m 58 #[.val (.ref a), .val (.double mnx), .second, .val (.double mny), .second, .val (.double mxx), .second, .val (.double mxy), .second] []))
      refine Go.step (fun t k => XS.iconst X4.here hx rfl (hb hby d5_58) k) ?_
      show Go p.tables e below P (T4.setTop (mkF m 59 #[.val (.ref a), .val (.double mnx), .second, .val (.double mny), .second, .val (.double mxx), .second, .val (.double mxy), .second] [(.int (1 : Int32))]))
      refine Go.step (fun t k => XS.goto X4.here hx rfl (pc0 := 59) (pc' := 63) rfl (hb hby d5_59) (by decide) (by decide) k) ?_
      show Go p.tables e below P (T4.setTop (mkF m 63 #[.val (.ref a), .val (.double mnx), .second, .val (.double mny), .second, .val (.double mxx), .second, .val (.double mxy), .second] [(.int (1 : Int32))]))
      exact retGo X4 hx hP Bd.returns hlk rfl (Or.inl ⟨rfl, Or.inr (Or.inl rfl), _, rfl⟩) (hb hby d5_63) (by decide) (by decide) (by rw [e4]; exact ⟨1, rfl, Or.inl ⟨rfl, by omega⟩, N0, rfl⟩)
    · refine Go.step (fun t k => XS.ifNo X4.here hx rfl (hb hby d5_26) rfl (dcN (cd := .gt) (DE.cmp qmnx q24) hc26) k) ?_
      show Go p.tables e below P (T4.setTop (mkF m 29 #[.val (.ref a), .val (.double mnx), .second, .val (.double mny), .second, .val (.double mxx), .second, .val (.double mxy), .second] []))
      refine Go.step (fun t k => XS.dload X4.here hx rfl (hb hby d5_29) rfl  k) ?_
      show Go p.tables e below P (T4.setTop (mkF m 31 #[.val (.ref a), .val (.double mnx), .second, .val (.double mny), .second, .val (.double mxx), .second, .val (.double mxy), .second] [(.double mxy)]))
      refine Go.step (fun t k => XS.aloadN X4.here hx rfl (hb hby d5_31) rfl rfl k) ?_
      show Go p.tables e below P (T4.setTop (mkF m 32 #[.val (.ref a), .val (.double mnx), .second, .val (.double mny), .second, .val (.double mxx), .second, .val (.double mxy), .second] [(.ref a), (.double mxy)]))
      obtain ⟨T5, X5, e5, st5⟩ := getF X4 hx hZ hown (host := "") (Or.inl (hw _ (List.mem_of_getElem? (i := 17) rfl))) Via.refl e4 F1 (g := (mkF m 32 #[.val (.ref a), .val (.double mnx), .second, .val (.double mny), .second, .val (.double mxx), .second, .val (.double mxy), .second] [(.ref a), (.double mxy)])) rfl rfl (hb hby d5_32)
      refine Go.step (fun t k => st5 t k) ?_
      show Go p.tables e below P (T5.setTop (mkF m 35 #[.val (.ref a), .val (.double mnx), .second, .val (.double mny), .second, .val (.double mxx), .second, .val (.double mxy), .second] [(.double by_), (.double mxy)]))
      refine Go.step (fun t k => XS.aloadN X5.here hx rfl (hb hby d5_35) rfl rfl k) ?_
      show Go p.tables e below P (T5.setTop (mkF m 36 #[.val (.ref a), .val (.double mnx), .second, .val (.double mny), .second, .val (.double mxx), .second, .val (.double mxy), .second] [(.ref a), (.double by_), (.double mxy)]))
      obtain ⟨T6, X6, e6, st6⟩ := getF X5 hx hZ hown (host := "") (Or.inl (hw _ (List.mem_of_getElem? (i := 21) rfl))) Via.refl e5 F3 (g := (mkF m 36 #[.val (.ref a), .val (.double mnx), .second, .val (.double mny), .second, .val (.double mxx), .second, .val (.double mxy), .second] [(.ref a), (.double by_), (.double mxy)])) rfl rfl (hb hby d5_36)
      refine Go.step (fun t k => st6 t k) ?_
      show Go p.tables e below P (T6.setTop (mkF m 39 #[.val (.ref a), .val (.double mnx), .second, .val (.double mny), .second, .val (.double mxx), .second, .val (.double mxy), .second] [(.double bh), (.double by_), (.double mxy)]))
      obtain ⟨d39, hd39⟩ : ∃ z : UInt64, FP.dsub by_ bh = z := ⟨_, rfl⟩
      have q39 := sub_e qby_ qbh rfl (by omega) (by decide)
      rw [hd39] at q39
      refine Go.step (fun t k => XS.dsubS X6.here hx rfl (hb hby d5_39) rfl (hd39 ▸ q39.nn) hd39 k) ?_
      show Go p.tables e below P (T6.setTop (mkF m 40 #[.val (.ref a), .val (.double mnx), .second, .val (.double mny), .second, .val (.double mxx), .second, .val (.double mxy), .second] [(.double d39), (.double mxy)]))
      refine Go.step (fun t k => XS.dcmpS X6.here hx rfl (hb hby d5_40) rfl rfl k) ?_
      show Go p.tables e below P (T6.setTop (mkF m 41 #[.val (.ref a), .val (.double mnx), .second, .val (.double mny), .second, .val (.double mxx), .second, .val (.double mxy), .second] [(.int (cmpValue (FP.dcmp mxy d39) .g))]))
      by_cases hc41 : a4 < (yi - hi)
      · refine Go.step (fun t k => XS.ifYes X6.here hx rfl (pc0 := 41) (pc' := 58) rfl (hb hby d5_41) rfl (dcY (cd := .lt) (DE.cmp qmxy q39) hc41) (by decide) (by decide) k) ?_
        show Go p.tables e below P (T6.setTop (mkF m 58 #[.val (.ref a), .val (.double mnx), .second, .val (.double mny), .second, .val (.double mxx), .second, .val (.double mxy), .second] []))
        refine Go.step (fun t k => XS.iconst X6.here hx rfl (hb hby d5_58) k) ?_
        show Go p.tables e below P (T6.setTop (mkF m 59 #[.val (.ref a), .val (.double mnx), .second, .val (.double mny), .second, .val (.double mxx), .second, .val (.double mxy), .second] [(.int (1 : Int32))]))
        refine Go.step (fun t k => XS.goto X6.here hx rfl (pc0 := 59) (pc' := 63) rfl (hb hby d5_59) (by decide) (by decide) k) ?_
        show Go p.tables e below P (T6.setTop (mkF m 63 #[.val (.ref a), .val (.double mnx), .second, .val (.double mny), .second, .val (.double mxx), .second, .val (.double mxy), .second] [(.int (1 : Int32))]))
        exact retGo X6 hx hP Bd.returns hlk rfl (Or.inl ⟨rfl, Or.inr (Or.inl rfl), _, rfl⟩) (hb hby d5_63) (by decide) (by decide) (by rw [e6]; exact ⟨1, rfl, Or.inl ⟨rfl, by omega⟩, N0, rfl⟩)
      · refine Go.step (fun t k => XS.ifNo X6.here hx rfl (hb hby d5_41) rfl (dcN (cd := .lt) (DE.cmp qmxy q39) hc41) k) ?_
        show Go p.tables e below P (T6.setTop (mkF m 44 #[.val (.ref a), .val (.double mnx), .second, .val (.double mny), .second, .val (.double mxx), .second, .val (.double mxy), .second] []))
        refine Go.step (fun t k => XS.dloadN X6.here hx rfl (hb hby d5_44) rfl  k) ?_
        show Go p.tables e below P (T6.setTop (mkF m 45 #[.val (.ref a), .val (.double mnx), .second, .val (.double mny), .second, .val (.double mxx), .second, .val (.double mxy), .second] [(.double mny)]))
        refine Go.step (fun t k => XS.aloadN X6.here hx rfl (hb hby d5_45) rfl rfl k) ?_
        show Go p.tables e below P (T6.setTop (mkF m 46 #[.val (.ref a), .val (.double mnx), .second, .val (.double mny), .second, .val (.double mxx), .second, .val (.double mxy), .second] [(.ref a), (.double mny)]))
        obtain ⟨T7, X7, e7, st7⟩ := getF X6 hx hZ hown (host := "") (Or.inl (hw _ (List.mem_of_getElem? (i := 17) rfl))) Via.refl e6 F1 (g := (mkF m 46 #[.val (.ref a), .val (.double mnx), .second, .val (.double mny), .second, .val (.double mxx), .second, .val (.double mxy), .second] [(.ref a), (.double mny)])) rfl rfl (hb hby d5_46)
        refine Go.step (fun t k => st7 t k) ?_
        show Go p.tables e below P (T7.setTop (mkF m 49 #[.val (.ref a), .val (.double mnx), .second, .val (.double mny), .second, .val (.double mxx), .second, .val (.double mxy), .second] [(.double by_), (.double mny)]))
        refine Go.step (fun t k => XS.aloadN X7.here hx rfl (hb hby d5_49) rfl rfl k) ?_
        show Go p.tables e below P (T7.setTop (mkF m 50 #[.val (.ref a), .val (.double mnx), .second, .val (.double mny), .second, .val (.double mxx), .second, .val (.double mxy), .second] [(.ref a), (.double by_), (.double mny)]))
        obtain ⟨T8, X8, e8, st8⟩ := getF X7 hx hZ hown (host := "") (Or.inl (hw _ (List.mem_of_getElem? (i := 21) rfl))) Via.refl e7 F3 (g := (mkF m 50 #[.val (.ref a), .val (.double mnx), .second, .val (.double mny), .second, .val (.double mxx), .second, .val (.double mxy), .second] [(.ref a), (.double by_), (.double mny)])) rfl rfl (hb hby d5_50)
        refine Go.step (fun t k => st8 t k) ?_
        show Go p.tables e below P (T8.setTop (mkF m 53 #[.val (.ref a), .val (.double mnx), .second, .val (.double mny), .second, .val (.double mxx), .second, .val (.double mxy), .second] [(.double bh), (.double by_), (.double mny)]))
        obtain ⟨d53, hd53⟩ : ∃ z : UInt64, FP.dadd by_ bh = z := ⟨_, rfl⟩
        have q53 := add_e qby_ qbh rfl (by omega) (by decide)
        rw [hd53] at q53
        refine Go.step (fun t k => XS.daddS X8.here hx rfl (hb hby d5_53) rfl (hd53 ▸ q53.nn) hd53 k) ?_
        show Go p.tables e below P (T8.setTop (mkF m 54 #[.val (.ref a), .val (.double mnx), .second, .val (.double mny), .second, .val (.double mxx), .second, .val (.double mxy), .second] [(.double d53), (.double mny)]))
        refine Go.step (fun t k => XS.dcmpS X8.here hx rfl (hb hby d5_54) rfl rfl k) ?_
        show Go p.tables e below P (T8.setTop (mkF m 55 #[.val (.ref a), .val (.double mnx), .second, .val (.double mny), .second, .val (.double mxx), .second, .val (.double mxy), .second] [(.int (cmpValue (FP.dcmp mny d53) .l))]))
        by_cases hc55 : a2 ≤ (yi + hi)
        · refine Go.step (fun t k => XS.ifYes X8.here hx rfl (pc0 := 55) (pc' := 62) rfl (hb hby d5_55) rfl (dcY (cd := .le) (DE.cmp qmny q53) hc55) (by decide) (by decide) k) ?_
          show Go p.tables e below P (T8.setTop (mkF m 62 #[.val (.ref a), .val (.double mnx), .second, .val (.double mny), .second, .val (.double mxx), .second, .val (.double mxy), .second] []))
          refine Go.step (fun t k => XS.iconst X8.here hx rfl (hb hby d5_62) k) ?_
          show Go p.tables e below P (T8.setTop (mkF m 63 #[.val (.ref a), .val (.double mnx), .second, .val (.double mny), .second, .val (.double mxx), .second, .val (.double mxy), .second] [(.int (0 : Int32))]))
          exact retGo X8 hx hP Bd.returns hlk rfl (Or.inl ⟨rfl, Or.inr (Or.inl rfl), _, rfl⟩) (hb hby d5_63) (by decide) (by decide) (by rw [e8]; exact ⟨0, rfl, Or.inr ⟨rfl, by omega⟩, N0, rfl⟩)
        · refine Go.step (fun t k => XS.ifNo X8.here hx rfl (hb hby d5_55) rfl (dcN (cd := .le) (DE.cmp qmny q53) hc55) k) ?_
          show Go p.tables e below P (T8.setTop (mkF m 58 #[.val (.ref a), .val (.double mnx), .second, .val (.double mny), .second, .val (.double mxx), .second, .val (.double mxy), .second] []))
          refine Go.step (fun t k => XS.iconst X8.here hx rfl (hb hby d5_58) k) ?_
          show Go p.tables e below P (T8.setTop (mkF m 59 #[.val (.ref a), .val (.double mnx), .second, .val (.double mny), .second, .val (.double mxx), .second, .val (.double mxy), .second] [(.int (1 : Int32))]))
          refine Go.step (fun t k => XS.goto X8.here hx rfl (pc0 := 59) (pc' := 63) rfl (hb hby d5_59) (by decide) (by decide) k) ?_
          show Go p.tables e below P (T8.setTop (mkF m 63 #[.val (.ref a), .val (.double mnx), .second, .val (.double mny), .second, .val (.double mxx), .second, .val (.double mxy), .second] [(.int (1 : Int32))]))
          exact retGo X8 hx hP Bd.returns hlk rfl (Or.inl ⟨rfl, Or.inr (Or.inl rfl), _, rfl⟩) (hb hby d5_63) (by decide) (by decide) (by rw [e8]; exact ⟨1, rfl, Or.inl ⟨rfl, by omega⟩, N0, rfl⟩)
theorem d6_0 : decode method_2_code 0 = .ok (.lload_n 0, 1) := by decide +kernel
theorem d6_1 : decode method_2_code 1 = .ok (.lload 4, 2) := by decide +kernel
theorem d6_3 : decode method_2_code 3 = .ok (.invokestatic 7, 3) := by decide +kernel
theorem d6_6 : decode method_2_code 6 = .ok (.lload_n 2, 1) := by decide +kernel
theorem d6_7 : decode method_2_code 7 = .ok (.lload 6, 2) := by decide +kernel
theorem d6_9 : decode method_2_code 9 = .ok (.invokestatic 13, 3) := by decide +kernel
theorem d6_12 : decode method_2_code 12 = .ok (.lcmp, 1) := by decide +kernel
theorem d6_13 : decode method_2_code 13 = .ok (.ifCond .gt 7, 3) := by decide +kernel
theorem d6_16 : decode method_2_code 16 = .ok (.iconst 1, 1) := by decide +kernel
theorem d6_17 : decode method_2_code 17 = .ok (.goto 4, 3) := by decide +kernel
theorem d6_20 : decode method_2_code 20 = .ok (.iconst 0, 1) := by decide +kernel
theorem d6_21 : decode method_2_code 21 = .ok (.ireturn, 1) := by decide +kernel
theorem pn_6 : plainName "com/example/geofence/geofence/geometry/BoxMissesPinLaw" = true := by first | (simp [plainName, overriddenIn]; done) | decide +kernel
theorem ef_6 (m : MethodId) (x0 : Int64) (x1 : Int64) (x2 : Int64) (x3 : Int64) : entryFrame m #[(.long x0), (.long x1), (.long x2), (.long x3)] 8 = mkF m 0 #[.val (.long x0), .second, .val (.long x1), .second, .val (.long x2), .second, .val (.long x3), .second] [] := by first | (simp [entryFrame, mkF, argsToLocals, Value.category]; done) | rfl
def Q6 (Z : State) (u1 : Int64) (u2 : Int64) (u3 : Int64) (u4 : Int64) (h0 : Heap) (n0 : Nat) (v : Option Value) (h : Heap) (L : List Loc) : Prop := ∃ r : Int32, v = some (.int r) ∧ ((r.toInt = 1 ∧ max u1.toInt u3.toInt ≤ min u2.toInt u4.toInt) ∨ (r.toInt = 0 ∧ ¬ max u1.toInt u3.toInt ≤ min u2.toInt u4.toInt)) ∧ Fr n0 L ∧ h = h0
set_option maxRecDepth 65536 in
set_option maxHeartbeats 40000000 in
theorem rm6 (l : Launch) (Z : State) (a0 : Array Value) (hw : ∀ d ∈ tables_1, d.before a0 Z = true) (ws : List Jvm.Cond) (u1 : Int64) (u2 : Int64) (u3 : Int64) (u4 : Int64) (h0 : Heap) (n0 : Nat) (Z0 : n0 ≤ h0.size) :
    MetFree l (⟨"com/example/geofence/geofence/geometry/BoxMissesPinLaw", "overlaps", "(JJJJ)Z"⟩ : MethodName) (head1 (Jvm.Cond.code (⟨"com/example/geofence/geofence/geometry/BoxMissesPinLaw", "overlaps", "(JJJJ)Z"⟩ : MethodName) method_2_code 8 (some .boolean) :: ws) ({ frames := 1, cells := 0, slots := 0, locals := 17 } : Room)) (fun a_ U => a_ = #[(.long u1), (.long u2), (.long u3), (.long u4)] ∧ Z.Warmed39 U.vm ∧ U.heap = h0) (fun _ _ _ _ _ => True) (fun _ U o U' => ∃ v L, o = .returned v ∧ Q6 Z u1 u2 u3 u4 h0 n0 v U'.heap L ∧ FrameEnd U o U' L (({ frames := 1, cells := 0, slots := 0, locals := 17 } : Room)).cells (({ frames := 1, cells := 0, slots := 0, locals := 17 } : Room)).slots) := by
  refine MetFree.of_bodySF (plainFor_of_name pn_6) hisR ?_
  intro p e s m args below meth c s₁ Bd hml0 hP0 hK
  obtain ⟨rfl, hZ, hh⟩ := hP0
  have hx := Bd.exec
  have hby := Bd.bytes
  have hml : c.maxLocals = 8 := hml0
  have hown : s.vm.findClass "com/example/geofence/geofence/geometry/BoxMissesPinLaw" = some m.cls := findClass_of_methodNamed Bd.named
  have hnm := (name_of_methodNamed Bd.named Bd.method).1
  have X0 : Stand p l e ({ frames := 1, cells := 0, slots := 0, locals := 17 } : Room) s m #[(.long u1), (.long u2), (.long u3), (.long u4)] below meth c s₁ [] 0 0 := Stand.of_body Bd
  have e0 : s₁.heap = h0 := by rw [← hh, Bd.state]; rfl
  have N0 := Fr.nil n0
  have hlk : meth.locks = false := BodyLoose.notSynchronized Bd
  refine Go.start (P₀ := fun s₂ o => ∃ v L, o = .returned v ∧ Q6 Z u1 u2 u3 u4 h0 n0 v s₂.heap L ∧ FrameEnd s o s₂ L (({ frames := 1, cells := 0, slots := 0, locals := 17 } : Room)).cells (({ frames := 1, cells := 0, slots := 0, locals := 17 } : Room)).slots) (congrArg s₁.setTop (ef_6 m u1 u2 u3 u4)) ?_
  intro P hP
  show Go p.tables e below P (s₁.setTop (mkF m 0 #[.val (.long u1), .second, .val (.long u2), .second, .val (.long u3), .second, .val (.long u4), .second] []))
  refine Go.step (fun t k => XS.lloadN X0.here hx rfl (hb hby d6_0) rfl  k) ?_
  show Go p.tables e below P (s₁.setTop (mkF m 1 #[.val (.long u1), .second, .val (.long u2), .second, .val (.long u3), .second, .val (.long u4), .second] [(.long u1)]))
  refine Go.step (fun t k => XS.lload X0.here hx rfl (hb hby d6_1) rfl  k) ?_
  show Go p.tables e below P (s₁.setTop (mkF m 3 #[.val (.long u1), .second, .val (.long u2), .second, .val (.long u3), .second, .val (.long u4), .second] [(.long u3), (.long u1)]))
  obtain ⟨_, _, ⟨T1, L1, k1, n1⟩, -, X1, ⟨Lc1, hQ1, l1, y1, z1⟩, st1⟩ := Jvm.LawKit.callS X0 hx (y := (⟨"java/lang/Math", "max", "(JJ)J"⟩ : MethodName)) hown (mvT hZ (hw _ (List.mem_of_getElem? (i := 32) rfl))) (mvT hZ (hw _ (List.mem_of_getElem? (i := 33) rfl))) (mvT hZ (hw _ (List.mem_of_getElem? (i := 34) rfl))) (mvT hZ (hw _ (List.mem_of_getElem? (i := 35) rfl))) (by decide) (backOf (W := 0) (rm2 l Z a0 hw [] u1 u3 h0 n0 Z0 ) hZ (hw _ (List.mem_of_getElem? (i := 35) rfl)) (hw _ (List.mem_of_getElem? (i := 34) rfl)) (by decide) (by decide)) (g := (mkF m 3 #[.val (.long u1), .second, .val (.long u2), .second, .val (.long u3), .second, .val (.long u4), .second] [(.long u3), (.long u1)])) rfl (by rw [hml]; rfl) (argsL := [(.long u1), (.long u3)]) (rest := []) (lenOf pd_1 rfl) rfl (by show 2 * 0 + _ ≤ _; exact Nat.le_of_eq rfl) (hb hby d6_3) (fun _ _ => ⟨rfl, e0, (by decide : 0 + 0 ≤ _), (by decide : 0 + 0 ≤ _)⟩)
  dsimp only [Pt.U, Pt.locs, Pt.cells, Pt.slots] at X1 l1 y1 z1 st1 hQ1
  subst l1 y1 z1
  obtain ⟨r1, rfl, hr1, N1q, eh1⟩ := hQ1
  have N1 := Fr.app N0 N1q
  refine Go.step (fun t k => st1 t k) ?_
  show Go p.tables e below P (T1.setTop (mkF m 6 #[.val (.long u1), .second, .val (.long u2), .second, .val (.long u3), .second, .val (.long u4), .second] [(.long r1)]))
  refine Go.step (fun t k => XS.lloadN X1.here hx rfl (hb hby d6_6) rfl  k) ?_
  show Go p.tables e below P (T1.setTop (mkF m 7 #[.val (.long u1), .second, .val (.long u2), .second, .val (.long u3), .second, .val (.long u4), .second] [(.long u2), (.long r1)]))
  refine Go.step (fun t k => XS.lload X1.here hx rfl (hb hby d6_7) rfl  k) ?_
  show Go p.tables e below P (T1.setTop (mkF m 9 #[.val (.long u1), .second, .val (.long u2), .second, .val (.long u3), .second, .val (.long u4), .second] [(.long u4), (.long u2), (.long r1)]))
  obtain ⟨_, _, ⟨T2, L2, k2, n2⟩, -, X2, ⟨Lc2, hQ2, l2, y2, z2⟩, st2⟩ := Jvm.LawKit.callS X1 hx (y := (⟨"java/lang/Math", "min", "(JJ)J"⟩ : MethodName)) hown (mvT hZ (hw _ (List.mem_of_getElem? (i := 36) rfl))) (mvT hZ (hw _ (List.mem_of_getElem? (i := 37) rfl))) (mvT hZ (hw _ (List.mem_of_getElem? (i := 34) rfl))) (mvT hZ (hw _ (List.mem_of_getElem? (i := 38) rfl))) (by decide) (backOf (W := 2) (rm3 l Z a0 hw [] u2 u4 h0 n0 Z0 ) hZ (hw _ (List.mem_of_getElem? (i := 38) rfl)) (hw _ (List.mem_of_getElem? (i := 34) rfl)) (by decide) (by decide)) (g := (mkF m 9 #[.val (.long u1), .second, .val (.long u2), .second, .val (.long u3), .second, .val (.long u4), .second] [(.long u4), (.long u2), (.long r1)])) rfl (by rw [hml]; rfl) (argsL := [(.long u2), (.long u4)]) (rest := [(.long r1)]) (lenOf pd_1 rfl) rfl (by show 2 * 0 + _ ≤ _; exact Nat.le_of_eq rfl) (hb hby d6_9) (fun _ _ => ⟨rfl, eh1, (by decide : 0 + 0 ≤ _), (by decide : 0 + 0 ≤ _)⟩)
  dsimp only [Pt.U, Pt.locs, Pt.cells, Pt.slots] at X2 l2 y2 z2 st2 hQ2
  subst l2 y2 z2
  obtain ⟨r2, rfl, hr2, N2q, eh2⟩ := hQ2
  have N2 := Fr.app N1 N2q
  refine Go.step (fun t k => st2 t k) ?_
  show Go p.tables e below P (T2.setTop (mkF m 12 #[.val (.long u1), .second, .val (.long u2), .second, .val (.long u3), .second, .val (.long u4), .second] [(.long r2), (.long r1)]))
  refine Go.step (fun t k => XS.lcmp X2.here hx rfl (hb hby d6_12) rfl k) ?_
  show Go p.tables e below P (T2.setTop (mkF m 13 #[.val (.long u1), .second, .val (.long u2), .second, .val (.long u3), .second, .val (.long u4), .second] [(.int (lcmpW r1 r2))]))
  by_cases hc13 : r2.toInt < r1.toInt
  · refine Go.step (fun t k => XS.ifYes X2.here hx rfl (pc0 := 13) (pc' := 20) rfl (hb hby d6_13) rfl (lcY (cd := .gt) hc13) (by decide) (by decide) k) ?_
    show Go p.tables e below P (T2.setTop (mkF m 20 #[.val (.long u1), .second, .val (.long u2), .second, .val (.long u3), .second, .val (.long u4), .second] []))
    refine Go.step (fun t k => XS.iconst X2.here hx rfl (hb hby d6_20) k) ?_
    show Go p.tables e below P (T2.setTop (mkF m 21 #[.val (.long u1), .second, .val (.long u2), .second, .val (.long u3), .second, .val (.long u4), .second] [(.int (0 : Int32))]))
    exact retGo X2 hx hP Bd.returns hlk rfl (Or.inl ⟨rfl, Or.inr (Or.inl rfl), _, rfl⟩) (hb hby d6_21) (by decide) (by decide) (by rw [eh2]; exact ⟨0, rfl, Or.inr ⟨rfl, by omega⟩, N2, rfl⟩)
  · refine Go.step (fun t k => XS.ifNo X2.here hx rfl (hb hby d6_13) rfl (lcN (cd := .gt) hc13) k) ?_
    show Go p.tables e below P (T2.setTop (mkF m 16 #[.val (.long u1), .second, .val (.long u2), .second, .val (.long u3), .second, .val (.long u4), .second] []))
    refine Go.step (fun t k => XS.iconst X2.here hx rfl (hb hby d6_16) k) ?_
    show Go p.tables e below P (T2.setTop (mkF m 17 #[.val (.long u1), .second, .val (.long u2), .second, .val (.long u3), .second, .val (.long u4), .second] [(.int (1 : Int32))]))
    refine Go.step (fun t k => XS.goto X2.here hx rfl (pc0 := 17) (pc' := 21) rfl (hb hby d6_17) (by decide) (by decide) k) ?_
    show Go p.tables e below P (T2.setTop (mkF m 21 #[.val (.long u1), .second, .val (.long u2), .second, .val (.long u3), .second, .val (.long u4), .second] [(.int (1 : Int32))]))
    exact retGo X2 hx hP Bd.returns hlk rfl (Or.inl ⟨rfl, Or.inr (Or.inl rfl), _, rfl⟩) (hb hby d6_21) (by decide) (by decide) (by rw [eh2]; exact ⟨1, rfl, Or.inl ⟨rfl, by omega⟩, N2, rfl⟩)
theorem pn_0 : plainName "com/example/geofence/geofence/geometry/BoxMissesPinLaw" = true := by first | (simp [plainName, overriddenIn]; done) | decide +kernel
theorem ef_0 (m : MethodId) (x0 : Int64) (x1 : Int64) (x2 : Int64) (x3 : Int64) : entryFrame m #[(.long x0), (.long x1), (.long x2), (.long x3)] maxLocals = mkF m 0 #[.val (.long x0), .second, .val (.long x1), .second, .val (.long x2), .second, .val (.long x3), .second, .unset, .unset, .unset, .unset, .unset, .unset, .unset, .unset, .unset, .unset, .unset, .unset, .unset, .unset, .unset, .unset, .unset, .unset, .unset, .unset, .unset] [] := by first | (simp [entryFrame, mkF, argsToLocals, Value.category, maxLocals]; done) | rfl
def Q0 (Z : State) (p1 : Int64) (p2 : Int64) (p3 : Int64) (p4 : Int64) (h0 : Heap) (n0 : Nat) (v : Option Value) (h : Heap) (L : List Loc) : Prop := v = some (.int 1) ∧ Fr n0 L
set_option maxRecDepth 65536 in
set_option maxHeartbeats 40000000 in
theorem rm0 (l : Launch) (Z : State) (a0 : Array Value) (hw : ∀ d ∈ tables_1, d.before a0 Z = true) (ws : List Jvm.Cond) (p1 : Int64) (p2 : Int64) (p3 : Int64) (p4 : Int64) (h0 : Heap) (n0 : Nat) (Z0 : n0 ≤ h0.size) :
    MetFree l x (head1 (Jvm.Cond.code x code maxLocals ret :: ws) room_1) (fun a_ U => a_ = #[(.long p1), (.long p2), (.long p3), (.long p4)] ∧ Z.Warmed39 U.vm ∧ U.heap = h0) (fun _ _ _ _ _ => True) (fun _ U o U' => ∃ v L, o = .returned v ∧ Q0 Z p1 p2 p3 p4 h0 n0 v U'.heap L ∧ FrameEnd U o U' L 16 128) := by
  refine MetFree.of_bodySF (plainFor_of_name pn_0) hisR ?_
  intro p e s m args below meth c s₁ Bd hml0 hP0 hK
  obtain ⟨rfl, hZ, hh⟩ := hP0
  have hx := Bd.exec
  have hby := Bd.bytes
  have hml : c.maxLocals = 29 := hml0
  have hown : s.vm.findClass "com/example/geofence/geofence/geometry/BoxMissesPinLaw" = some m.cls := findClass_of_methodNamed Bd.named
  have hnm := (name_of_methodNamed Bd.named Bd.method).1
  have X0 : Stand p l e room_1 s m #[(.long p1), (.long p2), (.long p3), (.long p4)] below meth c s₁ [] 0 0 := Stand.of_body Bd
  have e0 : s₁.heap = h0 := by rw [← hh, Bd.state]; rfl
  have N0 := Fr.nil n0
  have hlk : meth.locks = false := BodyLoose.notSynchronized Bd
  refine Go.start (P₀ := fun s₂ o => ∃ v L, o = .returned v ∧ Q0 Z p1 p2 p3 p4 h0 n0 v s₂.heap L ∧ FrameEnd s o s₂ L 16 128) (congrArg s₁.setTop (ef_0 m p1 p2 p3 p4)) ?_
  intro P hP
  show Go p.tables e below P (s₁.setTop (mkF m 0 #[.val (.long p1), .second, .val (.long p2), .second, .val (.long p3), .second, .val (.long p4), .second, .unset, .unset, .unset, .unset, .unset, .unset, .unset, .unset, .unset, .unset, .unset, .unset, .unset, .unset, .unset, .unset, .unset, .unset, .unset, .unset, .unset] []))
  refine Go.step (fun t k => XS.lloadN X0.here hx rfl (hb hby at_0) rfl  k) ?_
  show Go p.tables e below P (s₁.setTop (mkF m 1 #[.val (.long p1), .second, .val (.long p2), .second, .val (.long p3), .second, .val (.long p4), .second, .unset, .unset, .unset, .unset, .unset, .unset, .unset, .unset, .unset, .unset, .unset, .unset, .unset, .unset, .unset, .unset, .unset, .unset, .unset, .unset, .unset] [(.long p1)]))
  refine Go.step (fun t k => XS.bipush X0.here hx rfl (hb hby at_1) k) ?_
  show Go p.tables e below P (s₁.setTop (mkF m 3 #[.val (.long p1), .second, .val (.long p2), .second, .val (.long p3), .second, .val (.long p4), .second, .unset, .unset, .unset, .unset, .unset, .unset, .unset, .unset, .unset, .unset, .unset, .unset, .unset, .unset, .unset, .unset, .unset, .unset, .unset, .unset, .unset] [(.int (32 : Int32)), (.long p1)]))
  obtain ⟨j3, hj3⟩ : ∃ z : Int64, (p1 >>> ((32 : Int32) &&& 0x3f).toInt64) = z := ⟨_, rfl⟩
  refine Go.step (fun t k => lshr_v X0.here hx rfl (hb hby at_3) rfl  hj3 k) ?_
  show Go p.tables e below P (s₁.setTop (mkF m 4 #[.val (.long p1), .second, .val (.long p2), .second, .val (.long p3), .second, .val (.long p4), .second, .unset, .unset, .unset, .unset, .unset, .unset, .unset, .unset, .unset, .unset, .unset, .unset, .unset, .unset, .unset, .unset, .unset, .unset, .unset, .unset, .unset] [(.long j3)]))
  obtain ⟨i4, hi4⟩ : ∃ z : Int32, j3.toInt32 = z := ⟨_, rfl⟩
  refine Go.step (fun t k => l2i_v X0.here hx rfl (hb hby at_4) rfl hi4 k) ?_
  show Go p.tables e below P (s₁.setTop (mkF m 5 #[.val (.long p1), .second, .val (.long p2), .second, .val (.long p3), .second, .val (.long p4), .second, .unset, .unset, .unset, .unset, .unset, .unset, .unset, .unset, .unset, .unset, .unset, .unset, .unset, .unset, .unset, .unset, .unset, .unset, .unset, .unset, .unset] [(.int i4)]))
  obtain ⟨j5, hj5⟩ : ∃ z : Int64, i4.toInt64 = z := ⟨_, rfl⟩
  refine Go.step (fun t k => i2l_v X0.here hx rfl (hb hby at_5) rfl hj5 k) ?_
  show Go p.tables e below P (s₁.setTop (mkF m 6 #[.val (.long p1), .second, .val (.long p2), .second, .val (.long p3), .second, .val (.long p4), .second, .unset, .unset, .unset, .unset, .unset, .unset, .unset, .unset, .unset, .unset, .unset, .unset, .unset, .unset, .unset, .unset, .unset, .unset, .unset, .unset, .unset] [(.long j5)]))
  refine Go.step (fun t k => XS.lstore X0.here hx rfl (hb hby at_6) rfl (l' := #[.val (.long p1), .second, .val (.long p2), .second, .val (.long p3), .second, .val (.long p4), .second, .val (.long j5), .second, .unset, .unset, .unset, .unset, .unset, .unset, .unset, .unset, .unset, .unset, .unset, .unset, .unset, .unset, .unset, .unset, .unset, .unset, .unset]) rfl k) ?_
  show Go p.tables e below P (s₁.setTop (mkF m 8 #[.val (.long p1), .second, .val (.long p2), .second, .val (.long p3), .second, .val (.long p4), .second, .val (.long j5), .second, .unset, .unset, .unset, .unset, .unset, .unset, .unset, .unset, .unset, .unset, .unset, .unset, .unset, .unset, .unset, .unset, .unset, .unset, .unset] []))
  refine Go.step (fun t k => XS.lloadN X0.here hx rfl (hb hby at_8) rfl  k) ?_
  show Go p.tables e below P (s₁.setTop (mkF m 9 #[.val (.long p1), .second, .val (.long p2), .second, .val (.long p3), .second, .val (.long p4), .second, .val (.long j5), .second, .unset, .unset, .unset, .unset, .unset, .unset, .unset, .unset, .unset, .unset, .unset, .unset, .unset, .unset, .unset, .unset, .unset, .unset, .unset] [(.long p1)]))
  obtain ⟨i9, hi9⟩ : ∃ z : Int32, p1.toInt32 = z := ⟨_, rfl⟩
  refine Go.step (fun t k => l2i_v X0.here hx rfl (hb hby at_9) rfl hi9 k) ?_
  show Go p.tables e below P (s₁.setTop (mkF m 10 #[.val (.long p1), .second, .val (.long p2), .second, .val (.long p3), .second, .val (.long p4), .second, .val (.long j5), .second, .unset, .unset, .unset, .unset, .unset, .unset, .unset, .unset, .unset, .unset, .unset, .unset, .unset, .unset, .unset, .unset, .unset, .unset, .unset] [(.int i9)]))
  obtain ⟨j10, hj10⟩ : ∃ z : Int64, i9.toInt64 = z := ⟨_, rfl⟩
  refine Go.step (fun t k => i2l_v X0.here hx rfl (hb hby at_10) rfl hj10 k) ?_
  show Go p.tables e below P (s₁.setTop (mkF m 11 #[.val (.long p1), .second, .val (.long p2), .second, .val (.long p3), .second, .val (.long p4), .second, .val (.long j5), .second, .unset, .unset, .unset, .unset, .unset, .unset, .unset, .unset, .unset, .unset, .unset, .unset, .unset, .unset, .unset, .unset, .unset, .unset, .unset] [(.long j10)]))
  refine Go.step (fun t k => XS.lstore X0.here hx rfl (hb hby at_11) rfl (l' := #[.val (.long p1), .second, .val (.long p2), .second, .val (.long p3), .second, .val (.long p4), .second, .val (.long j5), .second, .val (.long j10), .second, .unset, .unset, .unset, .unset, .unset, .unset, .unset, .unset, .unset, .unset, .unset, .unset, .unset, .unset, .unset, .unset, .unset]) rfl k) ?_
  show Go p.tables e below P (s₁.setTop (mkF m 13 #[.val (.long p1), .second, .val (.long p2), .second, .val (.long p3), .second, .val (.long p4), .second, .val (.long j5), .second, .val (.long j10), .second, .unset, .unset, .unset, .unset, .unset, .unset, .unset, .unset, .unset, .unset, .unset, .unset, .unset, .unset, .unset, .unset, .unset] []))
  refine Go.step (fun t k => XS.lloadN X0.here hx rfl (hb hby at_13) rfl  k) ?_
  show Go p.tables e below P (s₁.setTop (mkF m 14 #[.val (.long p1), .second, .val (.long p2), .second, .val (.long p3), .second, .val (.long p4), .second, .val (.long j5), .second, .val (.long j10), .second, .unset, .unset, .unset, .unset, .unset, .unset, .unset, .unset, .unset, .unset, .unset, .unset, .unset, .unset, .unset, .unset, .unset] [(.long p2)]))
  refine Go.step (fun t k => XS.bipush X0.here hx rfl (hb hby at_14) k) ?_
  show Go p.tables e below P (s₁.setTop (mkF m 16 #[.val (.long p1), .second, .val (.long p2), .second, .val (.long p3), .second, .val (.long p4), .second, .val (.long j5), .second, .val (.long j10), .second, .unset, .unset, .unset, .unset, .unset, .unset, .unset, .unset, .unset, .unset, .unset, .unset, .unset, .unset, .unset, .unset, .unset] [(.int (32 : Int32)), (.long p2)]))
  obtain ⟨j16, hj16⟩ : ∃ z : Int64, ((p2.toUInt64 >>> ((32 : Int32) &&& 0x3f).toInt64.toUInt64).toInt64) = z := ⟨_, rfl⟩
  refine Go.step (fun t k => lushr_v X0.here hx rfl (hb hby at_16) rfl  hj16 k) ?_
  show Go p.tables e below P (s₁.setTop (mkF m 17 #[.val (.long p1), .second, .val (.long p2), .second, .val (.long p3), .second, .val (.long p4), .second, .val (.long j5), .second, .val (.long j10), .second, .unset, .unset, .unset, .unset, .unset, .unset, .unset, .unset, .unset, .unset, .unset, .unset, .unset, .unset, .unset, .unset, .unset] [(.long j16)]))
  refine Go.step (fun t k => X0.ldc2Long hx hown (mvT hZ (hw _ (List.mem_of_getElem? (i := 0) rfl))) (g := (mkF m 17 #[.val (.long p1), .second, .val (.long p2), .second, .val (.long p3), .second, .val (.long p4), .second, .val (.long j5), .second, .val (.long j10), .second, .unset, .unset, .unset, .unset, .unset, .unset, .unset, .unset, .unset, .unset, .unset, .unset, .unset, .unset, .unset, .unset, .unset] [(.long j16)])) rfl (hb hby at_17) t k) ?_
  show Go p.tables e below P (s₁.setTop (mkF m 20 #[.val (.long p1), .second, .val (.long p2), .second, .val (.long p3), .second, .val (.long p4), .second, .val (.long j5), .second, .val (.long j10), .second, .unset, .unset, .unset, .unset, .unset, .unset, .unset, .unset, .unset, .unset, .unset, .unset, .unset, .unset, .unset, .unset, .unset] [(.long (2147483647 : Int64)), (.long j16)]))
  obtain ⟨j20, hj20⟩ : ∃ z : Int64, j16 &&& (2147483647 : Int64) = z := ⟨_, rfl⟩
  refine Go.step (fun t k => land_v X0.here hx rfl (hb hby at_20) rfl  hj20 k) ?_
  show Go p.tables e below P (s₁.setTop (mkF m 21 #[.val (.long p1), .second, .val (.long p2), .second, .val (.long p3), .second, .val (.long p4), .second, .val (.long j5), .second, .val (.long j10), .second, .unset, .unset, .unset, .unset, .unset, .unset, .unset, .unset, .unset, .unset, .unset, .unset, .unset, .unset, .unset, .unset, .unset] [(.long j20)]))
  refine Go.step (fun t k => XS.lstore X0.here hx rfl (hb hby at_21) rfl (l' := #[.val (.long p1), .second, .val (.long p2), .second, .val (.long p3), .second, .val (.long p4), .second, .val (.long j5), .second, .val (.long j10), .second, .val (.long j20), .second, .unset, .unset, .unset, .unset, .unset, .unset, .unset, .unset, .unset, .unset, .unset, .unset, .unset, .unset, .unset]) rfl k) ?_
  show Go p.tables e below P (s₁.setTop (mkF m 23 #[.val (.long p1), .second, .val (.long p2), .second, .val (.long p3), .second, .val (.long p4), .second, .val (.long j5), .second, .val (.long j10), .second, .val (.long j20), .second, .unset, .unset, .unset, .unset, .unset, .unset, .unset, .unset, .unset, .unset, .unset, .unset, .unset, .unset, .unset] []))
  refine Go.step (fun t k => XS.lloadN X0.here hx rfl (hb hby at_23) rfl  k) ?_
  show Go p.tables e below P (s₁.setTop (mkF m 24 #[.val (.long p1), .second, .val (.long p2), .second, .val (.long p3), .second, .val (.long p4), .second, .val (.long j5), .second, .val (.long j10), .second, .val (.long j20), .second, .unset, .unset, .unset, .unset, .unset, .unset, .unset, .unset, .unset, .unset, .unset, .unset, .unset, .unset, .unset] [(.long p2)]))
  refine Go.step (fun t k => X0.ldc2Long hx hown (mvT hZ (hw _ (List.mem_of_getElem? (i := 0) rfl))) (g := (mkF m 24 #[.val (.long p1), .second, .val (.long p2), .second, .val (.long p3), .second, .val (.long p4), .second, .val (.long j5), .second, .val (.long j10), .second, .val (.long j20), .second, .unset, .unset, .unset, .unset, .unset, .unset, .unset, .unset, .unset, .unset, .unset, .unset, .unset, .unset, .unset] [(.long p2)])) rfl (hb hby at_24) t k) ?_
  show Go p.tables e below P (s₁.setTop (mkF m 27 #[.val (.long p1), .second, .val (.long p2), .second, .val (.long p3), .second, .val (.long p4), .second, .val (.long j5), .second, .val (.long j10), .second, .val (.long j20), .second, .unset, .unset, .unset, .unset, .unset, .unset, .unset, .unset, .unset, .unset, .unset, .unset, .unset, .unset, .unset] [(.long (2147483647 : Int64)), (.long p2)]))
  obtain ⟨j27, hj27⟩ : ∃ z : Int64, p2 &&& (2147483647 : Int64) = z := ⟨_, rfl⟩
  refine Go.step (fun t k => land_v X0.here hx rfl (hb hby at_27) rfl  hj27 k) ?_
  show Go p.tables e below P (s₁.setTop (mkF m 28 #[.val (.long p1), .second, .val (.long p2), .second, .val (.long p3), .second, .val (.long p4), .second, .val (.long j5), .second, .val (.long j10), .second, .val (.long j20), .second, .unset, .unset, .unset, .unset, .unset, .unset, .unset, .unset, .unset, .unset, .unset, .unset, .unset, .unset, .unset] [(.long j27)]))
  refine Go.step (fun t k => XS.lstore X0.here hx rfl (hb hby at_28) rfl (l' := #[.val (.long p1), .second, .val (.long p2), .second, .val (.long p3), .second, .val (.long p4), .second, .val (.long j5), .second, .val (.long j10), .second, .val (.long j20), .second, .val (.long j27), .second, .unset, .unset, .unset, .unset, .unset, .unset, .unset, .unset, .unset, .unset, .unset, .unset, .unset]) rfl k) ?_
  show Go p.tables e below P (s₁.setTop (mkF m 30 #[.val (.long p1), .second, .val (.long p2), .second, .val (.long p3), .second, .val (.long p4), .second, .val (.long j5), .second, .val (.long j10), .second, .val (.long j20), .second, .val (.long j27), .second, .unset, .unset, .unset, .unset, .unset, .unset, .unset, .unset, .unset, .unset, .unset, .unset, .unset] []))
  refine Go.step (fun t k => XS.lload X0.here hx rfl (hb hby at_30) rfl  k) ?_
  show Go p.tables e below P (s₁.setTop (mkF m 32 #[.val (.long p1), .second, .val (.long p2), .second, .val (.long p3), .second, .val (.long p4), .second, .val (.long j5), .second, .val (.long j10), .second, .val (.long j20), .second, .val (.long j27), .second, .unset, .unset, .unset, .unset, .unset, .unset, .unset, .unset, .unset, .unset, .unset, .unset, .unset] [(.long p3)]))
  refine Go.step (fun t k => XS.bipush X0.here hx rfl (hb hby at_32) k) ?_
  show Go p.tables e below P (s₁.setTop (mkF m 34 #[.val (.long p1), .second, .val (.long p2), .second, .val (.long p3), .second, .val (.long p4), .second, .val (.long j5), .second, .val (.long j10), .second, .val (.long j20), .second, .val (.long j27), .second, .unset, .unset, .unset, .unset, .unset, .unset, .unset, .unset, .unset, .unset, .unset, .unset, .unset] [(.int (32 : Int32)), (.long p3)]))
  obtain ⟨j34, hj34⟩ : ∃ z : Int64, (p3 >>> ((32 : Int32) &&& 0x3f).toInt64) = z := ⟨_, rfl⟩
  refine Go.step (fun t k => lshr_v X0.here hx rfl (hb hby at_34) rfl  hj34 k) ?_
  show Go p.tables e below P (s₁.setTop (mkF m 35 #[.val (.long p1), .second, .val (.long p2), .second, .val (.long p3), .second, .val (.long p4), .second, .val (.long j5), .second, .val (.long j10), .second, .val (.long j20), .second, .val (.long j27), .second, .unset, .unset, .unset, .unset, .unset, .unset, .unset, .unset, .unset, .unset, .unset, .unset, .unset] [(.long j34)]))
  obtain ⟨i35, hi35⟩ : ∃ z : Int32, j34.toInt32 = z := ⟨_, rfl⟩
  refine Go.step (fun t k => l2i_v X0.here hx rfl (hb hby at_35) rfl hi35 k) ?_
  show Go p.tables e below P (s₁.setTop (mkF m 36 #[.val (.long p1), .second, .val (.long p2), .second, .val (.long p3), .second, .val (.long p4), .second, .val (.long j5), .second, .val (.long j10), .second, .val (.long j20), .second, .val (.long j27), .second, .unset, .unset, .unset, .unset, .unset, .unset, .unset, .unset, .unset, .unset, .unset, .unset, .unset] [(.int i35)]))
  obtain ⟨j36, hj36⟩ : ∃ z : Int64, i35.toInt64 = z := ⟨_, rfl⟩
  refine Go.step (fun t k => i2l_v X0.here hx rfl (hb hby at_36) rfl hj36 k) ?_
  show Go p.tables e below P (s₁.setTop (mkF m 37 #[.val (.long p1), .second, .val (.long p2), .second, .val (.long p3), .second, .val (.long p4), .second, .val (.long j5), .second, .val (.long j10), .second, .val (.long j20), .second, .val (.long j27), .second, .unset, .unset, .unset, .unset, .unset, .unset, .unset, .unset, .unset, .unset, .unset, .unset, .unset] [(.long j36)]))
  refine Go.step (fun t k => XS.lstore X0.here hx rfl (hb hby at_37) rfl (l' := #[.val (.long p1), .second, .val (.long p2), .second, .val (.long p3), .second, .val (.long p4), .second, .val (.long j5), .second, .val (.long j10), .second, .val (.long j20), .second, .val (.long j27), .second, .val (.long j36), .second, .unset, .unset, .unset, .unset, .unset, .unset, .unset, .unset, .unset, .unset, .unset]) rfl k) ?_
  show Go p.tables e below P (s₁.setTop (mkF m 39 #[.val (.long p1), .second, .val (.long p2), .second, .val (.long p3), .second, .val (.long p4), .second, .val (.long j5), .second, .val (.long j10), .second, .val (.long j20), .second, .val (.long j27), .second, .val (.long j36), .second, .unset, .unset, .unset, .unset, .unset, .unset, .unset, .unset, .unset, .unset, .unset] []))
  refine Go.step (fun t k => XS.lload X0.here hx rfl (hb hby at_39) rfl  k) ?_
  show Go p.tables e below P (s₁.setTop (mkF m 41 #[.val (.long p1), .second, .val (.long p2), .second, .val (.long p3), .second, .val (.long p4), .second, .val (.long j5), .second, .val (.long j10), .second, .val (.long j20), .second, .val (.long j27), .second, .val (.long j36), .second, .unset, .unset, .unset, .unset, .unset, .unset, .unset, .unset, .unset, .unset, .unset] [(.long p3)]))
  obtain ⟨i41, hi41⟩ : ∃ z : Int32, p3.toInt32 = z := ⟨_, rfl⟩
  refine Go.step (fun t k => l2i_v X0.here hx rfl (hb hby at_41) rfl hi41 k) ?_
  show Go p.tables e below P (s₁.setTop (mkF m 42 #[.val (.long p1), .second, .val (.long p2), .second, .val (.long p3), .second, .val (.long p4), .second, .val (.long j5), .second, .val (.long j10), .second, .val (.long j20), .second, .val (.long j27), .second, .val (.long j36), .second, .unset, .unset, .unset, .unset, .unset, .unset, .unset, .unset, .unset, .unset, .unset] [(.int i41)]))
  obtain ⟨j42, hj42⟩ : ∃ z : Int64, i41.toInt64 = z := ⟨_, rfl⟩
  refine Go.step (fun t k => i2l_v X0.here hx rfl (hb hby at_42) rfl hj42 k) ?_
  show Go p.tables e below P (s₁.setTop (mkF m 43 #[.val (.long p1), .second, .val (.long p2), .second, .val (.long p3), .second, .val (.long p4), .second, .val (.long j5), .second, .val (.long j10), .second, .val (.long j20), .second, .val (.long j27), .second, .val (.long j36), .second, .unset, .unset, .unset, .unset, .unset, .unset, .unset, .unset, .unset, .unset, .unset] [(.long j42)]))
  refine Go.step (fun t k => XS.lstore X0.here hx rfl (hb hby at_43) rfl (l' := #[.val (.long p1), .second, .val (.long p2), .second, .val (.long p3), .second, .val (.long p4), .second, .val (.long j5), .second, .val (.long j10), .second, .val (.long j20), .second, .val (.long j27), .second, .val (.long j36), .second, .val (.long j42), .second, .unset, .unset, .unset, .unset, .unset, .unset, .unset, .unset, .unset]) rfl k) ?_
  show Go p.tables e below P (s₁.setTop (mkF m 45 #[.val (.long p1), .second, .val (.long p2), .second, .val (.long p3), .second, .val (.long p4), .second, .val (.long j5), .second, .val (.long j10), .second, .val (.long j20), .second, .val (.long j27), .second, .val (.long j36), .second, .val (.long j42), .second, .unset, .unset, .unset, .unset, .unset, .unset, .unset, .unset, .unset] []))
  refine Go.step (fun t k => XS.lload X0.here hx rfl (hb hby at_45) rfl  k) ?_
  show Go p.tables e below P (s₁.setTop (mkF m 47 #[.val (.long p1), .second, .val (.long p2), .second, .val (.long p3), .second, .val (.long p4), .second, .val (.long j5), .second, .val (.long j10), .second, .val (.long j20), .second, .val (.long j27), .second, .val (.long j36), .second, .val (.long j42), .second, .unset, .unset, .unset, .unset, .unset, .unset, .unset, .unset, .unset] [(.long j36)]))
  refine Go.step (fun t k => XS.lload X0.here hx rfl (hb hby at_47) rfl  k) ?_
  show Go p.tables e below P (s₁.setTop (mkF m 49 #[.val (.long p1), .second, .val (.long p2), .second, .val (.long p3), .second, .val (.long p4), .second, .val (.long j5), .second, .val (.long j10), .second, .val (.long j20), .second, .val (.long j27), .second, .val (.long j36), .second, .val (.long j42), .second, .unset, .unset, .unset, .unset, .unset, .unset, .unset, .unset, .unset] [(.long p4), (.long j36)]))
  refine Go.step (fun t k => XS.bipush X0.here hx rfl (hb hby at_49) k) ?_
  show Go p.tables e below P (s₁.setTop (mkF m 51 #[.val (.long p1), .second, .val (.long p2), .second, .val (.long p3), .second, .val (.long p4), .second, .val (.long j5), .second, .val (.long j10), .second, .val (.long j20), .second, .val (.long j27), .second, .val (.long j36), .second, .val (.long j42), .second, .unset, .unset, .unset, .unset, .unset, .unset, .unset, .unset, .unset] [(.int (32 : Int32)), (.long p4), (.long j36)]))
  obtain ⟨j51, hj51⟩ : ∃ z : Int64, ((p4.toUInt64 >>> ((32 : Int32) &&& 0x3f).toInt64.toUInt64).toInt64) = z := ⟨_, rfl⟩
  refine Go.step (fun t k => lushr_v X0.here hx rfl (hb hby at_51) rfl  hj51 k) ?_
  show Go p.tables e below P (s₁.setTop (mkF m 52 #[.val (.long p1), .second, .val (.long p2), .second, .val (.long p3), .second, .val (.long p4), .second, .val (.long j5), .second, .val (.long j10), .second, .val (.long j20), .second, .val (.long j27), .second, .val (.long j36), .second, .val (.long j42), .second, .unset, .unset, .unset, .unset, .unset, .unset, .unset, .unset, .unset] [(.long j51), (.long j36)]))
  refine Go.step (fun t k => X0.ldc2Long hx hown (mvT hZ (hw _ (List.mem_of_getElem? (i := 0) rfl))) (g := (mkF m 52 #[.val (.long p1), .second, .val (.long p2), .second, .val (.long p3), .second, .val (.long p4), .second, .val (.long j5), .second, .val (.long j10), .second, .val (.long j20), .second, .val (.long j27), .second, .val (.long j36), .second, .val (.long j42), .second, .unset, .unset, .unset, .unset, .unset, .unset, .unset, .unset, .unset] [(.long j51), (.long j36)])) rfl (hb hby at_52) t k) ?_
  show Go p.tables e below P (s₁.setTop (mkF m 55 #[.val (.long p1), .second, .val (.long p2), .second, .val (.long p3), .second, .val (.long p4), .second, .val (.long j5), .second, .val (.long j10), .second, .val (.long j20), .second, .val (.long j27), .second, .val (.long j36), .second, .val (.long j42), .second, .unset, .unset, .unset, .unset, .unset, .unset, .unset, .unset, .unset] [(.long (2147483647 : Int64)), (.long j51), (.long j36)]))
  obtain ⟨j55, hj55⟩ : ∃ z : Int64, j51 &&& (2147483647 : Int64) = z := ⟨_, rfl⟩
  refine Go.step (fun t k => land_v X0.here hx rfl (hb hby at_55) rfl  hj55 k) ?_
  show Go p.tables e below P (s₁.setTop (mkF m 56 #[.val (.long p1), .second, .val (.long p2), .second, .val (.long p3), .second, .val (.long p4), .second, .val (.long j5), .second, .val (.long j10), .second, .val (.long j20), .second, .val (.long j27), .second, .val (.long j36), .second, .val (.long j42), .second, .unset, .unset, .unset, .unset, .unset, .unset, .unset, .unset, .unset] [(.long j55), (.long j36)]))
  obtain ⟨j56, hj56⟩ : ∃ z : Int64, j36 + j55 = z := ⟨_, rfl⟩
  refine Go.step (fun t k => ladd_v X0.here hx rfl (hb hby at_56) rfl  hj56 k) ?_
  show Go p.tables e below P (s₁.setTop (mkF m 57 #[.val (.long p1), .second, .val (.long p2), .second, .val (.long p3), .second, .val (.long p4), .second, .val (.long j5), .second, .val (.long j10), .second, .val (.long j20), .second, .val (.long j27), .second, .val (.long j36), .second, .val (.long j42), .second, .unset, .unset, .unset, .unset, .unset, .unset, .unset, .unset, .unset] [(.long j56)]))
  refine Go.step (fun t k => XS.lstore X0.here hx rfl (hb hby at_57) rfl (l' := #[.val (.long p1), .second, .val (.long p2), .second, .val (.long p3), .second, .val (.long p4), .second, .val (.long j5), .second, .val (.long j10), .second, .val (.long j20), .second, .val (.long j27), .second, .val (.long j36), .second, .val (.long j42), .second, .val (.long j56), .second, .unset, .unset, .unset, .unset, .unset, .unset, .unset]) rfl k) ?_
  show Go p.tables e below P (s₁.setTop (mkF m 59 #[.val (.long p1), .second, .val (.long p2), .second, .val (.long p3), .second, .val (.long p4), .second, .val (.long j5), .second, .val (.long j10), .second, .val (.long j20), .second, .val (.long j27), .second, .val (.long j36), .second, .val (.long j42), .second, .val (.long j56), .second, .unset, .unset, .unset, .unset, .unset, .unset, .unset] []))
  refine Go.step (fun t k => XS.lload X0.here hx rfl (hb hby at_59) rfl  k) ?_
  show Go p.tables e below P (s₁.setTop (mkF m 61 #[.val (.long p1), .second, .val (.long p2), .second, .val (.long p3), .second, .val (.long p4), .second, .val (.long j5), .second, .val (.long j10), .second, .val (.long j20), .second, .val (.long j27), .second, .val (.long j36), .second, .val (.long j42), .second, .val (.long j56), .second, .unset, .unset, .unset, .unset, .unset, .unset, .unset] [(.long j42)]))
  refine Go.step (fun t k => XS.lload X0.here hx rfl (hb hby at_61) rfl  k) ?_
  show Go p.tables e below P (s₁.setTop (mkF m 63 #[.val (.long p1), .second, .val (.long p2), .second, .val (.long p3), .second, .val (.long p4), .second, .val (.long j5), .second, .val (.long j10), .second, .val (.long j20), .second, .val (.long j27), .second, .val (.long j36), .second, .val (.long j42), .second, .val (.long j56), .second, .unset, .unset, .unset, .unset, .unset, .unset, .unset] [(.long p4), (.long j42)]))
  refine Go.step (fun t k => X0.ldc2Long hx hown (mvT hZ (hw _ (List.mem_of_getElem? (i := 0) rfl))) (g := (mkF m 63 #[.val (.long p1), .second, .val (.long p2), .second, .val (.long p3), .second, .val (.long p4), .second, .val (.long j5), .second, .val (.long j10), .second, .val (.long j20), .second, .val (.long j27), .second, .val (.long j36), .second, .val (.long j42), .second, .val (.long j56), .second, .unset, .unset, .unset, .unset, .unset, .unset, .unset] [(.long p4), (.long j42)])) rfl (hb hby at_63) t k) ?_
  show Go p.tables e below P (s₁.setTop (mkF m 66 #[.val (.long p1), .second, .val (.long p2), .second, .val (.long p3), .second, .val (.long p4), .second, .val (.long j5), .second, .val (.long j10), .second, .val (.long j20), .second, .val (.long j27), .second, .val (.long j36), .second, .val (.long j42), .second, .val (.long j56), .second, .unset, .unset, .unset, .unset, .unset, .unset, .unset] [(.long (2147483647 : Int64)), (.long p4), (.long j42)]))
  obtain ⟨j66, hj66⟩ : ∃ z : Int64, p4 &&& (2147483647 : Int64) = z := ⟨_, rfl⟩
  refine Go.step (fun t k => land_v X0.here hx rfl (hb hby at_66) rfl  hj66 k) ?_
  show Go p.tables e below P (s₁.setTop (mkF m 67 #[.val (.long p1), .second, .val (.long p2), .second, .val (.long p3), .second, .val (.long p4), .second, .val (.long j5), .second, .val (.long j10), .second, .val (.long j20), .second, .val (.long j27), .second, .val (.long j36), .second, .val (.long j42), .second, .val (.long j56), .second, .unset, .unset, .unset, .unset, .unset, .unset, .unset] [(.long j66), (.long j42)]))
  obtain ⟨j67, hj67⟩ : ∃ z : Int64, j42 + j66 = z := ⟨_, rfl⟩
  refine Go.step (fun t k => ladd_v X0.here hx rfl (hb hby at_67) rfl  hj67 k) ?_
  show Go p.tables e below P (s₁.setTop (mkF m 68 #[.val (.long p1), .second, .val (.long p2), .second, .val (.long p3), .second, .val (.long p4), .second, .val (.long j5), .second, .val (.long j10), .second, .val (.long j20), .second, .val (.long j27), .second, .val (.long j36), .second, .val (.long j42), .second, .val (.long j56), .second, .unset, .unset, .unset, .unset, .unset, .unset, .unset] [(.long j67)]))
  refine Go.step (fun t k => XS.lstore X0.here hx rfl (hb hby at_68) rfl (l' := #[.val (.long p1), .second, .val (.long p2), .second, .val (.long p3), .second, .val (.long p4), .second, .val (.long j5), .second, .val (.long j10), .second, .val (.long j20), .second, .val (.long j27), .second, .val (.long j36), .second, .val (.long j42), .second, .val (.long j56), .second, .val (.long j67), .second, .unset, .unset, .unset, .unset, .unset]) rfl k) ?_
  show Go p.tables e below P (s₁.setTop (mkF m 70 #[.val (.long p1), .second, .val (.long p2), .second, .val (.long p3), .second, .val (.long p4), .second, .val (.long j5), .second, .val (.long j10), .second, .val (.long j20), .second, .val (.long j27), .second, .val (.long j36), .second, .val (.long j42), .second, .val (.long j56), .second, .val (.long j67), .second, .unset, .unset, .unset, .unset, .unset] []))
  have f5 := c_i2l i4; rw [hj5] at f5
  have g4 := rng32 i4
  have f10 := c_i2l i9; rw [hj10] at f10
  have g9 := rng32 i9
  have f36 := c_i2l i35; rw [hj36] at f36
  have g35 := rng32 i35
  have f42 := c_i2l i41; rw [hj42] at f42
  have g41 := rng32 i41
  have f20 := c_maskL j16 (2147483647 : Int64) 31 (by decide) rfl; rw [hj20] at f20
  have f27 := c_maskL p2 (2147483647 : Int64) 31 (by decide) rfl; rw [hj27] at f27
  have f55 := c_maskL j51 (2147483647 : Int64) 31 (by decide) rfl; rw [hj55] at f55
  have f66 := c_maskL p4 (2147483647 : Int64) 31 (by decide) rfl; rw [hj66] at f66
  have f56 := c_ladd j36 j55; rw [hj56] at f56
  have g56 := rng64 j56
  have f67 := c_ladd j42 j66; rw [hj67] at f67
  have g67 := rng64 j67
  have b5 : -2147483648 ≤ j5.toInt ∧ j5.toInt < 2147483648 := by omega
  have b10 : -2147483648 ≤ j10.toInt ∧ j10.toInt < 2147483648 := by omega
  have b36 : -2147483648 ≤ j36.toInt ∧ j36.toInt < 2147483648 := by omega
  have b42 : -2147483648 ≤ j42.toInt ∧ j42.toInt < 2147483648 := by omega
  have b20 : 0 ≤ j20.toInt ∧ j20.toInt < 2147483648 := by omega
  have b27 : 0 ≤ j27.toInt ∧ j27.toInt < 2147483648 := by omega
  have b55 : 0 ≤ j55.toInt ∧ j55.toInt < 2147483648 := by omega
  have b66 : 0 ≤ j66.toInt ∧ j66.toInt < 2147483648 := by omega
  have v56 : j56.toInt = j36.toInt + j55.toInt := by omega
  have v67 : j67.toInt = j42.toInt + j66.toInt := by omega
  clear f20 f27 f55 f66 f56 f67 f5 f10 f36 f42
  obtain ⟨T1, h1, X1, e1, E1, A1, D1, -, st1⟩ := newO X0 hx hZ hown (hw _ (List.mem_of_getElem? (i := 1) rfl)) (hw _ (List.mem_of_getElem? (i := 2) rfl)) (hw _ (List.mem_of_getElem? (i := 3) rfl)) e0 (g := (mkF m 70 #[.val (.long p1), .second, .val (.long p2), .second, .val (.long p3), .second, .val (.long p4), .second, .val (.long j5), .second, .val (.long j10), .second, .val (.long j20), .second, .val (.long j27), .second, .val (.long j36), .second, .val (.long j42), .second, .val (.long j56), .second, .val (.long j67), .second, .unset, .unset, .unset, .unset, .unset] [])) rfl (hb hby at_70) (by decide) (by decide)
  obtain ⟨b1, g1⟩ : ∃ z, z = h0.size := ⟨_, rfl⟩
  rw [← g1] at A1 D1 st1
  have g_b1 : n0 ≤ b1 := Nat.le_trans Z0 (Nat.le_of_eq g1.symm)
  have sz_b1 : h0.size ≤ b1 := Nat.le_trans (Keep.refl h0 []).1 (Nat.le_of_eq g1.symm)
  have F_x_b1 : Fld Z h1 b1 "com/example/geofence/geofence/geometry/Box" "x" "D" (.double (0 : UInt64)) := D1 (Or.inr (hw _ (List.mem_of_getElem? (i := 16) rfl))) (ty := .double) (by decide)
  have F_y_b1 : Fld Z h1 b1 "com/example/geofence/geofence/geometry/Box" "y" "D" (.double (0 : UInt64)) := D1 (Or.inr (hw _ (List.mem_of_getElem? (i := 18) rfl))) (ty := .double) (by decide)
  have F_halfWidth_b1 : Fld Z h1 b1 "com/example/geofence/geofence/geometry/Box" "halfWidth" "D" (.double (0 : UInt64)) := D1 (Or.inr (hw _ (List.mem_of_getElem? (i := 20) rfl))) (ty := .double) (by decide)
  have F_halfHeight_b1 : Fld Z h1 b1 "com/example/geofence/geofence/geometry/Box" "halfHeight" "D" (.double (0 : UInt64)) := D1 (Or.inr (hw _ (List.mem_of_getElem? (i := 22) rfl))) (ty := .double) (by decide)
  have K1 : Keep h0 h1 [] := (Keep.refl h0 []).ext E1
  have Z1 : n0 ≤ h1.size := Nat.le_trans Z0 E1.1
  refine Go.step (fun t k => st1 t k) ?_
  show Go p.tables e below P (T1.setTop (mkF m 73 #[.val (.long p1), .second, .val (.long p2), .second, .val (.long p3), .second, .val (.long p4), .second, .val (.long j5), .second, .val (.long j10), .second, .val (.long j20), .second, .val (.long j27), .second, .val (.long j36), .second, .val (.long j42), .second, .val (.long j56), .second, .val (.long j67), .second, .unset, .unset, .unset, .unset, .unset] [(.ref b1)]))
  refine Go.step (fun t k => XS.dup X1.here hx rfl (hb hby at_73) rfl rfl k) ?_
  show Go p.tables e below P (T1.setTop (mkF m 74 #[.val (.long p1), .second, .val (.long p2), .second, .val (.long p3), .second, .val (.long p4), .second, .val (.long j5), .second, .val (.long j10), .second, .val (.long j20), .second, .val (.long j27), .second, .val (.long j36), .second, .val (.long j42), .second, .val (.long j56), .second, .val (.long j67), .second, .unset, .unset, .unset, .unset, .unset] [(.ref b1), (.ref b1)]))
  refine Go.step (fun t k => XS.lload X1.here hx rfl (hb hby at_74) rfl  k) ?_
  show Go p.tables e below P (T1.setTop (mkF m 76 #[.val (.long p1), .second, .val (.long p2), .second, .val (.long p3), .second, .val (.long p4), .second, .val (.long j5), .second, .val (.long j10), .second, .val (.long j20), .second, .val (.long j27), .second, .val (.long j36), .second, .val (.long j42), .second, .val (.long j56), .second, .val (.long j67), .second, .unset, .unset, .unset, .unset, .unset] [(.long j5), (.ref b1), (.ref b1)]))
  obtain ⟨d76, hd76⟩ : ∃ z : UInt64, FP.l2d j5 = z := ⟨_, rfl⟩
  refine Go.step (fun t k => XS.l2dS X1.here hx rfl (hb hby at_76) rfl hd76 k) ?_
  show Go p.tables e below P (T1.setTop (mkF m 77 #[.val (.long p1), .second, .val (.long p2), .second, .val (.long p3), .second, .val (.long p4), .second, .val (.long j5), .second, .val (.long j10), .second, .val (.long j20), .second, .val (.long j27), .second, .val (.long j36), .second, .val (.long j42), .second, .val (.long j56), .second, .val (.long j67), .second, .unset, .unset, .unset, .unset, .unset] [(.double d76), (.ref b1), (.ref b1)]))
  have q76 := l2d_e (x := j5) (by omega); rw [hd76] at q76
  refine Go.step (fun t k => XS.lload X1.here hx rfl (hb hby at_77) rfl  k) ?_
  show Go p.tables e below P (T1.setTop (mkF m 79 #[.val (.long p1), .second, .val (.long p2), .second, .val (.long p3), .second, .val (.long p4), .second, .val (.long j5), .second, .val (.long j10), .second, .val (.long j20), .second, .val (.long j27), .second, .val (.long j36), .second, .val (.long j42), .second, .val (.long j56), .second, .val (.long j67), .second, .unset, .unset, .unset, .unset, .unset] [(.long j10), (.double d76), (.ref b1), (.ref b1)]))
  obtain ⟨d79, hd79⟩ : ∃ z : UInt64, FP.l2d j10 = z := ⟨_, rfl⟩
  refine Go.step (fun t k => XS.l2dS X1.here hx rfl (hb hby at_79) rfl hd79 k) ?_
  show Go p.tables e below P (T1.setTop (mkF m 80 #[.val (.long p1), .second, .val (.long p2), .second, .val (.long p3), .second, .val (.long p4), .second, .val (.long j5), .second, .val (.long j10), .second, .val (.long j20), .second, .val (.long j27), .second, .val (.long j36), .second, .val (.long j42), .second, .val (.long j56), .second, .val (.long j67), .second, .unset, .unset, .unset, .unset, .unset] [(.double d79), (.double d76), (.ref b1), (.ref b1)]))
  have q79 := l2d_e (x := j10) (by omega); rw [hd79] at q79
  refine Go.step (fun t k => XS.lload X1.here hx rfl (hb hby at_80) rfl  k) ?_
  show Go p.tables e below P (T1.setTop (mkF m 82 #[.val (.long p1), .second, .val (.long p2), .second, .val (.long p3), .second, .val (.long p4), .second, .val (.long j5), .second, .val (.long j10), .second, .val (.long j20), .second, .val (.long j27), .second, .val (.long j36), .second, .val (.long j42), .second, .val (.long j56), .second, .val (.long j67), .second, .unset, .unset, .unset, .unset, .unset] [(.long j20), (.double d79), (.double d76), (.ref b1), (.ref b1)]))
  obtain ⟨d82, hd82⟩ : ∃ z : UInt64, FP.l2d j20 = z := ⟨_, rfl⟩
  refine Go.step (fun t k => XS.l2dS X1.here hx rfl (hb hby at_82) rfl hd82 k) ?_
  show Go p.tables e below P (T1.setTop (mkF m 83 #[.val (.long p1), .second, .val (.long p2), .second, .val (.long p3), .second, .val (.long p4), .second, .val (.long j5), .second, .val (.long j10), .second, .val (.long j20), .second, .val (.long j27), .second, .val (.long j36), .second, .val (.long j42), .second, .val (.long j56), .second, .val (.long j67), .second, .unset, .unset, .unset, .unset, .unset] [(.double d82), (.double d79), (.double d76), (.ref b1), (.ref b1)]))
  have q82 := l2d_e (x := j20) (by omega); rw [hd82] at q82
  refine Go.step (fun t k => XS.lload X1.here hx rfl (hb hby at_83) rfl  k) ?_
  show Go p.tables e below P (T1.setTop (mkF m 85 #[.val (.long p1), .second, .val (.long p2), .second, .val (.long p3), .second, .val (.long p4), .second, .val (.long j5), .second, .val (.long j10), .second, .val (.long j20), .second, .val (.long j27), .second, .val (.long j36), .second, .val (.long j42), .second, .val (.long j56), .second, .val (.long j67), .second, .unset, .unset, .unset, .unset, .unset] [(.long j27), (.double d82), (.double d79), (.double d76), (.ref b1), (.ref b1)]))
  obtain ⟨d85, hd85⟩ : ∃ z : UInt64, FP.l2d j27 = z := ⟨_, rfl⟩
  refine Go.step (fun t k => XS.l2dS X1.here hx rfl (hb hby at_85) rfl hd85 k) ?_
  show Go p.tables e below P (T1.setTop (mkF m 86 #[.val (.long p1), .second, .val (.long p2), .second, .val (.long p3), .second, .val (.long p4), .second, .val (.long j5), .second, .val (.long j10), .second, .val (.long j20), .second, .val (.long j27), .second, .val (.long j36), .second, .val (.long j42), .second, .val (.long j56), .second, .val (.long j67), .second, .unset, .unset, .unset, .unset, .unset] [(.double d85), (.double d82), (.double d79), (.double d76), (.ref b1), (.ref b1)]))
  have q85 := l2d_e (x := j27) (by omega); rw [hd85] at q85
  obtain ⟨_, _, ⟨T2, L2, k2, n2⟩, -, X2, ⟨Lc2, hQ2, l2, y2, z2⟩, st2⟩ := X1.specialBack hx (y := (⟨"com/example/geofence/geofence/geometry/Box", "<init>", "(DDDD)V"⟩ : MethodName)) rfl hown (mvT hZ (hw _ (List.mem_of_getElem? (i := 4) rfl))) (mvT hZ (hw _ (List.mem_of_getElem? (i := 5) rfl))) (mvT hZ (hw _ (List.mem_of_getElem? (i := 6) rfl))) (by decide) (backOf (W := 1) (rm4 l Z a0 hw [] b1 d76 d79 d82 d85 h1 n0 Z1 A1 F_x_b1 F_y_b1 F_halfWidth_b1 F_halfHeight_b1 g_b1 ) hZ (hw _ (List.mem_of_getElem? (i := 6) rfl)) (hw _ (List.mem_of_getElem? (i := 3) rfl)) (by decide) (by decide)) (g := (mkF m 86 #[.val (.long p1), .second, .val (.long p2), .second, .val (.long p3), .second, .val (.long p4), .second, .val (.long j5), .second, .val (.long j10), .second, .val (.long j20), .second, .val (.long j27), .second, .val (.long j36), .second, .val (.long j42), .second, .val (.long j56), .second, .val (.long j67), .second, .unset, .unset, .unset, .unset, .unset] [(.double d85), (.double d82), (.double d79), (.double d76), (.ref b1), (.ref b1)])) rfl (by rw [hml]; rfl) (Steps.refl _) (a := b1) (argsL := [(.double d76), (.double d79), (.double d82), (.double d85)]) (rest := [(.ref b1)]) (lenOf pd_2 rfl) rfl (by show 2 * 0 + _ ≤ _; exact Nat.le_of_eq rfl) (hb hby at_86) (fun _ _ => ⟨rfl, e1, (by decide : 1 + 0 ≤ _), (by decide : 4 + 0 ≤ _)⟩)
  dsimp only [Pt.U, Pt.locs, Pt.cells, Pt.slots] at X2 l2 y2 z2 st2 hQ2
  subst l2 y2 z2
  obtain ⟨rfl, N2q, Kc2, Ee2, Ff_x_2, Ff_y_2, Ff_halfWidth_2, Ff_halfHeight_2⟩ := hQ2
  have N2 := Fr.app N0 N2q
  have K2 : Keep h0 T2.heap [] := K1.trans Kc2 (allS (Or.inr sz_b1) all0)
  have Z2 : n0 ≤ T2.heap.size := Nat.le_trans Z1 Kc2.1
  refine Go.tr st2 ?_
  show Go p.tables e below P (T2.setTop (mkF m 89 #[.val (.long p1), .second, .val (.long p2), .second, .val (.long p3), .second, .val (.long p4), .second, .val (.long j5), .second, .val (.long j10), .second, .val (.long j20), .second, .val (.long j27), .second, .val (.long j36), .second, .val (.long j42), .second, .val (.long j56), .second, .val (.long j67), .second, .unset, .unset, .unset, .unset, .unset] [(.ref b1)]))
  refine Go.step (fun t k => XS.astore X2.here hx rfl (hb hby at_89) rfl rfl (l' := #[.val (.long p1), .second, .val (.long p2), .second, .val (.long p3), .second, .val (.long p4), .second, .val (.long j5), .second, .val (.long j10), .second, .val (.long j20), .second, .val (.long j27), .second, .val (.long j36), .second, .val (.long j42), .second, .val (.long j56), .second, .val (.long j67), .second, .val (.ref b1), .unset, .unset, .unset, .unset]) rfl k) ?_
  show Go p.tables e below P (T2.setTop (mkF m 91 #[.val (.long p1), .second, .val (.long p2), .second, .val (.long p3), .second, .val (.long p4), .second, .val (.long j5), .second, .val (.long j10), .second, .val (.long j20), .second, .val (.long j27), .second, .val (.long j36), .second, .val (.long j42), .second, .val (.long j56), .second, .val (.long j67), .second, .val (.ref b1), .unset, .unset, .unset, .unset] []))
  refine Go.step (fun t k => XS.aload X2.here hx rfl (hb hby at_91) rfl rfl k) ?_
  show Go p.tables e below P (T2.setTop (mkF m 93 #[.val (.long p1), .second, .val (.long p2), .second, .val (.long p3), .second, .val (.long p4), .second, .val (.long j5), .second, .val (.long j10), .second, .val (.long j20), .second, .val (.long j27), .second, .val (.long j36), .second, .val (.long j42), .second, .val (.long j56), .second, .val (.long j67), .second, .val (.ref b1), .unset, .unset, .unset, .unset] [(.ref b1)]))
  refine Go.step (fun t k => XS.lload X2.here hx rfl (hb hby at_93) rfl  k) ?_
  show Go p.tables e below P (T2.setTop (mkF m 95 #[.val (.long p1), .second, .val (.long p2), .second, .val (.long p3), .second, .val (.long p4), .second, .val (.long j5), .second, .val (.long j10), .second, .val (.long j20), .second, .val (.long j27), .second, .val (.long j36), .second, .val (.long j42), .second, .val (.long j56), .second, .val (.long j67), .second, .val (.ref b1), .unset, .unset, .unset, .unset] [(.long j36), (.ref b1)]))
  obtain ⟨d95, hd95⟩ : ∃ z : UInt64, FP.l2d j36 = z := ⟨_, rfl⟩
  refine Go.step (fun t k => XS.l2dS X2.here hx rfl (hb hby at_95) rfl hd95 k) ?_
  show Go p.tables e below P (T2.setTop (mkF m 96 #[.val (.long p1), .second, .val (.long p2), .second, .val (.long p3), .second, .val (.long p4), .second, .val (.long j5), .second, .val (.long j10), .second, .val (.long j20), .second, .val (.long j27), .second, .val (.long j36), .second, .val (.long j42), .second, .val (.long j56), .second, .val (.long j67), .second, .val (.ref b1), .unset, .unset, .unset, .unset] [(.double d95), (.ref b1)]))
  have q95 := l2d_e (x := j36) (by omega); rw [hd95] at q95
  refine Go.step (fun t k => XS.lload X2.here hx rfl (hb hby at_96) rfl  k) ?_
  show Go p.tables e below P (T2.setTop (mkF m 98 #[.val (.long p1), .second, .val (.long p2), .second, .val (.long p3), .second, .val (.long p4), .second, .val (.long j5), .second, .val (.long j10), .second, .val (.long j20), .second, .val (.long j27), .second, .val (.long j36), .second, .val (.long j42), .second, .val (.long j56), .second, .val (.long j67), .second, .val (.ref b1), .unset, .unset, .unset, .unset] [(.long j42), (.double d95), (.ref b1)]))
  obtain ⟨d98, hd98⟩ : ∃ z : UInt64, FP.l2d j42 = z := ⟨_, rfl⟩
  refine Go.step (fun t k => XS.l2dS X2.here hx rfl (hb hby at_98) rfl hd98 k) ?_
  show Go p.tables e below P (T2.setTop (mkF m 99 #[.val (.long p1), .second, .val (.long p2), .second, .val (.long p3), .second, .val (.long p4), .second, .val (.long j5), .second, .val (.long j10), .second, .val (.long j20), .second, .val (.long j27), .second, .val (.long j36), .second, .val (.long j42), .second, .val (.long j56), .second, .val (.long j67), .second, .val (.ref b1), .unset, .unset, .unset, .unset] [(.double d98), (.double d95), (.ref b1)]))
  have q98 := l2d_e (x := j42) (by omega); rw [hd98] at q98
  refine Go.step (fun t k => XS.lload X2.here hx rfl (hb hby at_99) rfl  k) ?_
  show Go p.tables e below P (T2.setTop (mkF m 101 #[.val (.long p1), .second, .val (.long p2), .second, .val (.long p3), .second, .val (.long p4), .second, .val (.long j5), .second, .val (.long j10), .second, .val (.long j20), .second, .val (.long j27), .second, .val (.long j36), .second, .val (.long j42), .second, .val (.long j56), .second, .val (.long j67), .second, .val (.ref b1), .unset, .unset, .unset, .unset] [(.long j56), (.double d98), (.double d95), (.ref b1)]))
  obtain ⟨d101, hd101⟩ : ∃ z : UInt64, FP.l2d j56 = z := ⟨_, rfl⟩
  refine Go.step (fun t k => XS.l2dS X2.here hx rfl (hb hby at_101) rfl hd101 k) ?_
  show Go p.tables e below P (T2.setTop (mkF m 102 #[.val (.long p1), .second, .val (.long p2), .second, .val (.long p3), .second, .val (.long p4), .second, .val (.long j5), .second, .val (.long j10), .second, .val (.long j20), .second, .val (.long j27), .second, .val (.long j36), .second, .val (.long j42), .second, .val (.long j56), .second, .val (.long j67), .second, .val (.ref b1), .unset, .unset, .unset, .unset] [(.double d101), (.double d98), (.double d95), (.ref b1)]))
  have q101 := l2d_e (x := j56) (by omega); rw [hd101] at q101
  refine Go.step (fun t k => XS.lload X2.here hx rfl (hb hby at_102) rfl  k) ?_
  show Go p.tables e below P (T2.setTop (mkF m 104 #[.val (.long p1), .second, .val (.long p2), .second, .val (.long p3), .second, .val (.long p4), .second, .val (.long j5), .second, .val (.long j10), .second, .val (.long j20), .second, .val (.long j27), .second, .val (.long j36), .second, .val (.long j42), .second, .val (.long j56), .second, .val (.long j67), .second, .val (.ref b1), .unset, .unset, .unset, .unset] [(.long j67), (.double d101), (.double d98), (.double d95), (.ref b1)]))
  obtain ⟨d104, hd104⟩ : ∃ z : UInt64, FP.l2d j67 = z := ⟨_, rfl⟩
  refine Go.step (fun t k => XS.l2dS X2.here hx rfl (hb hby at_104) rfl hd104 k) ?_
  show Go p.tables e below P (T2.setTop (mkF m 105 #[.val (.long p1), .second, .val (.long p2), .second, .val (.long p3), .second, .val (.long p4), .second, .val (.long j5), .second, .val (.long j10), .second, .val (.long j20), .second, .val (.long j27), .second, .val (.long j36), .second, .val (.long j42), .second, .val (.long j56), .second, .val (.long j67), .second, .val (.ref b1), .unset, .unset, .unset, .unset] [(.double d104), (.double d101), (.double d98), (.double d95), (.ref b1)]))
  have q104 := l2d_e (x := j67) (by omega); rw [hd104] at q104
  obtain ⟨cq3, kq3, q3a, q3b, q3c⟩ := isOf hZ rfl (A1.keep Kc2)
  obtain ⟨_, _, ⟨T3, L3, k3, n3⟩, -, X3, ⟨Lc3, hQ3, l3, y3, z3⟩, st3⟩ := X2.virtualBack hx (y := (⟨"com/example/geofence/geofence/geometry/Box", "misses", "(DDDD)Z"⟩ : MethodName)) (z := (⟨"com/example/geofence/geofence/geometry/Box", "misses", "(DDDD)Z"⟩ : MethodName)) hown (mvT hZ (hw _ (List.mem_of_getElem? (i := 23) rfl))) (mvT hZ (hw _ (List.mem_of_getElem? (i := 24) rfl))) (notFace_of_selects (args := #[]) (mvT hZ (hw _ (List.mem_of_getElem? (i := 26) rfl)))) (mvT hZ (hw _ (List.mem_of_getElem? (i := 26) rfl))) (mvT hZ (hw _ (List.mem_of_getElem? (i := 25) rfl))) (by decide) (backOf (W := 0) (rm5 l Z a0 hw [] b1 d95 d98 d101 d104 d76 d79 d82 d85 j5.toInt j10.toInt j20.toInt j27.toInt j36.toInt j42.toInt j56.toInt j67.toInt T2.heap n0 Z2 Ff_x_2 Ff_y_2 Ff_halfWidth_2 Ff_halfHeight_2 q76 q79 q82 q85 q95 q98 q101 q104 (by omega) (by omega) (by omega) (by omega)) hZ (hw _ (List.mem_of_getElem? (i := 27) rfl)) (hw _ (List.mem_of_getElem? (i := 3) rfl)) (by decide) (by decide)) q3a q3c (g := (mkF m 105 #[.val (.long p1), .second, .val (.long p2), .second, .val (.long p3), .second, .val (.long p4), .second, .val (.long j5), .second, .val (.long j10), .second, .val (.long j20), .second, .val (.long j27), .second, .val (.long j36), .second, .val (.long j42), .second, .val (.long j56), .second, .val (.long j67), .second, .val (.ref b1), .unset, .unset, .unset, .unset] [(.double d104), (.double d101), (.double d98), (.double d95), (.ref b1)])) rfl (by rw [hml]; rfl) (Steps.refl _) (argsL := [(.double d95), (.double d98), (.double d101), (.double d104)]) (rest := []) (lenOf pd_3 rfl) rfl (by show 2 * 0 + _ ≤ _; exact Nat.le_of_eq rfl) (hb hby at_105) (fun _ _ => ⟨rfl, rfl, (by decide : 1 + 0 ≤ _), (by decide : 4 + 0 ≤ _)⟩)
  dsimp only [Pt.U, Pt.locs, Pt.cells, Pt.slots] at X3 l3 y3 z3 st3 hQ3
  subst l3 y3 z3
  obtain ⟨rm, rfl, hrm, N3q, eh3⟩ := hQ3
  have N3 := Fr.app N2 N3q
  refine Go.tr st3 ?_
  show Go p.tables e below P (T3.setTop (mkF m 108 #[.val (.long p1), .second, .val (.long p2), .second, .val (.long p3), .second, .val (.long p4), .second, .val (.long j5), .second, .val (.long j10), .second, .val (.long j20), .second, .val (.long j27), .second, .val (.long j36), .second, .val (.long j42), .second, .val (.long j56), .second, .val (.long j67), .second, .val (.ref b1), .unset, .unset, .unset, .unset] [(.int rm)]))
  refine Go.step (fun t k => XS.istore X3.here hx rfl (hb hby at_108) rfl (l' := #[.val (.long p1), .second, .val (.long p2), .second, .val (.long p3), .second, .val (.long p4), .second, .val (.long j5), .second, .val (.long j10), .second, .val (.long j20), .second, .val (.long j27), .second, .val (.long j36), .second, .val (.long j42), .second, .val (.long j56), .second, .val (.long j67), .second, .val (.ref b1), .val (.int rm), .unset, .unset, .unset]) rfl k) ?_
  show Go p.tables e below P (T3.setTop (mkF m 110 #[.val (.long p1), .second, .val (.long p2), .second, .val (.long p3), .second, .val (.long p4), .second, .val (.long j5), .second, .val (.long j10), .second, .val (.long j20), .second, .val (.long j27), .second, .val (.long j36), .second, .val (.long j42), .second, .val (.long j56), .second, .val (.long j67), .second, .val (.ref b1), .val (.int rm), .unset, .unset, .unset] []))
  refine Go.step (fun t k => XS.lload X3.here hx rfl (hb hby at_110) rfl  k) ?_
  show Go p.tables e below P (T3.setTop (mkF m 112 #[.val (.long p1), .second, .val (.long p2), .second, .val (.long p3), .second, .val (.long p4), .second, .val (.long j5), .second, .val (.long j10), .second, .val (.long j20), .second, .val (.long j27), .second, .val (.long j36), .second, .val (.long j42), .second, .val (.long j56), .second, .val (.long j67), .second, .val (.ref b1), .val (.int rm), .unset, .unset, .unset] [(.long j36)]))
  refine Go.step (fun t k => XS.lload X3.here hx rfl (hb hby at_112) rfl  k) ?_
  show Go p.tables e below P (T3.setTop (mkF m 114 #[.val (.long p1), .second, .val (.long p2), .second, .val (.long p3), .second, .val (.long p4), .second, .val (.long j5), .second, .val (.long j10), .second, .val (.long j20), .second, .val (.long j27), .second, .val (.long j36), .second, .val (.long j42), .second, .val (.long j56), .second, .val (.long j67), .second, .val (.ref b1), .val (.int rm), .unset, .unset, .unset] [(.long j56), (.long j36)]))
  refine Go.step (fun t k => XS.lload X3.here hx rfl (hb hby at_114) rfl  k) ?_
  show Go p.tables e below P (T3.setTop (mkF m 116 #[.val (.long p1), .second, .val (.long p2), .second, .val (.long p3), .second, .val (.long p4), .second, .val (.long j5), .second, .val (.long j10), .second, .val (.long j20), .second, .val (.long j27), .second, .val (.long j36), .second, .val (.long j42), .second, .val (.long j56), .second, .val (.long j67), .second, .val (.ref b1), .val (.int rm), .unset, .unset, .unset] [(.long j5), (.long j56), (.long j36)]))
  refine Go.step (fun t k => XS.lload X3.here hx rfl (hb hby at_116) rfl  k) ?_
  show Go p.tables e below P (T3.setTop (mkF m 118 #[.val (.long p1), .second, .val (.long p2), .second, .val (.long p3), .second, .val (.long p4), .second, .val (.long j5), .second, .val (.long j10), .second, .val (.long j20), .second, .val (.long j27), .second, .val (.long j36), .second, .val (.long j42), .second, .val (.long j56), .second, .val (.long j67), .second, .val (.ref b1), .val (.int rm), .unset, .unset, .unset] [(.long j20), (.long j5), (.long j56), (.long j36)]))
  obtain ⟨j118, hj118⟩ : ∃ z : Int64, j5 - j20 = z := ⟨_, rfl⟩
  refine Go.step (fun t k => lsub_v X3.here hx rfl (hb hby at_118) rfl  hj118 k) ?_
  show Go p.tables e below P (T3.setTop (mkF m 119 #[.val (.long p1), .second, .val (.long p2), .second, .val (.long p3), .second, .val (.long p4), .second, .val (.long j5), .second, .val (.long j10), .second, .val (.long j20), .second, .val (.long j27), .second, .val (.long j36), .second, .val (.long j42), .second, .val (.long j56), .second, .val (.long j67), .second, .val (.ref b1), .val (.int rm), .unset, .unset, .unset] [(.long j118), (.long j56), (.long j36)]))
  refine Go.step (fun t k => XS.lload X3.here hx rfl (hb hby at_119) rfl  k) ?_
  show Go p.tables e below P (T3.setTop (mkF m 121 #[.val (.long p1), .second, .val (.long p2), .second, .val (.long p3), .second, .val (.long p4), .second, .val (.long j5), .second, .val (.long j10), .second, .val (.long j20), .second, .val (.long j27), .second, .val (.long j36), .second, .val (.long j42), .second, .val (.long j56), .second, .val (.long j67), .second, .val (.ref b1), .val (.int rm), .unset, .unset, .unset] [(.long j5), (.long j118), (.long j56), (.long j36)]))
  refine Go.step (fun t k => XS.lload X3.here hx rfl (hb hby at_121) rfl  k) ?_
  show Go p.tables e below P (T3.setTop (mkF m 123 #[.val (.long p1), .second, .val (.long p2), .second, .val (.long p3), .second, .val (.long p4), .second, .val (.long j5), .second, .val (.long j10), .second, .val (.long j20), .second, .val (.long j27), .second, .val (.long j36), .second, .val (.long j42), .second, .val (.long j56), .second, .val (.long j67), .second, .val (.ref b1), .val (.int rm), .unset, .unset, .unset] [(.long j20), (.long j5), (.long j118), (.long j56), (.long j36)]))
  obtain ⟨j123, hj123⟩ : ∃ z : Int64, j5 + j20 = z := ⟨_, rfl⟩
  refine Go.step (fun t k => ladd_v X3.here hx rfl (hb hby at_123) rfl  hj123 k) ?_
  show Go p.tables e below P (T3.setTop (mkF m 124 #[.val (.long p1), .second, .val (.long p2), .second, .val (.long p3), .second, .val (.long p4), .second, .val (.long j5), .second, .val (.long j10), .second, .val (.long j20), .second, .val (.long j27), .second, .val (.long j36), .second, .val (.long j42), .second, .val (.long j56), .second, .val (.long j67), .second, .val (.ref b1), .val (.int rm), .unset, .unset, .unset] [(.long j123), (.long j118), (.long j56), (.long j36)]))
  have f118 := c_lsub j5 j20; rw [hj118] at f118
  have g118 := rng64 j118
  have v118 : j118.toInt = j5.toInt - j20.toInt := by omega
  have f123 := c_ladd j5 j20; rw [hj123] at f123
  have g123 := rng64 j123
  have v123 : j123.toInt = j5.toInt + j20.toInt := by omega
  clear f118 f123
  obtain ⟨_, _, ⟨T4, L4, k4, n4⟩, -, X4, ⟨Lc4, hQ4, l4, y4, z4⟩, st4⟩ := Jvm.LawKit.callS X3 hx (y := (⟨"com/example/geofence/geofence/geometry/BoxMissesPinLaw", "overlaps", "(JJJJ)Z"⟩ : MethodName)) hown (mvT hZ (hw _ (List.mem_of_getElem? (i := 28) rfl))) (mvT hZ (hw _ (List.mem_of_getElem? (i := 29) rfl))) (mvT hZ (hw _ (List.mem_of_getElem? (i := 30) rfl))) (mvT hZ (hw _ (List.mem_of_getElem? (i := 31) rfl))) (by decide) (backOf (W := 0) (rm6 l Z a0 hw [] j36 j56 j118 j123 T2.heap n0 Z2 ) hZ (hw _ (List.mem_of_getElem? (i := 31) rfl)) (hw _ (List.mem_of_getElem? (i := 30) rfl)) (by decide) (by decide)) (g := (mkF m 124 #[.val (.long p1), .second, .val (.long p2), .second, .val (.long p3), .second, .val (.long p4), .second, .val (.long j5), .second, .val (.long j10), .second, .val (.long j20), .second, .val (.long j27), .second, .val (.long j36), .second, .val (.long j42), .second, .val (.long j56), .second, .val (.long j67), .second, .val (.ref b1), .val (.int rm), .unset, .unset, .unset] [(.long j123), (.long j118), (.long j56), (.long j36)])) rfl (by rw [hml]; rfl) (argsL := [(.long j36), (.long j56), (.long j118), (.long j123)]) (rest := []) (lenOf pd_4 rfl) rfl (by show 2 * 0 + _ ≤ _; exact Nat.le_of_eq rfl) (hb hby at_124) (fun _ _ => ⟨rfl, eh3, (by decide : 1 + 0 ≤ _), (by decide : 4 + 0 ≤ _)⟩)
  dsimp only [Pt.U, Pt.locs, Pt.cells, Pt.slots] at X4 l4 y4 z4 st4 hQ4
  subst l4 y4 z4
  obtain ⟨ox, rfl, hox, N4q, eh4⟩ := hQ4
  have N4 := Fr.app N3 N4q
  refine Go.step (fun t k => st4 t k) ?_
  show Go p.tables e below P (T4.setTop (mkF m 127 #[.val (.long p1), .second, .val (.long p2), .second, .val (.long p3), .second, .val (.long p4), .second, .val (.long j5), .second, .val (.long j10), .second, .val (.long j20), .second, .val (.long j27), .second, .val (.long j36), .second, .val (.long j42), .second, .val (.long j56), .second, .val (.long j67), .second, .val (.ref b1), .val (.int rm), .unset, .unset, .unset] [(.int ox)]))
  refine Go.step (fun t k => XS.istore X4.here hx rfl (hb hby at_127) rfl (l' := #[.val (.long p1), .second, .val (.long p2), .second, .val (.long p3), .second, .val (.long p4), .second, .val (.long j5), .second, .val (.long j10), .second, .val (.long j20), .second, .val (.long j27), .second, .val (.long j36), .second, .val (.long j42), .second, .val (.long j56), .second, .val (.long j67), .second, .val (.ref b1), .val (.int rm), .val (.int ox), .unset, .unset]) rfl k) ?_
  show Go p.tables e below P (T4.setTop (mkF m 129 #[.val (.long p1), .second, .val (.long p2), .second, .val (.long p3), .second, .val (.long p4), .second, .val (.long j5), .second, .val (.long j10), .second, .val (.long j20), .second, .val (.long j27), .second, .val (.long j36), .second, .val (.long j42), .second, .val (.long j56), .second, .val (.long j67), .second, .val (.ref b1), .val (.int rm), .val (.int ox), .unset, .unset] []))
  refine Go.step (fun t k => XS.lload X4.here hx rfl (hb hby at_129) rfl  k) ?_
  show Go p.tables e below P (T4.setTop (mkF m 131 #[.val (.long p1), .second, .val (.long p2), .second, .val (.long p3), .second, .val (.long p4), .second, .val (.long j5), .second, .val (.long j10), .second, .val (.long j20), .second, .val (.long j27), .second, .val (.long j36), .second, .val (.long j42), .second, .val (.long j56), .second, .val (.long j67), .second, .val (.ref b1), .val (.int rm), .val (.int ox), .unset, .unset] [(.long j42)]))
  refine Go.step (fun t k => XS.lload X4.here hx rfl (hb hby at_131) rfl  k) ?_
  show Go p.tables e below P (T4.setTop (mkF m 133 #[.val (.long p1), .second, .val (.long p2), .second, .val (.long p3), .second, .val (.long p4), .second, .val (.long j5), .second, .val (.long j10), .second, .val (.long j20), .second, .val (.long j27), .second, .val (.long j36), .second, .val (.long j42), .second, .val (.long j56), .second, .val (.long j67), .second, .val (.ref b1), .val (.int rm), .val (.int ox), .unset, .unset] [(.long j67), (.long j42)]))
  refine Go.step (fun t k => XS.lload X4.here hx rfl (hb hby at_133) rfl  k) ?_
  show Go p.tables e below P (T4.setTop (mkF m 135 #[.val (.long p1), .second, .val (.long p2), .second, .val (.long p3), .second, .val (.long p4), .second, .val (.long j5), .second, .val (.long j10), .second, .val (.long j20), .second, .val (.long j27), .second, .val (.long j36), .second, .val (.long j42), .second, .val (.long j56), .second, .val (.long j67), .second, .val (.ref b1), .val (.int rm), .val (.int ox), .unset, .unset] [(.long j10), (.long j67), (.long j42)]))
  refine Go.step (fun t k => XS.lload X4.here hx rfl (hb hby at_135) rfl  k) ?_
  show Go p.tables e below P (T4.setTop (mkF m 137 #[.val (.long p1), .second, .val (.long p2), .second, .val (.long p3), .second, .val (.long p4), .second, .val (.long j5), .second, .val (.long j10), .second, .val (.long j20), .second, .val (.long j27), .second, .val (.long j36), .second, .val (.long j42), .second, .val (.long j56), .second, .val (.long j67), .second, .val (.ref b1), .val (.int rm), .val (.int ox), .unset, .unset] [(.long j27), (.long j10), (.long j67), (.long j42)]))
  obtain ⟨j137, hj137⟩ : ∃ z : Int64, j10 - j27 = z := ⟨_, rfl⟩
  refine Go.step (fun t k => lsub_v X4.here hx rfl (hb hby at_137) rfl  hj137 k) ?_
  show Go p.tables e below P (T4.setTop (mkF m 138 #[.val (.long p1), .second, .val (.long p2), .second, .val (.long p3), .second, .val (.long p4), .second, .val (.long j5), .second, .val (.long j10), .second, .val (.long j20), .second, .val (.long j27), .second, .val (.long j36), .second, .val (.long j42), .second, .val (.long j56), .second, .val (.long j67), .second, .val (.ref b1), .val (.int rm), .val (.int ox), .unset, .unset] [(.long j137), (.long j67), (.long j42)]))
  refine Go.step (fun t k => XS.lload X4.here hx rfl (hb hby at_138) rfl  k) ?_
  show Go p.tables e below P (T4.setTop (mkF m 140 #[.val (.long p1), .second, .val (.long p2), .second, .val (.long p3), .second, .val (.long p4), .second, .val (.long j5), .second, .val (.long j10), .second, .val (.long j20), .second, .val (.long j27), .second, .val (.long j36), .second, .val (.long j42), .second, .val (.long j56), .second, .val (.long j67), .second, .val (.ref b1), .val (.int rm), .val (.int ox), .unset, .unset] [(.long j10), (.long j137), (.long j67), (.long j42)]))
  refine Go.step (fun t k => XS.lload X4.here hx rfl (hb hby at_140) rfl  k) ?_
  show Go p.tables e below P (T4.setTop (mkF m 142 #[.val (.long p1), .second, .val (.long p2), .second, .val (.long p3), .second, .val (.long p4), .second, .val (.long j5), .second, .val (.long j10), .second, .val (.long j20), .second, .val (.long j27), .second, .val (.long j36), .second, .val (.long j42), .second, .val (.long j56), .second, .val (.long j67), .second, .val (.ref b1), .val (.int rm), .val (.int ox), .unset, .unset] [(.long j27), (.long j10), (.long j137), (.long j67), (.long j42)]))
  obtain ⟨j142, hj142⟩ : ∃ z : Int64, j10 + j27 = z := ⟨_, rfl⟩
  refine Go.step (fun t k => ladd_v X4.here hx rfl (hb hby at_142) rfl  hj142 k) ?_
  show Go p.tables e below P (T4.setTop (mkF m 143 #[.val (.long p1), .second, .val (.long p2), .second, .val (.long p3), .second, .val (.long p4), .second, .val (.long j5), .second, .val (.long j10), .second, .val (.long j20), .second, .val (.long j27), .second, .val (.long j36), .second, .val (.long j42), .second, .val (.long j56), .second, .val (.long j67), .second, .val (.ref b1), .val (.int rm), .val (.int ox), .unset, .unset] [(.long j142), (.long j137), (.long j67), (.long j42)]))
  have f137 := c_lsub j10 j27; rw [hj137] at f137
  have g137 := rng64 j137
  have v137 : j137.toInt = j10.toInt - j27.toInt := by omega
  have f142 := c_ladd j10 j27; rw [hj142] at f142
  have g142 := rng64 j142
  have v142 : j142.toInt = j10.toInt + j27.toInt := by omega
  clear f137 f142
  obtain ⟨_, _, ⟨T5, L5, k5, n5⟩, -, X5, ⟨Lc5, hQ5, l5, y5, z5⟩, st5⟩ := Jvm.LawKit.callS X4 hx (y := (⟨"com/example/geofence/geofence/geometry/BoxMissesPinLaw", "overlaps", "(JJJJ)Z"⟩ : MethodName)) hown (mvT hZ (hw _ (List.mem_of_getElem? (i := 28) rfl))) (mvT hZ (hw _ (List.mem_of_getElem? (i := 29) rfl))) (mvT hZ (hw _ (List.mem_of_getElem? (i := 30) rfl))) (mvT hZ (hw _ (List.mem_of_getElem? (i := 31) rfl))) (by decide) (backOf (W := 0) (rm6 l Z a0 hw [] j42 j67 j137 j142 T2.heap n0 Z2 ) hZ (hw _ (List.mem_of_getElem? (i := 31) rfl)) (hw _ (List.mem_of_getElem? (i := 30) rfl)) (by decide) (by decide)) (g := (mkF m 143 #[.val (.long p1), .second, .val (.long p2), .second, .val (.long p3), .second, .val (.long p4), .second, .val (.long j5), .second, .val (.long j10), .second, .val (.long j20), .second, .val (.long j27), .second, .val (.long j36), .second, .val (.long j42), .second, .val (.long j56), .second, .val (.long j67), .second, .val (.ref b1), .val (.int rm), .val (.int ox), .unset, .unset] [(.long j142), (.long j137), (.long j67), (.long j42)])) rfl (by rw [hml]; rfl) (argsL := [(.long j42), (.long j67), (.long j137), (.long j142)]) (rest := []) (lenOf pd_4 rfl) rfl (by show 2 * 0 + _ ≤ _; exact Nat.le_of_eq rfl) (hb hby at_143) (fun _ _ => ⟨rfl, eh4, (by decide : 1 + 0 ≤ _), (by decide : 4 + 0 ≤ _)⟩)
  dsimp only [Pt.U, Pt.locs, Pt.cells, Pt.slots] at X5 l5 y5 z5 st5 hQ5
  subst l5 y5 z5
  obtain ⟨oy, rfl, hoy, N5q, eh5⟩ := hQ5
  have N5 := Fr.app N4 N5q
  refine Go.step (fun t k => st5 t k) ?_
  show Go p.tables e below P (T5.setTop (mkF m 146 #[.val (.long p1), .second, .val (.long p2), .second, .val (.long p3), .second, .val (.long p4), .second, .val (.long j5), .second, .val (.long j10), .second, .val (.long j20), .second, .val (.long j27), .second, .val (.long j36), .second, .val (.long j42), .second, .val (.long j56), .second, .val (.long j67), .second, .val (.ref b1), .val (.int rm), .val (.int ox), .unset, .unset] [(.int oy)]))
  refine Go.step (fun t k => XS.istore X5.here hx rfl (hb hby at_146) rfl (l' := #[.val (.long p1), .second, .val (.long p2), .second, .val (.long p3), .second, .val (.long p4), .second, .val (.long j5), .second, .val (.long j10), .second, .val (.long j20), .second, .val (.long j27), .second, .val (.long j36), .second, .val (.long j42), .second, .val (.long j56), .second, .val (.long j67), .second, .val (.ref b1), .val (.int rm), .val (.int ox), .val (.int oy), .unset]) rfl k) ?_
  show Go p.tables e below P (T5.setTop (mkF m 148 #[.val (.long p1), .second, .val (.long p2), .second, .val (.long p3), .second, .val (.long p4), .second, .val (.long j5), .second, .val (.long j10), .second, .val (.long j20), .second, .val (.long j27), .second, .val (.long j36), .second, .val (.long j42), .second, .val (.long j56), .second, .val (.long j67), .second, .val (.ref b1), .val (.int rm), .val (.int ox), .val (.int oy), .unset] []))
  refine Go.step (fun t k => XS.iload X5.here hx rfl (hb hby at_148) rfl  k) ?_
  show Go p.tables e below P (T5.setTop (mkF m 150 #[.val (.long p1), .second, .val (.long p2), .second, .val (.long p3), .second, .val (.long p4), .second, .val (.long j5), .second, .val (.long j10), .second, .val (.long j20), .second, .val (.long j27), .second, .val (.long j36), .second, .val (.long j42), .second, .val (.long j56), .second, .val (.long j67), .second, .val (.ref b1), .val (.int rm), .val (.int ox), .val (.int oy), .unset] [(.int ox)]))
  by_cases hc150 : ox.toInt = 0
  · refine Go.step (fun t k => XS.ifYes X5.here hx rfl (pc0 := 150) (pc' := 158) rfl (hb hby at_150) rfl (ifY (cd := .eq) hc150) (by decide) (by decide) k) ?_
    show Go p.tables e below P (T5.setTop (mkF m 158 #[.val (.long p1), .second, .val (.long p2), .second, .val (.long p3), .second, .val (.long p4), .second, .val (.long j5), .second, .val (.long j10), .second, .val (.long j20), .second, .val (.long j27), .second, .val (.long j36), .second, .val (.long j42), .second, .val (.long j56), .second, .val (.long j67), .second, .val (.ref b1), .val (.int rm), .val (.int ox), .val (.int oy), .unset] []))
    refine Go.step (fun t k => XS.iconst X5.here hx rfl (hb hby at_158) k) ?_
    show Go p.tables e below P (T5.setTop (mkF m 159 #[.val (.long p1), .second, .val (.long p2), .second, .val (.long p3), .second, .val (.long p4), .second, .val (.long j5), .second, .val (.long j10), .second, .val (.long j20), .second, .val (.long j27), .second, .val (.long j36), .second, .val (.long j42), .second, .val (.long j56), .second, .val (.long j67), .second, .val (.ref b1), .val (.int rm), .val (.int ox), .val (.int oy), .unset] [(.int (1 : Int32))]))
    refine Go.step (fun t k => XS.goto X5.here hx rfl (pc0 := 159) (pc' := 163) rfl (hb hby at_159) (by decide) (by decide) k) ?_
    show Go p.tables e below P (T5.setTop (mkF m 163 #[.val (.long p1), .second, .val (.long p2), .second, .val (.long p3), .second, .val (.long p4), .second, .val (.long j5), .second, .val (.long j10), .second, .val (.long j20), .second, .val (.long j27), .second, .val (.long j36), .second, .val (.long j42), .second, .val (.long j56), .second, .val (.long j67), .second, .val (.ref b1), .val (.int rm), .val (.int ox), .val (.int oy), .unset] [(.int (1 : Int32))]))
    refine Go.step (fun t k => XS.istore X5.here hx rfl (hb hby at_163) rfl (l' := #[.val (.long p1), .second, .val (.long p2), .second, .val (.long p3), .second, .val (.long p4), .second, .val (.long j5), .second, .val (.long j10), .second, .val (.long j20), .second, .val (.long j27), .second, .val (.long j36), .second, .val (.long j42), .second, .val (.long j56), .second, .val (.long j67), .second, .val (.ref b1), .val (.int rm), .val (.int ox), .val (.int oy), .val (.int (1 : Int32))]) rfl k) ?_
    show Go p.tables e below P (T5.setTop (mkF m 165 #[.val (.long p1), .second, .val (.long p2), .second, .val (.long p3), .second, .val (.long p4), .second, .val (.long j5), .second, .val (.long j10), .second, .val (.long j20), .second, .val (.long j27), .second, .val (.long j36), .second, .val (.long j42), .second, .val (.long j56), .second, .val (.long j67), .second, .val (.ref b1), .val (.int rm), .val (.int ox), .val (.int oy), .val (.int (1 : Int32))] []))
    refine Go.step (fun t k => XS.iload X5.here hx rfl (hb hby at_165) rfl  k) ?_
    show Go p.tables e below P (T5.setTop (mkF m 167 #[.val (.long p1), .second, .val (.long p2), .second, .val (.long p3), .second, .val (.long p4), .second, .val (.long j5), .second, .val (.long j10), .second, .val (.long j20), .second, .val (.long j27), .second, .val (.long j36), .second, .val (.long j42), .second, .val (.long j56), .second, .val (.long j67), .second, .val (.ref b1), .val (.int rm), .val (.int ox), .val (.int oy), .val (.int (1 : Int32))] [(.int rm)]))
    refine Go.step (fun t k => XS.iload X5.here hx rfl (hb hby at_167) rfl  k) ?_
    show Go p.tables e below P (T5.setTop (mkF m 169 #[.val (.long p1), .second, .val (.long p2), .second, .val (.long p3), .second, .val (.long p4), .second, .val (.long j5), .second, .val (.long j10), .second, .val (.long j20), .second, .val (.long j27), .second, .val (.long j36), .second, .val (.long j42), .second, .val (.long j56), .second, .val (.long j67), .second, .val (.ref b1), .val (.int rm), .val (.int ox), .val (.int oy), .val (.int (1 : Int32))] [(.int (1 : Int32)), (.int rm)]))
    refine Go.step (fun t k => XS.icmpNo X5.here hx rfl (hb hby at_169) rfl (icN (cd := .ne) (by omega : ¬ (¬ rm.toInt = (1 : Int)))) k) ?_
    show Go p.tables e below P (T5.setTop (mkF m 172 #[.val (.long p1), .second, .val (.long p2), .second, .val (.long p3), .second, .val (.long p4), .second, .val (.long j5), .second, .val (.long j10), .second, .val (.long j20), .second, .val (.long j27), .second, .val (.long j36), .second, .val (.long j42), .second, .val (.long j56), .second, .val (.long j67), .second, .val (.ref b1), .val (.int rm), .val (.int ox), .val (.int oy), .val (.int (1 : Int32))] []))
    refine Go.step (fun t k => XS.iconst X5.here hx rfl (hb hby at_172) k) ?_
    show Go p.tables e below P (T5.setTop (mkF m 173 #[.val (.long p1), .second, .val (.long p2), .second, .val (.long p3), .second, .val (.long p4), .second, .val (.long j5), .second, .val (.long j10), .second, .val (.long j20), .second, .val (.long j27), .second, .val (.long j36), .second, .val (.long j42), .second, .val (.long j56), .second, .val (.long j67), .second, .val (.ref b1), .val (.int rm), .val (.int ox), .val (.int oy), .val (.int (1 : Int32))] [(.int (1 : Int32))]))
    refine Go.step (fun t k => XS.goto X5.here hx rfl (pc0 := 173) (pc' := 177) rfl (hb hby at_173) (by decide) (by decide) k) ?_
    show Go p.tables e below P (T5.setTop (mkF m 177 #[.val (.long p1), .second, .val (.long p2), .second, .val (.long p3), .second, .val (.long p4), .second, .val (.long j5), .second, .val (.long j10), .second, .val (.long j20), .second, .val (.long j27), .second, .val (.long j36), .second, .val (.long j42), .second, .val (.long j56), .second, .val (.long j67), .second, .val (.ref b1), .val (.int rm), .val (.int ox), .val (.int oy), .val (.int (1 : Int32))] [(.int (1 : Int32))]))
    exact retGo X5 hx hP Bd.returns hlk rfl (Or.inl ⟨rfl, Or.inr (Or.inl rfl), _, rfl⟩) (hb hby at_177) (by decide) (by decide) (by rw [eh5]; exact ⟨rfl, N5⟩)
  · refine Go.step (fun t k => XS.ifNo X5.here hx rfl (hb hby at_150) rfl (ifN (cd := .eq) hc150) k) ?_
    show Go p.tables e below P (T5.setTop (mkF m 153 #[.val (.long p1), .second, .val (.long p2), .second, .val (.long p3), .second, .val (.long p4), .second, .val (.long j5), .second, .val (.long j10), .second, .val (.long j20), .second, .val (.long j27), .second, .val (.long j36), .second, .val (.long j42), .second, .val (.long j56), .second, .val (.long j67), .second, .val (.ref b1), .val (.int rm), .val (.int ox), .val (.int oy), .unset] []))
    refine Go.step (fun t k => XS.iload X5.here hx rfl (hb hby at_153) rfl  k) ?_
    show Go p.tables e below P (T5.setTop (mkF m 155 #[.val (.long p1), .second, .val (.long p2), .second, .val (.long p3), .second, .val (.long p4), .second, .val (.long j5), .second, .val (.long j10), .second, .val (.long j20), .second, .val (.long j27), .second, .val (.long j36), .second, .val (.long j42), .second, .val (.long j56), .second, .val (.long j67), .second, .val (.ref b1), .val (.int rm), .val (.int ox), .val (.int oy), .unset] [(.int oy)]))
    by_cases hc155 : ¬ oy.toInt = 0
    · refine Go.step (fun t k => XS.ifYes X5.here hx rfl (pc0 := 155) (pc' := 162) rfl (hb hby at_155) rfl (ifY (cd := .ne) hc155) (by decide) (by decide) k) ?_
      show Go p.tables e below P (T5.setTop (mkF m 162 #[.val (.long p1), .second, .val (.long p2), .second, .val (.long p3), .second, .val (.long p4), .second, .val (.long j5), .second, .val (.long j10), .second, .val (.long j20), .second, .val (.long j27), .second, .val (.long j36), .second, .val (.long j42), .second, .val (.long j56), .second, .val (.long j67), .second, .val (.ref b1), .val (.int rm), .val (.int ox), .val (.int oy), .unset] []))
      refine Go.step (fun t k => XS.iconst X5.here hx rfl (hb hby at_162) k) ?_
      show Go p.tables e below P (T5.setTop (mkF m 163 #[.val (.long p1), .second, .val (.long p2), .second, .val (.long p3), .second, .val (.long p4), .second, .val (.long j5), .second, .val (.long j10), .second, .val (.long j20), .second, .val (.long j27), .second, .val (.long j36), .second, .val (.long j42), .second, .val (.long j56), .second, .val (.long j67), .second, .val (.ref b1), .val (.int rm), .val (.int ox), .val (.int oy), .unset] [(.int (0 : Int32))]))
      refine Go.step (fun t k => XS.istore X5.here hx rfl (hb hby at_163) rfl (l' := #[.val (.long p1), .second, .val (.long p2), .second, .val (.long p3), .second, .val (.long p4), .second, .val (.long j5), .second, .val (.long j10), .second, .val (.long j20), .second, .val (.long j27), .second, .val (.long j36), .second, .val (.long j42), .second, .val (.long j56), .second, .val (.long j67), .second, .val (.ref b1), .val (.int rm), .val (.int ox), .val (.int oy), .val (.int (0 : Int32))]) rfl k) ?_
      show Go p.tables e below P (T5.setTop (mkF m 165 #[.val (.long p1), .second, .val (.long p2), .second, .val (.long p3), .second, .val (.long p4), .second, .val (.long j5), .second, .val (.long j10), .second, .val (.long j20), .second, .val (.long j27), .second, .val (.long j36), .second, .val (.long j42), .second, .val (.long j56), .second, .val (.long j67), .second, .val (.ref b1), .val (.int rm), .val (.int ox), .val (.int oy), .val (.int (0 : Int32))] []))
      refine Go.step (fun t k => XS.iload X5.here hx rfl (hb hby at_165) rfl  k) ?_
      show Go p.tables e below P (T5.setTop (mkF m 167 #[.val (.long p1), .second, .val (.long p2), .second, .val (.long p3), .second, .val (.long p4), .second, .val (.long j5), .second, .val (.long j10), .second, .val (.long j20), .second, .val (.long j27), .second, .val (.long j36), .second, .val (.long j42), .second, .val (.long j56), .second, .val (.long j67), .second, .val (.ref b1), .val (.int rm), .val (.int ox), .val (.int oy), .val (.int (0 : Int32))] [(.int rm)]))
      refine Go.step (fun t k => XS.iload X5.here hx rfl (hb hby at_167) rfl  k) ?_
      show Go p.tables e below P (T5.setTop (mkF m 169 #[.val (.long p1), .second, .val (.long p2), .second, .val (.long p3), .second, .val (.long p4), .second, .val (.long j5), .second, .val (.long j10), .second, .val (.long j20), .second, .val (.long j27), .second, .val (.long j36), .second, .val (.long j42), .second, .val (.long j56), .second, .val (.long j67), .second, .val (.ref b1), .val (.int rm), .val (.int ox), .val (.int oy), .val (.int (0 : Int32))] [(.int (0 : Int32)), (.int rm)]))
      refine Go.step (fun t k => XS.icmpNo X5.here hx rfl (hb hby at_169) rfl (icN (cd := .ne) (by omega : ¬ (¬ rm.toInt = (0 : Int)))) k) ?_
      show Go p.tables e below P (T5.setTop (mkF m 172 #[.val (.long p1), .second, .val (.long p2), .second, .val (.long p3), .second, .val (.long p4), .second, .val (.long j5), .second, .val (.long j10), .second, .val (.long j20), .second, .val (.long j27), .second, .val (.long j36), .second, .val (.long j42), .second, .val (.long j56), .second, .val (.long j67), .second, .val (.ref b1), .val (.int rm), .val (.int ox), .val (.int oy), .val (.int (0 : Int32))] []))
      refine Go.step (fun t k => XS.iconst X5.here hx rfl (hb hby at_172) k) ?_
      show Go p.tables e below P (T5.setTop (mkF m 173 #[.val (.long p1), .second, .val (.long p2), .second, .val (.long p3), .second, .val (.long p4), .second, .val (.long j5), .second, .val (.long j10), .second, .val (.long j20), .second, .val (.long j27), .second, .val (.long j36), .second, .val (.long j42), .second, .val (.long j56), .second, .val (.long j67), .second, .val (.ref b1), .val (.int rm), .val (.int ox), .val (.int oy), .val (.int (0 : Int32))] [(.int (1 : Int32))]))
      refine Go.step (fun t k => XS.goto X5.here hx rfl (pc0 := 173) (pc' := 177) rfl (hb hby at_173) (by decide) (by decide) k) ?_
      show Go p.tables e below P (T5.setTop (mkF m 177 #[.val (.long p1), .second, .val (.long p2), .second, .val (.long p3), .second, .val (.long p4), .second, .val (.long j5), .second, .val (.long j10), .second, .val (.long j20), .second, .val (.long j27), .second, .val (.long j36), .second, .val (.long j42), .second, .val (.long j56), .second, .val (.long j67), .second, .val (.ref b1), .val (.int rm), .val (.int ox), .val (.int oy), .val (.int (0 : Int32))] [(.int (1 : Int32))]))
      exact retGo X5 hx hP Bd.returns hlk rfl (Or.inl ⟨rfl, Or.inr (Or.inl rfl), _, rfl⟩) (hb hby at_177) (by decide) (by decide) (by rw [eh5]; exact ⟨rfl, N5⟩)
    · refine Go.step (fun t k => XS.ifNo X5.here hx rfl (hb hby at_155) rfl (ifN (cd := .ne) hc155) k) ?_
      show Go p.tables e below P (T5.setTop (mkF m 158 #[.val (.long p1), .second, .val (.long p2), .second, .val (.long p3), .second, .val (.long p4), .second, .val (.long j5), .second, .val (.long j10), .second, .val (.long j20), .second, .val (.long j27), .second, .val (.long j36), .second, .val (.long j42), .second, .val (.long j56), .second, .val (.long j67), .second, .val (.ref b1), .val (.int rm), .val (.int ox), .val (.int oy), .unset] []))
      refine Go.step (fun t k => XS.iconst X5.here hx rfl (hb hby at_158) k) ?_
      show Go p.tables e below P (T5.setTop (mkF m 159 #[.val (.long p1), .second, .val (.long p2), .second, .val (.long p3), .second, .val (.long p4), .second, .val (.long j5), .second, .val (.long j10), .second, .val (.long j20), .second, .val (.long j27), .second, .val (.long j36), .second, .val (.long j42), .second, .val (.long j56), .second, .val (.long j67), .second, .val (.ref b1), .val (.int rm), .val (.int ox), .val (.int oy), .unset] [(.int (1 : Int32))]))
      refine Go.step (fun t k => XS.goto X5.here hx rfl (pc0 := 159) (pc' := 163) rfl (hb hby at_159) (by decide) (by decide) k) ?_
      show Go p.tables e below P (T5.setTop (mkF m 163 #[.val (.long p1), .second, .val (.long p2), .second, .val (.long p3), .second, .val (.long p4), .second, .val (.long j5), .second, .val (.long j10), .second, .val (.long j20), .second, .val (.long j27), .second, .val (.long j36), .second, .val (.long j42), .second, .val (.long j56), .second, .val (.long j67), .second, .val (.ref b1), .val (.int rm), .val (.int ox), .val (.int oy), .unset] [(.int (1 : Int32))]))
      refine Go.step (fun t k => XS.istore X5.here hx rfl (hb hby at_163) rfl (l' := #[.val (.long p1), .second, .val (.long p2), .second, .val (.long p3), .second, .val (.long p4), .second, .val (.long j5), .second, .val (.long j10), .second, .val (.long j20), .second, .val (.long j27), .second, .val (.long j36), .second, .val (.long j42), .second, .val (.long j56), .second, .val (.long j67), .second, .val (.ref b1), .val (.int rm), .val (.int ox), .val (.int oy), .val (.int (1 : Int32))]) rfl k) ?_
      show Go p.tables e below P (T5.setTop (mkF m 165 #[.val (.long p1), .second, .val (.long p2), .second, .val (.long p3), .second, .val (.long p4), .second, .val (.long j5), .second, .val (.long j10), .second, .val (.long j20), .second, .val (.long j27), .second, .val (.long j36), .second, .val (.long j42), .second, .val (.long j56), .second, .val (.long j67), .second, .val (.ref b1), .val (.int rm), .val (.int ox), .val (.int oy), .val (.int (1 : Int32))] []))
      refine Go.step (fun t k => XS.iload X5.here hx rfl (hb hby at_165) rfl  k) ?_
      show Go p.tables e below P (T5.setTop (mkF m 167 #[.val (.long p1), .second, .val (.long p2), .second, .val (.long p3), .second, .val (.long p4), .second, .val (.long j5), .second, .val (.long j10), .second, .val (.long j20), .second, .val (.long j27), .second, .val (.long j36), .second, .val (.long j42), .second, .val (.long j56), .second, .val (.long j67), .second, .val (.ref b1), .val (.int rm), .val (.int ox), .val (.int oy), .val (.int (1 : Int32))] [(.int rm)]))
      refine Go.step (fun t k => XS.iload X5.here hx rfl (hb hby at_167) rfl  k) ?_
      show Go p.tables e below P (T5.setTop (mkF m 169 #[.val (.long p1), .second, .val (.long p2), .second, .val (.long p3), .second, .val (.long p4), .second, .val (.long j5), .second, .val (.long j10), .second, .val (.long j20), .second, .val (.long j27), .second, .val (.long j36), .second, .val (.long j42), .second, .val (.long j56), .second, .val (.long j67), .second, .val (.ref b1), .val (.int rm), .val (.int ox), .val (.int oy), .val (.int (1 : Int32))] [(.int (1 : Int32)), (.int rm)]))
      refine Go.step (fun t k => XS.icmpNo X5.here hx rfl (hb hby at_169) rfl (icN (cd := .ne) (by omega : ¬ (¬ rm.toInt = (1 : Int)))) k) ?_
      show Go p.tables e below P (T5.setTop (mkF m 172 #[.val (.long p1), .second, .val (.long p2), .second, .val (.long p3), .second, .val (.long p4), .second, .val (.long j5), .second, .val (.long j10), .second, .val (.long j20), .second, .val (.long j27), .second, .val (.long j36), .second, .val (.long j42), .second, .val (.long j56), .second, .val (.long j67), .second, .val (.ref b1), .val (.int rm), .val (.int ox), .val (.int oy), .val (.int (1 : Int32))] []))
      refine Go.step (fun t k => XS.iconst X5.here hx rfl (hb hby at_172) k) ?_
      show Go p.tables e below P (T5.setTop (mkF m 173 #[.val (.long p1), .second, .val (.long p2), .second, .val (.long p3), .second, .val (.long p4), .second, .val (.long j5), .second, .val (.long j10), .second, .val (.long j20), .second, .val (.long j27), .second, .val (.long j36), .second, .val (.long j42), .second, .val (.long j56), .second, .val (.long j67), .second, .val (.ref b1), .val (.int rm), .val (.int ox), .val (.int oy), .val (.int (1 : Int32))] [(.int (1 : Int32))]))
      refine Go.step (fun t k => XS.goto X5.here hx rfl (pc0 := 173) (pc' := 177) rfl (hb hby at_173) (by decide) (by decide) k) ?_
      show Go p.tables e below P (T5.setTop (mkF m 177 #[.val (.long p1), .second, .val (.long p2), .second, .val (.long p3), .second, .val (.long p4), .second, .val (.long j5), .second, .val (.long j10), .second, .val (.long j20), .second, .val (.long j27), .second, .val (.long j36), .second, .val (.long j42), .second, .val (.long j56), .second, .val (.long j67), .second, .val (.ref b1), .val (.int rm), .val (.int ox), .val (.int oy), .val (.int (1 : Int32))] [(.int (1 : Int32))]))
      exact retGo X5 hx hP Bd.returns hlk rfl (Or.inl ⟨rfl, Or.inr (Or.inl rfl), _, rfl⟩) (hb hby at_177) (by decide) (by decide) (by rw [eh5]; exact ⟨rfl, N5⟩)
set_option maxRecDepth 65536 in
set_option maxHeartbeats 40000000 in
theorem comes_1 {Post : Tables → Env → Array Value → State → Outcome → State → Prop} (hpost : ∀ tb e args s v u, (limb_1_1.after args s (.returned v) u = true ∧ limb_1_2.after args s (.returned v) u = true ∧ True) → FrameEnd s (.returned v) u (Jvm.fieldLocs frame_1_writes args s ++ Jvm.arrayLocs frame_1_arrays args s ++ Jvm.staticLocs frame_1_statics s) 16 128 → Post tb e args s (.returned v) u) :
    ArmFor flags0 classFile x code maxLocals ret World_1 tables_1 room_1 Calls_1 rest_1 Pre_1 Post := by
  intro l hfl _ _ p e ha hc hk s m args below hf hA hF happ hP
  obtain ⟨hcalls, hrest, hpre⟩ := hP
  obtain ⟨-, -, -, hnamed, -, -, -, hat⟩ := (Spec.applies_iff hf).mp happ
  obtain ⟨hg, hn⟩ := and_e (Cond.before_iff.mp (show (Jvm.Cond.and given_1 narrow_1).before args s = true from hpre))
  obtain ⟨gc, hg0⟩ := and_e hg
  obtain ⟨ga0, hg1⟩ := and_e hg0
  obtain ⟨ga1, hg2⟩ := and_e hg1
  obtain ⟨ga2, hg3⟩ := and_e hg2
  have ga3 := hg3
  obtain ⟨w0, w1, w2, w3, rfl⟩ : ∃ w0 w1 w2 w3 : Value, args = #[w0, w1, w2, w3] := by
    have hs : args.size = 4 := by simpa [Cond.value, given_1] using gc
    obtain ⟨L⟩ := args
    match L, hs with
    | [w0, w1, w2, w3], _ => exact ⟨w0, w1, w2, w3, rfl⟩
  have hw := fun d (hd : d ∈ tables_1) => atoms_spec (ws := Jvm.Cond.code x code maxLocals ret :: tables_1) hat d (List.mem_cons_of_mem _ hd)
  obtain ⟨i0, ei0⟩ := isL_v ga0
  obtain rfl : w0 = (.long i0) := Option.some.inj ei0
  obtain ⟨i1, ei1⟩ := isL_v ga1
  obtain rfl : w1 = (.long i1) := Option.some.inj ei1
  obtain ⟨i2, ei2⟩ := isL_v ga2
  obtain rfl : w2 = (.long i2) := Option.some.inj ei2
  obtain ⟨i3, ei3⟩ := isL_v ga3
  obtain rfl : w3 = (.long i3) := Option.some.inj ei3
  obtain ⟨n, o, h1, h2, h3, _, L, rfl, ⟨rfl, N⟩, hq⟩ := rm0 l s _ hw tables_1 i0 i1 i2 i3 s.heap s.heap.size (Nat.le_refl _) p e ha hc hk s m _ below hf ((Spec.applies_iff_loose hf).mp happ).1 ⟨rfl, State.Warmed39.refl s, rfl⟩ trivial
  refine ⟨n, _, h1, h2, h3, hpost _ _ _ _ _ _ ⟨Cond.after_iff.mpr rfl, Cond.after_iff.mpr (eq_i res_at (Term.int_eval (1)) rfl), trivial⟩ ⟨hq.1, hq.2.1, (hq.2.2.sift fun y hy => Or.inr (N y hy)).mono (by decide) (by decide)⟩⟩
theorem main_1_1 : Claimed_1_1 := comes_1 fun _ _ _ _ _ _ h hF => ⟨h.1, hF⟩
theorem main_1_2 : Claimed_1_2 := comes_1 fun _ _ _ _ _ _ h hF => ⟨h.2.1, hF⟩
end Jvm.Pilot.@@N@@
namespace Jvm.Pilot.@@N@@
open Jvm Jvm.ClassFile Sem Op Lib Jvm.Free Jvm.Stand Jvm.Pilot.@@N@@.Jvm.D
/-! MADE BY PROGRAM (witnessworld.py) out of the Statement's table words and the real class files: 11 classes; the members and pool entries that the words name. The judged class is class 1, her method 2. -/
namespace start1
open Jvm.ClassFile
def u (s : String) : CpInfo := .utf8 (stringToUtf16 s)
/-- a pool by its gaps: so many unusable entries, then the entry; so many at the end -/
def gap : Nat → List CpInfo → List CpInfo
  | 0, r => r
  | n + 1, r => .unusable :: gap n r
def poolList (es : List (Nat × CpInfo)) (last : Nat) : List CpInfo := es.foldr (fun e r => gap e.1 (e.2 :: r)) (gap last [])
def pool (es : List (Nat × CpInfo)) (last : Nat) : Array CpInfo := ⟨poolList es last⟩
def fileOf (pool : Array CpInfo) (this : Nat) (attrs : Array Attribute := #[]) (ms : Array MethodInfo := #[]) (fl : Nat := 33) (sup : Nat := 0) (ifs : Array Nat := #[]) (fds : Array FieldInfo := #[]) : ClassFile where
  minorVersion := 0
  majorVersion := 65
  constantPool := pool
  accessFlags := fl
  thisClass := this
  superClass := sup
  interfaces := ifs
  fields := fds
  methods := ms
  attributes := attrs
def plain (name : String) (sup : Option ClassId) : Class where
  name := name
  kind := .ordinary
  loader := none
  accessFlags := 33
  super := sup
  interfaces := #[]
  cf := none
  fields := #[]
  methods := #[]
  instanceTypes := #[]
  staticTypes := #[]
  resolved := #[]
  callSites := []
  init := .initialized
  statics := none
  mirror := none

def pool0 : Array CpInfo := pool [(5, u "<init>"), (0, u "()V"), (1, .class_ 10), (1, u "java/lang/Object")] 113

def k0c0 : Code := { maxStack := 0, maxLocals := 1, code := object_method_1_code, exceptionTable := #[], attributes := #[] }
def k0m0 : Method := { name := "<init>", desc := "()V", sig := { parameters := [], returnType := none }, accessFlags := 1, code := some k0c0 }
/-- java/lang/Object -/
def k0 : Class := { plain "java/lang/Object" none with
  accessFlags := 33
  interfaces := #[]
  cf := some (fileOf pool0 8 #[] #[{ accessFlags := 1, nameIndex := 5, descriptorIndex := 6, attributes := #[] }] 33 0 #[] #[])
  fields := #[]
  methods := #[k0m0]
  instanceTypes := #[]
  staticTypes := #[]
  resolved := Array.replicate 124 none
  statics := none }

def pool1 : Array CpInfo := pool [(2, .class_ 4), (1, u "java/lang/Object"), (0, u "<init>"), (0, u "()V"), (0, .methodref 8 9), (0, .class_ 10), (0, .nameAndType 11 12), (0, u "java/lang/Math"), (0, u "max"), (0, u "(JJ)J"), (0, .methodref 8 14), (0, .nameAndType 15 12), (0, u "min"), (0, .long 2147483647), (1, .class_ 19), (0, u "com/example/geofence/geofence/geometry/Box"), (0, .methodref 18 21), (0, .nameAndType 5 22), (0, u "(DDDD)V"), (0, .methodref 18 24), (0, .nameAndType 25 26), (0, u "misses"), (0, u "(DDDD)Z"), (0, .methodref 28 29), (0, .class_ 30), (0, .nameAndType 31 32), (0, u "com/example/geofence/geofence/geometry/BoxMissesPinLaw"), (0, u "overlaps"), (0, u "(JJJJ)Z"), (3, u "law")] 2

def k1m0 : Method := { name := "<init>", desc := "()V", sig := { parameters := [], returnType := none }, accessFlags := 1, code := none }
def k1c1 : Code := { maxStack := 6, maxLocals := 8, code := method_2_code, exceptionTable := #[], attributes := #[] }
def k1m1 : Method := { name := "overlaps", desc := "(JJJJ)Z", sig := { parameters := [.long, .long, .long, .long], returnType := some .boolean }, accessFlags := 10, code := some k1c1 }
def k1c2 : Code := { maxStack := 10, maxLocals := 29, code := code, exceptionTable := #[], attributes := #[] }
def k1m2 : Method := { name := "law", desc := "(JJJJ)Z", sig := { parameters := [.long, .long, .long, .long], returnType := some .boolean }, accessFlags := 9, code := some k1c2 }
/-- com/example/geofence/geofence/geometry/BoxMissesPinLaw -/
def k1 : Class := { plain "com/example/geofence/geofence/geometry/BoxMissesPinLaw" (some 0) with
  accessFlags := 49
  interfaces := #[]
  cf := some (fileOf pool1 28 #[] #[{ accessFlags := 1, nameIndex := 5, descriptorIndex := 6, attributes := #[] }, { accessFlags := 10, nameIndex := 31, descriptorIndex := 32, attributes := #[] }, { accessFlags := 9, nameIndex := 36, descriptorIndex := 32, attributes := #[] }] 49 2 #[] #[])
  fields := #[]
  methods := #[k1m0, k1m1, k1m2]
  instanceTypes := #[]
  staticTypes := #[]
  resolved := Array.replicate 39 none
  statics := none }

def pool2 : Array CpInfo := pool [(1, .methodref 2 3), (0, .class_ 4), (0, .nameAndType 5 6), (0, u "java/lang/Object"), (0, u "<init>"), (0, u "()V"), (0, .class_ 8), (0, u "java/lang/Record")] 13

def k2c0 : Code := { maxStack := 1, maxLocals := 1, code := jdk_30_method_1_code, exceptionTable := #[], attributes := #[] }
def k2m0 : Method := { name := "<init>", desc := "()V", sig := { parameters := [], returnType := none }, accessFlags := 4, code := some k2c0 }
/-- java/lang/Record -/
def k2 : Class := { plain "java/lang/Record" (some 0) with
  accessFlags := 1057
  interfaces := #[]
  cf := some (fileOf pool2 7 #[] #[{ accessFlags := 4, nameIndex := 5, descriptorIndex := 6, attributes := #[] }] 1057 2 #[] #[])
  fields := #[]
  methods := #[k2m0]
  instanceTypes := #[]
  staticTypes := #[]
  resolved := Array.replicate 22 none
  statics := none }

def pool3 : Array CpInfo := pool [(1, .methodref 2 3), (0, .class_ 4), (0, .nameAndType 5 6), (0, u "java/lang/Record"), (0, u "<init>"), (0, u "()V"), (0, .fieldref 8 9), (0, .class_ 10), (0, .nameAndType 11 12), (0, u "com/example/geofence/geofence/geometry/Box"), (0, u "x"), (0, u "D"), (0, .fieldref 8 14), (0, .nameAndType 15 12), (0, u "y"), (0, .fieldref 8 17), (0, .nameAndType 18 12), (0, u "halfWidth"), (0, .fieldref 8 20), (0, .nameAndType 21 12), (0, u "halfHeight"), (12, u "(DDDD)V"), (7, u "misses"), (0, u "(DDDD)Z")] 27

def k3c0 : Code := { maxStack := 3, maxLocals := 9, code := prog_9_method_1_code, exceptionTable := #[], attributes := #[] }
def k3m0 : Method := { name := "<init>", desc := "(DDDD)V", sig := { parameters := [.double, .double, .double, .double], returnType := none }, accessFlags := 0, code := some k3c0 }
def k3c1 : Code := { maxStack := 6, maxLocals := 9, code := prog_9_method_4_code, exceptionTable := #[], attributes := #[] }
def k3m1 : Method := { name := "misses", desc := "(DDDD)Z", sig := { parameters := [.double, .double, .double, .double], returnType := some .boolean }, accessFlags := 0, code := some k3c1 }
/-- com/example/geofence/geofence/geometry/Box -/
def k3 : Class := { plain "com/example/geofence/geofence/geometry/Box" (some 2) with
  accessFlags := 48
  interfaces := #[]
  cf := some (fileOf pool3 8 #[] #[{ accessFlags := 0, nameIndex := 5, descriptorIndex := 34, attributes := #[] }, { accessFlags := 0, nameIndex := 42, descriptorIndex := 43, attributes := #[] }] 48 2 #[] #[{ accessFlags := 18, nameIndex := 11, descriptorIndex := 12, attributes := #[] }, { accessFlags := 18, nameIndex := 15, descriptorIndex := 12, attributes := #[] }, { accessFlags := 18, nameIndex := 18, descriptorIndex := 12, attributes := #[] }, { accessFlags := 18, nameIndex := 21, descriptorIndex := 12, attributes := #[] }])
  fields := #[{ name := "x", type := .double, accessFlags := 18, slot := 0, constantValue := 0 }, { name := "y", type := .double, accessFlags := 18, slot := 1, constantValue := 0 }, { name := "halfWidth", type := .double, accessFlags := 18, slot := 2, constantValue := 0 }, { name := "halfHeight", type := .double, accessFlags := 18, slot := 3, constantValue := 0 }]
  methods := #[k3m0, k3m1]
  instanceTypes := #[.double, .double, .double, .double]
  staticTypes := #[]
  resolved := Array.replicate 71 none
  statics := none }

def pool4 : Array CpInfo := pool [(1, .class_ 2), (0, u "java/lang/Math"), (1, .class_ 6), (1, u "java/lang/Object"), (0, u "<init>"), (0, u "()V"), (89, .class_ 100), (1, u "java/lang/Math$RandomNumberGeneratorHolder"), (20, u "(JJ)J"), (50, u "negativeZeroFloatBits"), (0, u "J"), (2, u "negativeZeroDoubleBits"), (21, u "max"), (2, u "min"), (43, u "$assertionsDisabled"), (0, u "Z"), (91, u "twoToTheDoubleScaleDown"), (0, u "D"), (4, u "twoToTheDoubleScaleUp"), (9, u "E"), (3, u "PI"), (2, u "TAU"), (2, u "DEGREES_TO_RADIANS"), (0, u "RADIANS_TO_DEGREES")] 94

def k4m0 : Method := { name := "<init>", desc := "()V", sig := { parameters := [], returnType := none }, accessFlags := 2, code := none }
def k4c1 : Code := { maxStack := 4, maxLocals := 4, code := jdk_29_method_66_code, exceptionTable := #[], attributes := #[] }
def k4m1 : Method := { name := "max", desc := "(JJ)J", sig := { parameters := [.long, .long], returnType := some .long }, accessFlags := 9, code := some k4c1 }
def k4c2 : Code := { maxStack := 4, maxLocals := 4, code := jdk_29_method_70_code, exceptionTable := #[], attributes := #[] }
def k4m2 : Method := { name := "min", desc := "(JJ)J", sig := { parameters := [.long, .long], returnType := some .long }, accessFlags := 9, code := some k4c2 }
/-- java/lang/Math -/
def k4 : Class := { plain "java/lang/Math" (some 0) with
  accessFlags := 49
  interfaces := #[]
  cf := some (fileOf pool4 1 #[.nestMembers #[98]] #[{ accessFlags := 2, nameIndex := 7, descriptorIndex := 8, attributes := #[] }, { accessFlags := 9, nameIndex := 198, descriptorIndex := 121, attributes := #[] }, { accessFlags := 9, nameIndex := 201, descriptorIndex := 121, attributes := #[] }] 49 4 #[] #[{ accessFlags := 25, nameIndex := 354, descriptorIndex := 339, attributes := #[] }, { accessFlags := 25, nameIndex := 358, descriptorIndex := 339, attributes := #[] }, { accessFlags := 25, nameIndex := 361, descriptorIndex := 339, attributes := #[] }, { accessFlags := 26, nameIndex := 364, descriptorIndex := 339, attributes := #[] }, { accessFlags := 26, nameIndex := 365, descriptorIndex := 339, attributes := #[] }, { accessFlags := 26, nameIndex := 172, descriptorIndex := 173, attributes := #[] }, { accessFlags := 26, nameIndex := 176, descriptorIndex := 173, attributes := #[] }, { accessFlags := 8, nameIndex := 344, descriptorIndex := 339, attributes := #[] }, { accessFlags := 8, nameIndex := 338, descriptorIndex := 339, attributes := #[] }, { accessFlags := 4120, nameIndex := 245, descriptorIndex := 246, attributes := #[] }])
  fields := #[{ name := "E", type := .double, accessFlags := 25, slot := 0, constantValue := 0 }, { name := "PI", type := .double, accessFlags := 25, slot := 1, constantValue := 0 }, { name := "TAU", type := .double, accessFlags := 25, slot := 2, constantValue := 0 }, { name := "DEGREES_TO_RADIANS", type := .double, accessFlags := 26, slot := 3, constantValue := 0 }, { name := "RADIANS_TO_DEGREES", type := .double, accessFlags := 26, slot := 4, constantValue := 0 }, { name := "negativeZeroFloatBits", type := .long, accessFlags := 26, slot := 5, constantValue := 0 }, { name := "negativeZeroDoubleBits", type := .long, accessFlags := 26, slot := 6, constantValue := 0 }, { name := "twoToTheDoubleScaleUp", type := .double, accessFlags := 8, slot := 7, constantValue := 0 }, { name := "twoToTheDoubleScaleDown", type := .double, accessFlags := 8, slot := 8, constantValue := 0 }, { name := "$assertionsDisabled", type := .boolean, accessFlags := 4120, slot := 9, constantValue := 0 }]
  methods := #[k4m0, k4m1, k4m2]
  instanceTypes := #[]
  staticTypes := #[.double, .double, .double, .double, .double, .long, .long, .double, .double, .boolean]
  resolved := Array.replicate 460 none
  statics := none }

def pool5 : Array CpInfo := pool [(1, u "java/lang/Cloneable"), (0, .class_ 1), (0, u "java/lang/Object"), (0, .class_ 3)] 3

/-- java/lang/Cloneable -/
def k5 : Class := { plain "java/lang/Cloneable" (some 0) with
  accessFlags := 1537
  interfaces := #[]
  cf := some (fileOf pool5 2 #[] #[] 1537 4 #[] #[])
  fields := #[]
  methods := #[]
  instanceTypes := #[]
  staticTypes := #[]
  resolved := Array.replicate 8 none
  statics := none }

def pool6 : Array CpInfo := pool [(1, u "java/io/Serializable"), (0, .class_ 1), (0, u "java/lang/Object"), (0, .class_ 3)] 3

/-- java/io/Serializable -/
def k6 : Class := { plain "java/io/Serializable" (some 0) with
  accessFlags := 1537
  interfaces := #[]
  cf := some (fileOf pool6 2 #[] #[] 1537 4 #[] #[])
  fields := #[]
  methods := #[]
  instanceTypes := #[]
  staticTypes := #[]
  resolved := Array.replicate 8 none
  statics := none }

/-- the primitive byte -/
def k7 : Class := { plain "byte" none with kind := .primitive 'B', accessFlags := 0x411 }
/-- [B -/
def k8 : Class := { plain "[B" (some 0) with kind := .array 7 .byte, interfaces := #[5, 6], accessFlags := 1041 }

/-- the primitive int -/
def k9 : Class := { plain "int" none with kind := .primitive 'I', accessFlags := 0x411 }
/-- [I -/
def k10 : Class := { plain "[I" (some 0) with kind := .array 9 .int, interfaces := #[5, 6], accessFlags := 1041 }

def heap : Heap := #[]
def classes : Array Class := #[k0, k1, k2, k3, k4, k5, k6, k7, k8, k9, k10]
def interned : List (Array UInt16 × Addr) := []
def slotsUsed : Nat := 0
def theMethod : MethodId := ⟨1, 2⟩
def args0 : Array Value := #[.long 3, .long 8, .long 5, .long 7]
def aboutOver (below : List Frame) : State where
  vm := { classes := classes, interned := interned.toArray }
  heap := heap
  slotsUsed := slotsUsed
  threads := #[{ frames := .invoking theMethod args0 :: below }]
def below0 : List Frame := [.native { method := ⟨0, 0⟩, args := #[] }]
def about1 : State := aboutOver below0
def p0 : Program := .bare "" "" ""
def e0 : Env := launch0.env 0 0 0
theorem w_frames : about1.frames = Frame.invoking theMethod args0 :: below0 := rfl
set_option maxRecDepth 65536 in
theorem w_args : argsFit about1.vm theMethod args0 = true := by decide +kernel
set_option maxRecDepth 65536 in
theorem w_heap : heapFits about1 = true := by decide +kernel
set_option maxRecDepth 65536 in
theorem w_runnable : about1.curStatus? = some .runnable := by decide +kernel
set_option maxRecDepth 65536 in
theorem w_alone : about1.alone = true := by decide +kernel
set_option maxRecDepth 65536 in
theorem w_named : about1.methodNamed? x = some theMethod := by decide +kernel
set_option maxRecDepth 65536 in
theorem w_hears : about1.hears theMethod below0 = true := by decide +kernel
set_option maxRecDepth 65536 in
theorem w_ripe : about1.ripe theMethod args0 below0 = true := by decide +kernel
theorem w_running : about1.status = .running := rfl
set_option maxRecDepth 65536 in
theorem w_room : about1.hasRoom e0.platform room_1 = true :=
  launch0.hasRoom_least _ room_1 (by decide +kernel) (by decide +kernel) (by decide +kernel) (by decide +kernel) (by decide +kernel) (by decide +kernel)
theorem allAtoms_all (ts : List Jvm.Cond) (a : Array Jvm.Value) (st : Jvm.State) : (allAtoms ts).before a st = ts.all (fun c => c.before a st) := by
  induction ts with
  | nil => rfl
  | cons c t ih =>
    show (Jvm.Cond.and c (allAtoms t)).before a st = _
    rw [Jvm.Cond.before_and, ih, List.all_cons]
def words1 : List Jvm.Cond := Jvm.Cond.code x code maxLocals ret :: tables_1
/-- a 'code' word, met by the world's own term for the bytes: nothing is compared byte by byte -/
theorem code_word {y : MethodName} {bytes : ByteArray} {mx : Nat} {rt : Option FieldType} {a : Array Value} {s : State} {m : MethodId} {meth : Method} {c : Code} (h1 : s.methodNamed? y = some m) (h2 : s.vm.method? m = some meth) (h3 : meth.code = some c) (h4 : c.code = bytes)
    (h5 : (c.maxLocals == mx && c.exceptionTable.isEmpty && decide (c.maxStack ≤ mostOperands) && decide (meth.sig.returnType = rt) && !meth.locks && decide (parseMethodDescriptor y.desc = some meth.sig)) = true) : (Jvm.Cond.code y bytes mx rt).before a s = true := by
  simp only [Bool.and_eq_true, beq_iff_eq, Bool.not_eq_true', decide_eq_true_eq] at h5
  obtain ⟨⟨⟨⟨⟨g1, g2⟩, g3⟩, g4⟩, g5⟩, g6⟩ := h5
  simp [Cond.before, Cond.holds, Cond.value, h1, h2, h3, h4, g1, g2, g3, g4, g5, g6]
def isCode : Jvm.Cond → Bool
  | .code _ _ _ _ => true
  | _ => false
theorem all_split {L : List Jvm.Cond} {P : Jvm.Cond → Bool} (h1 : L.all (fun c => isCode c || P c) = true) (h2 : ∀ c ∈ L.filter isCode, P c = true) : L.all P = true := by
  refine List.all_eq_true.mpr fun c hc => ?_
  have h := List.all_eq_true.mp h1 c hc
  rcases Bool.eq_false_or_eq_true (isCode c) with hi | hi
  · exact h2 c (List.mem_filter.mpr ⟨hc, hi⟩)
  · simpa [hi] using h
set_option maxRecDepth 65536 in
theorem w_c0 : (Jvm.Cond.code x code maxLocals ret).before args0 about1 = true := code_word (m := ⟨1, 2⟩) (meth := k1m2) (c := k1c2) (by decide +kernel) rfl rfl rfl (by decide +kernel)
set_option maxRecDepth 65536 in
theorem w_c1 : (Jvm.Cond.code ({ cls := "com/example/geofence/geofence/geometry/Box", name := "<init>", desc := "(DDDD)V" } : Jvm.MethodName) prog_9_method_1_code (9 : Nat) (Option.none : Option Jvm.ClassFile.FieldType)).before args0 about1 = true := code_word (m := ⟨3, 0⟩) (meth := k3m0) (c := k3c0) (by decide +kernel) rfl rfl rfl (by decide +kernel)
set_option maxRecDepth 65536 in
theorem w_c2 : (Jvm.Cond.code ({ cls := "java/lang/Record", name := "<init>", desc := "()V" } : Jvm.MethodName) jdk_30_method_1_code (1 : Nat) (Option.none : Option Jvm.ClassFile.FieldType)).before args0 about1 = true := code_word (m := ⟨2, 0⟩) (meth := k2m0) (c := k2c0) (by decide +kernel) rfl rfl rfl (by decide +kernel)
set_option maxRecDepth 65536 in
theorem w_c3 : (Jvm.Cond.code ({ cls := "java/lang/Object", name := "<init>", desc := "()V" } : Jvm.MethodName) object_method_1_code (1 : Nat) (Option.none : Option Jvm.ClassFile.FieldType)).before args0 about1 = true := code_word (m := ⟨0, 0⟩) (meth := k0m0) (c := k0c0) (by decide +kernel) rfl rfl rfl (by decide +kernel)
set_option maxRecDepth 65536 in
theorem w_c4 : (Jvm.Cond.code ({ cls := "com/example/geofence/geofence/geometry/Box", name := "misses", desc := "(DDDD)Z" } : Jvm.MethodName) prog_9_method_4_code (9 : Nat) (Option.some Jvm.ClassFile.FieldType.boolean)).before args0 about1 = true := code_word (m := ⟨3, 1⟩) (meth := k3m1) (c := k3c1) (by decide +kernel) rfl rfl rfl (by decide +kernel)
set_option maxRecDepth 65536 in
theorem w_c5 : (Jvm.Cond.code ({ cls := "com/example/geofence/geofence/geometry/BoxMissesPinLaw", name := "overlaps", desc := "(JJJJ)Z" } : Jvm.MethodName) method_2_code (8 : Nat) (Option.some Jvm.ClassFile.FieldType.boolean)).before args0 about1 = true := code_word (m := ⟨1, 1⟩) (meth := k1m1) (c := k1c1) (by decide +kernel) rfl rfl rfl (by decide +kernel)
set_option maxRecDepth 65536 in
theorem w_c6 : (Jvm.Cond.code ({ cls := "java/lang/Math", name := "max", desc := "(JJ)J" } : Jvm.MethodName) jdk_29_method_66_code (4 : Nat) (Option.some Jvm.ClassFile.FieldType.long)).before args0 about1 = true := code_word (m := ⟨4, 1⟩) (meth := k4m1) (c := k4c1) (by decide +kernel) rfl rfl rfl (by decide +kernel)
set_option maxRecDepth 65536 in
theorem w_c7 : (Jvm.Cond.code ({ cls := "java/lang/Math", name := "min", desc := "(JJ)J" } : Jvm.MethodName) jdk_29_method_70_code (4 : Nat) (Option.some Jvm.ClassFile.FieldType.long)).before args0 about1 = true := code_word (m := ⟨4, 2⟩) (meth := k4m2) (c := k4c2) (by decide +kernel) rfl rfl rfl (by decide +kernel)
def codes1 : List Jvm.Cond := [Jvm.Cond.code x code maxLocals ret, Jvm.Cond.code ({ cls := "com/example/geofence/geofence/geometry/Box", name := "<init>", desc := "(DDDD)V" } : Jvm.MethodName) prog_9_method_1_code (9 : Nat) (Option.none : Option Jvm.ClassFile.FieldType), Jvm.Cond.code ({ cls := "java/lang/Record", name := "<init>", desc := "()V" } : Jvm.MethodName) jdk_30_method_1_code (1 : Nat) (Option.none : Option Jvm.ClassFile.FieldType), Jvm.Cond.code ({ cls := "java/lang/Object", name := "<init>", desc := "()V" } : Jvm.MethodName) object_method_1_code (1 : Nat) (Option.none : Option Jvm.ClassFile.FieldType), Jvm.Cond.code ({ cls := "com/example/geofence/geofence/geometry/Box", name := "misses", desc := "(DDDD)Z" } : Jvm.MethodName) prog_9_method_4_code (9 : Nat) (Option.some Jvm.ClassFile.FieldType.boolean), Jvm.Cond.code ({ cls := "com/example/geofence/geofence/geometry/BoxMissesPinLaw", name := "overlaps", desc := "(JJJJ)Z" } : Jvm.MethodName) method_2_code (8 : Nat) (Option.some Jvm.ClassFile.FieldType.boolean), Jvm.Cond.code ({ cls := "java/lang/Math", name := "max", desc := "(JJ)J" } : Jvm.MethodName) jdk_29_method_66_code (4 : Nat) (Option.some Jvm.ClassFile.FieldType.long), Jvm.Cond.code ({ cls := "java/lang/Math", name := "min", desc := "(JJ)J" } : Jvm.MethodName) jdk_29_method_70_code (4 : Nat) (Option.some Jvm.ClassFile.FieldType.long)]
set_option maxRecDepth 65536 in
theorem codes_eq : words1.filter isCode = codes1 := rfl
theorem w_codes : ∀ c ∈ words1.filter isCode, c.before args0 about1 = true := by
  rw [codes_eq]
  intro c hc
  simp only [codes1, List.mem_cons, List.not_mem_nil, or_false] at hc
  rcases hc with rfl | rfl | rfl | rfl | rfl | rfl | rfl | rfl
  · exact w_c0
  · exact w_c1
  · exact w_c2
  · exact w_c3
  · exact w_c4
  · exact w_c5
  · exact w_c6
  · exact w_c7
set_option maxRecDepth 65536 in
theorem w_t1 : (words1.take 24).all (fun c => isCode c || c.before args0 about1) = true := by decide +kernel
set_option maxRecDepth 65536 in
theorem w_t2 : (words1.drop 24).all (fun c => isCode c || c.before args0 about1) = true := by decide +kernel
theorem w_tables : (allAtoms (Jvm.Cond.code x code maxLocals ret :: tables_1)).before args0 about1 = true := by
  rw [allAtoms_all]
  show words1.all (fun c => c.before args0 about1) = true
  refine all_split ?_ w_codes
  rw [← List.take_append_drop 24 words1, List.all_append, w_t1, w_t2]
  rfl
set_option maxRecDepth 65536 in
theorem w_case : (Jvm.Cond.and given_1 narrow_1).before args0 about1 = true := by decide +kernel
theorem w_applies : (headSpec (Jvm.Cond.code x code maxLocals ret :: tables_1) room_1).applies x e0.platform about1 = true :=
  (Spec.applies_iff w_frames).mpr ⟨w_running, w_runnable, w_alone, w_named, w_hears, w_ripe, w_room, w_tables⟩
theorem atStart : AtStart classFile x code maxLocals ret World_1 tables_1 room_1 Calls_1 rest_1 Pre_1 launch0 p0 e0 about1 theMethod args0 below0 :=
  ⟨lists_1, trivial, launch0.admits_env _ _ _, launch0.least_env, fairChoices_fair.cas, fairChoices_fair.clock, w_frames, w_args, w_heap, w_applies, trivial, trivial, w_case⟩
end start1
theorem witness_1 : WitnessClaimed_1 := ⟨start1.p0, start1.e0, start1.about1, start1.theMethod, start1.args0, start1.below0, start1.atStart⟩
end Jvm.Pilot.@@N@@
