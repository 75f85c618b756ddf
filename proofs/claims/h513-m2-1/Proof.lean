import JvmDerived
import JvmDerived.Pilot.@@N@@Statement
import JvmDerived.Pilot.@@N@@Code
set_option linter.unusedVariables false
set_option linter.unusedSimpArgs false
namespace Jvm.Pilot.@@N@@.Own
open Jvm Jvm.ClassFile Sem Op Lib Jvm.Free Jvm.Stand Jvm.LawKit Jvm.RoadKit
/-- from S the run comes to an end of which P holds -/
def Go (tb : Tables) (e : Env) (below : List Frame) (P : State → Outcome → Prop) (S : State) : Prop :=
  ∃ s₂ o, Steps tb e below S s₂ ∧ s₂.status = .running ∧ Ended s₂ below o ∧ P s₂ o
theorem Go.step {tb : Tables} {e : Env} {below : List Frame} {P : State → Outcome → Prop} {S S' : State}
    (h : ∀ t, Steps tb e below S' t → Steps tb e below S t) (g : Go tb e below P S') : Go tb e below P S := by
  obtain ⟨t, o, h1, h2⟩ := g; exact ⟨t, o, h t h1, h2⟩
theorem Go.tr {tb : Tables} {e : Env} {below : List Frame} {P : State → Outcome → Prop} {S S' : State}
    (h : Steps tb e below S S') (g : Go tb e below P S') : Go tb e below P S := by
  obtain ⟨t, o, h1, h2⟩ := g; exact ⟨t, o, h.trans h1, h2⟩
theorem Go.start {tb : Tables} {e : Env} {below : List Frame} {P₀ : State → Outcome → Prop} {S S' : State} (q : S = S')
    (h : ∀ P : State → Outcome → Prop, (∀ s₂ o, P₀ s₂ o → P s₂ o) → Go tb e below P S') : Go tb e below P₀ S := by
  subst q; exact h P₀ fun _ _ h => h
/-- a value gets a name -/
theorem nm {α : Type} (F : α → Prop) (x : α) (H : ∀ z, z = x → F z) : F x := H x rfl
section Ends
variable {p : Program} {l : Launch} {e : Env} {R : Room} {s : State} {m : MethodId} {args : Array Value} {below : List Frame} {meth : Method} {c : Code} {T : State} {locs : List Loc} {cells slots : Nat}
theorem retGo (X : Stand p l e R s m args below meth c T locs cells slots) (hx : p.tables.exec = Jvm.exec) {P : State → Outcome → Prop} {Q : Option Value → Heap → List Loc → Prop} {kc ks : Nat}
    (hP : ∀ s₂ o, (∃ v L, o = .returned v ∧ Q v s₂.heap L ∧ FrameEnd s o s₂ L kc ks) → P s₂ o) {pc : Nat} {Ls : Array Slot} {w : Value} {t : FieldType} {i : Instr} {rest : List Value} (hret : meth.sig.returnType = some t) (hlk : meth.locks = false) (hn : narrow t w = w)
    (hi : (i = .ireturn ∧ (t = .int ∨ t = .boolean ∨ t = .byte ∨ t = .char ∨ t = .short) ∧ ∃ z, w = .int z) ∨ (i = .lreturn ∧ t = .long ∧ ∃ z, w = .long z) ∨ (i = .dreturn ∧ t = .double ∧ ∃ z, w = .double z) ∨ (i = .freturn ∧ t = .float ∧ ∃ z, w = .float z) ∨ (i = .areturn ∧ t.isReference = true ∧ w.isRef = true))
    (hd : decode c.code pc = .ok (i, 1)) (hc : cells ≤ kc) (hs : slots ≤ ks) (hQ : Q (some w) T.heap locs) : Go p.tables e below P (T.setTop (mkF m pc Ls (w :: rest))) := by
  obtain ⟨fs, hr, hrun, hended, hW, hsame⟩ := X.leave (v := some w) (fun h => by rw [hret] at h; cases h) hlk
  exact ⟨_, _, retOut X hx hret hn hi hd hr, hrun, hended, hP _ _ ⟨_, _, rfl, hQ, ⟨_, rfl⟩, hW, hsame.mono hc hs⟩⟩
theorem retGoW {vm1 : Vm} (X : Stand p l e R (s.setVm vm1) m args below meth c T locs cells slots) (hx : p.tables.exec = Jvm.exec) {n1 : Nat} (hS : s.Since vm1 n1) (hn1 : n1 ≤ T.heap.size) {P : State → Outcome → Prop} {Q : Option Value → Heap → List Loc → Prop} {kc ks : Nat}
    (hP : ∀ s₂ o, (∃ v L, o = .returned v ∧ Q v s₂.heap L ∧ ReturnedEndW s o s₂ L kc ks) → P s₂ o) {pc : Nat} {Ls : Array Slot} {w : Value} {t : FieldType} {i : Instr} {rest : List Value} (hret : meth.sig.returnType = some t) (hlk : meth.locks = false) (hn : narrow t w = w)
    (hi : (i = .ireturn ∧ (t = .int ∨ t = .boolean ∨ t = .byte ∨ t = .char ∨ t = .short) ∧ ∃ z, w = .int z) ∨ (i = .lreturn ∧ t = .long ∧ ∃ z, w = .long z) ∨ (i = .dreturn ∧ t = .double ∧ ∃ z, w = .double z) ∨ (i = .freturn ∧ t = .float ∧ ∃ z, w = .float z) ∨ (i = .areturn ∧ t.isReference = true ∧ w.isRef = true))
    (hd : decode c.code pc = .ok (i, 1)) (hc : cells ≤ kc) (hs : slots ≤ ks) (hQ : Q (some w) T.heap locs) : Go p.tables e below P (T.setTop (mkF m pc Ls (w :: rest))) := by
  obtain ⟨fs, hr, hrun, hended, _, hW, hI, hsame⟩ := X.leaveW hS hn1 (v := some w) (fun h => by rw [hret] at h; cases h) hlk
  exact ⟨_, _, retOut X hx hret hn hi hd hr, hrun, hended, hP _ _ ⟨_, _, rfl, hQ, ⟨_, rfl⟩, hW, hI, hsame.mono hc hs⟩⟩
theorem voidGo (X : Stand p l e R s m args below meth c T locs cells slots) (hx : p.tables.exec = Jvm.exec) {P : State → Outcome → Prop} {Q : Option Value → Heap → List Loc → Prop} {kc ks : Nat}
    (hP : ∀ s₂ o, (∃ v L, o = .returned v ∧ Q v s₂.heap L ∧ FrameEnd s o s₂ L kc ks) → P s₂ o) {pc : Nat} {Ls : Array Slot} (hret : meth.sig.returnType = none) (hlk : meth.locks = false)
    (hd : decode c.code pc = .ok (.return_, 1)) (hc : cells ≤ kc) (hs : slots ≤ ks) (hQ : Q none T.heap locs) : Go p.tables e below P (T.setTop (mkF m pc Ls [])) := by
  obtain ⟨fs, hr, hrun, hended, hW, hsame⟩ := X.leave (v := none) (fun _ => rfl) hlk
  exact ⟨_, _, X.returnOut hx hret hd hr, hrun, hended, hP _ _ ⟨_, _, rfl, hQ, ⟨_, rfl⟩, hW, hsame.mono hc hs⟩⟩
end Ends
/-! branches: what is compared, as whole numbers -/
def rel : ClassFile.Cond → Int → Int → Prop
  | .eq, a, b => a = b
  | .ne, a, b => ¬ a = b
  | .lt, a, b => a < b
  | .ge, a, b => b ≤ a
  | .gt, a, b => b < a
  | .le, a, b => a ≤ b
theorem icY {cd : ClassFile.Cond} {x y : Int32} (h : rel cd x.toInt y.toInt) : if_icmp.holds cd x y = true := by
  cases cd <;> simp only [rel] at h <;> simp [if_icmp.holds, Int32.lt_iff_toInt_lt, Int32.le_iff_toInt_le, ← Int32.toInt_inj] <;> omega
theorem icN {cd : ClassFile.Cond} {x y : Int32} (h : ¬ rel cd x.toInt y.toInt) : if_icmp.holds cd x y = false := by
  cases cd <;> simp only [rel] at h <;> simp [if_icmp.holds, Int32.lt_iff_toInt_lt, Int32.le_iff_toInt_le, ← Int32.toInt_inj] <;> omega
theorem ifY {cd : ClassFile.Cond} {x : Int32} (h : rel cd x.toInt 0) : ifCond.holds cd x = true := (if0 cd x).trans (icY h)
theorem ifN {cd : ClassFile.Cond} {x : Int32} (h : ¬ rel cd x.toInt 0) : ifCond.holds cd x = false := (if0 cd x).trans (icN h)
theorem lcmp_rel {cd : ClassFile.Cond} {x y : Int64} : rel cd (lcmpW x y).toInt 0 ↔ rel cd x.toInt y.toInt := by
  have h1 : x < y ↔ x.toInt < y.toInt := Int64.lt_iff_toInt_lt
  have h2 : y < x ↔ y.toInt < x.toInt := Int64.lt_iff_toInt_lt
  have h3 : x = y ↔ x.toInt = y.toInt := Int64.toInt_inj.symm
  have e1 : (1 : Int32).toInt = 1 := rfl
  have e2 : (-1 : Int32).toInt = -1 := rfl
  have e3 : (0 : Int32).toInt = 0 := rfl
  unfold lcmpW
  by_cases c1 : x > y
  · rw [if_pos c1, e1]; have := h2.mp c1; cases cd <;> simp only [rel] <;> omega
  · rw [if_neg c1]
    have n1 : ¬ y.toInt < x.toInt := fun q => c1 (h2.mpr q)
    by_cases c2 : x = y
    · rw [if_pos c2, e3]; have q := h3.mp c2; cases cd <;> simp only [rel] <;> first | omega | simp [q]
    · rw [if_neg c2, e2]
      have n2 : ¬ x.toInt = y.toInt := fun q => c2 (h3.mpr q)
      cases cd <;> simp only [rel] <;> omega
theorem lcY {cd : ClassFile.Cond} {x y : Int64} (h : rel cd x.toInt y.toInt) : ifCond.holds cd (lcmpW x y) = true := ifY (lcmp_rel.mpr h)
theorem lcN {cd : ClassFile.Cond} {x y : Int64} (h : ¬ rel cd x.toInt y.toInt) : ifCond.holds cd (lcmpW x y) = false := ifN fun q => h (lcmp_rel.mp q)
theorem cmpV_rel {cd : ClassFile.Cond} {op : CmpOp} {i j : Int} : rel cd (cmpValue (some (compare i j)) op).toInt 0 ↔ rel cd i j := by
  have e1 : (1 : Int32).toInt = 1 := rfl
  have e2 : (-1 : Int32).toInt = -1 := rfl
  have e3 : (0 : Int32).toInt = 0 := rfl
  cases h : compare i j with
  | lt => have := (FP.Core.compare_lt_iff i j).mp h; show rel cd (-1 : Int32).toInt 0 ↔ _; rw [e2]; cases cd <;> simp only [rel] <;> omega
  | eq => have := (FP.Core.compare_eq_iff i j).mp h; show rel cd (0 : Int32).toInt 0 ↔ _; rw [e3]; cases cd <;> simp only [rel] <;> first | omega | simp [this]
  | gt => have := (FP.Core.compare_gt_iff i j).mp h; show rel cd (1 : Int32).toInt 0 ↔ _; rw [e1]; cases cd <;> simp only [rel] <;> omega
theorem dcY {cd : ClassFile.Cond} {op : CmpOp} {r : Option Ordering} {i j : Int} (q : r = some (compare i j)) (h : rel cd i j) : ifCond.holds cd (cmpValue r op) = true := by subst q; exact ifY (cmpV_rel.mpr h)
theorem dcN {cd : ClassFile.Cond} {op : CmpOp} {r : Option Ordering} {i j : Int} (q : r = some (compare i j)) (h : ¬ rel cd i j) : ifCond.holds cd (cmpValue r op) = false := by subst q; exact ifN fun z => h (cmpV_rel.mp z)
end Jvm.Pilot.@@N@@.Own
namespace Jvm.Pilot.@@N@@.Own
open Jvm Jvm.FP Jvm.FP.Core
/-! ## doubles as whole numbers of 2^-1074: what rounding leaves -/
/-- a double's value in units of 2^-1074 -/
def zv (a : UInt64) : Int := zval b64 (val64 a)
/-- a is finite and lies between lo * 2^k and hi * 2^k units -/
def DB (k : Nat) (lo hi : Int) (a : UInt64) : Prop := DFin a ∧ lo * ((2 ^ k : Nat) : Int) ≤ zv a ∧ zv a ≤ hi * ((2 ^ k : Nat) : Int)
/-- a is finite and is i * 2^k units -/
abbrev DE (k : Nat) (i : Int) (a : UInt64) : Prop := DB k i i a
theorem DE.eq {k : Nat} {i : Int} {a : UInt64} (h : DE k i a) : zv a = i * ((2 ^ k : Nat) : Int) := Int.le_antisymm h.2.2 h.2.1
theorem DE.of {k : Nat} {i : Int} {a : UInt64} (hf : DFin a) (h : zv a = i * ((2 ^ k : Nat) : Int)) : DE k i a := ⟨hf, Int.le_of_eq h.symm, Int.le_of_eq h⟩
theorem tn32 {q : Int32} (h0 : 0 ≤ q.toInt) : (q.toBitVec.toNat : Int) = q.toInt := by
  have l := q.toBitVec.isLt
  have e : q.toInt = q.toBitVec.toInt := rfl
  rw [e] at h0 ⊢
  rw [BitVec.toInt_eq_toNat_cond] at h0 ⊢
  split at h0 <;> split <;> omega
theorem nmul {a b : Int} {A B : Nat} (ha : a.natAbs ≤ A) (hb : b.natAbs ≤ B) : (a * b).natAbs ≤ A * B := by rw [Int.natAbs_mul]; exact Nat.mul_le_mul ha hb
theorem nab {a : Int} {A : Nat} (h : -(A : Int) ≤ a ∧ a ≤ A) : a.natAbs ≤ A := by omega
theorem bmul {a b : Int} {A B : Nat} (ha : -(A : Int) ≤ a ∧ a ≤ A) (hb : -(B : Int) ≤ b ∧ b ≤ B) : -((A * B : Nat) : Int) ≤ a * b ∧ a * b ≤ ((A * B : Nat) : Int) := by
  have := nmul (nab ha) (nab hb)
  omega
theorem le_mul1 {a b : Int} (ha : 0 ≤ a) (hb : 1 ≤ b) : a ≤ a * b := by have := Int.mul_le_mul_of_nonneg_left hb ha; rwa [Int.mul_one] at this
theorem pw_pos (k : Nat) : (0 : Int) < ((2 ^ k : Nat) : Int) := Int.natCast_pos.mpr (Nat.two_pow_pos k)
theorem DB.nn {k : Nat} {lo hi : Int} {a : UInt64} (h : DB k lo hi a) : Jvm.Free.Fl.NoNaN64 a := Jvm.Free.Fl.noNaN64_no.mpr h.1.notNaN
theorem DB.ne {k : Nat} {lo hi : Int} {a : UInt64} (h : DB k lo hi a) : val64 a ≠ .nan := h.1.ne_nan
/-- a number of 53 digits is a double -/
theorem rep {n : Int} {k : Nat} (hn : n.natAbs ≤ 2 ^ 53) (hk : k ≤ 2044) : ∃ s c q, FP.Core.fits b64 (.fin s c q) ∧ zval b64 (.fin s c q) = n * ((2 ^ k : Nat) : Int) := by
  have key : ∀ (n : Int) (k : Nat), n.natAbs < 2 ^ 53 → k ≤ 2045 → ∃ s c q, FP.Core.fits b64 (.fin s c q) ∧ zval b64 (.fin s c q) = n * ((2 ^ k : Nat) : Int) := by
    intro n k hn hk
    have q1 : b64.qmin = -1074 := by decide
    have q2 : b64.qmax = 971 := by decide
    obtain ⟨c', q', h1, h2⟩ := round_exact good_b64 (decide (n < 0)) (c := n.natAbs) (q := b64.qmin + (k : Int)) (show n.natAbs < 2 ^ b64.p from hn) (by omega) (by omega)
    refine ⟨_, c', q', h1 ▸ round_fits good_b64 _, ?_⟩
    show signed (decide (n < 0)) (inUnits c' q' b64.qmin) = _
    rw [h2]
    unfold inUnits
    rw [signed_mul, show (b64.qmin + (k : Int) - b64.qmin).toNat = k by omega]
    congr 1
    unfold signed
    by_cases h : n < 0 <;> simp [h] <;> omega
  by_cases h : n.natAbs < 2 ^ 53
  · exact key n k h (by omega)
  · have e : n.natAbs = 2 ^ 53 := by omega
    have : ∃ m : Int, n = m * 2 ∧ m.natAbs < 2 ^ 53 := by
      rcases Int.natAbs_eq n with q | q
      · exact ⟨2 ^ 52, by rw [q, e]; decide, by decide⟩
      · exact ⟨-2 ^ 52, by rw [q, e]; decide, by decide⟩
    obtain ⟨m, rfl, hm⟩ := this
    obtain ⟨s, c, q, h1, h2⟩ := key m (k + 1) hm (by omega)
    refine ⟨s, c, q, h1, ?_⟩
    rw [h2, Nat.pow_succ, Int.natCast_mul, Int.mul_assoc]
    congr 1
    rw [Int.mul_comm]; rfl
/-- a number between two finite ones is finite -/
theorem fin_between {a : UInt64} {lo hi : Int} {k : Nat} (hl : lo.natAbs ≤ 2 ^ 53) (hh : hi.natAbs ≤ 2 ^ 53) (hk : k ≤ 2044) (hn : val64 a ≠ .nan) (h1 : lo * ((2 ^ k : Nat) : Int) ≤ zv a) (h2 : zv a ≤ hi * ((2 ^ k : Nat) : Int)) : DB k lo hi a := by
  refine ⟨?_, h1, h2⟩
  obtain ⟨s1, c1, q1, f1, e1⟩ := rep hl hk
  obtain ⟨s2, c2, q2, f2, e2⟩ := rep hh hk
  have t1 : zmag b64 (.fin s1 c1 q1) < b64.tails * 2 ^ (b64.exps - 2) := zmag_lt_top good_b64 f1
  have t2 : zmag b64 (.fin s2 c2 q2) < b64.tails * 2 ^ (b64.exps - 2) := zmag_lt_top good_b64 f2
  rw [← e1] at h1
  rw [← e2] at h2
  unfold zv at h1 h2
  cases hv : val64 a with
  | nan => exact absurd hv hn
  | fin s c q => exact ⟨s, c, q, hv⟩
  | inf s =>
    exfalso
    rw [hv] at h1 h2
    have z : zmag b64 (.inf s) = b64.tails * 2 ^ (b64.exps - 2) := rfl
    unfold zval at h1 h2
    rw [z] at h1 h2
    generalize b64.tails * 2 ^ (b64.exps - 2) = top at *
    generalize zmag b64 (.fin s1 c1 q1) = m1 at *
    generalize zmag b64 (.fin s2 c2 q2) = m2 at *
    simp only [sgn] at h1 h2
    cases s <;> cases s1 <;> cases s2 <;> simp only [signed, if_true, Bool.false_eq_true, if_false] at h1 h2 <;> omega
theorem qmin_sub : ((2 ^ (b64.qmin - b64.qmin).toNat : Nat) : Int) = 1 := by rw [Int.sub_self]; rfl
/-- what lies between two numbers of 53 digits is rounded to something between them -/
theorem round_between {s : Bool} {c : Nat} {q : Int} {lo hi : Int} {k : Nat} {a : UInt64} (ha : val64 a = round b64 (.fin s c q)) (hl : lo.natAbs ≤ 2 ^ 53) (hh : hi.natAbs ≤ 2 ^ 53) (hk : k ≤ 2044) {e0 : Int} (h0 : e0 ≤ b64.qmin) (h0e : e0 ≤ q)
    (h1 : lo * ((2 ^ k : Nat) : Int) * ((2 ^ (b64.qmin - e0).toNat : Nat) : Int) ≤ signed s (inUnits c q e0)) (h2 : signed s (inUnits c q e0) ≤ hi * ((2 ^ k : Nat) : Int) * ((2 ^ (b64.qmin - e0).toNat : Nat) : Int)) : DB k lo hi a := by
  obtain ⟨s1, c1, q1, f1, e1⟩ := rep hl hk
  obtain ⟨s2, c2, q2, f2, e2⟩ := rep hh hk
  have hn : val64 a ≠ .nan := by rw [ha]; exact roundRatio_ne_nan _ _ _ _ _
  refine fin_between hl hh hk hn ?_ ?_
  · unfold zv; rw [ha, ← e1]; exact zval_round_ge good_b64 f1 (by simp) h0 h0e (by rw [e1]; exact h1)
  · unfold zv; rw [ha, ← e2]; exact zval_round_le good_b64 f2 (by simp) h0 h0e (by rw [e2]; exact h2)
theorem add_b {a b : UInt64} {k : Nat} {l1 h1 l2 h2 lo hi : Int} (ha : DB k l1 h1 a) (hb : DB k l2 h2 b) (hlo : lo ≤ l1 + l2) (hhi : h1 + h2 ≤ hi) (hl : lo.natAbs ≤ 2 ^ 53) (hh : hi.natAbs ≤ 2 ^ 53) (hk : k ≤ 2044) : DB k lo hi (FP.dadd a b) := by
  obtain ⟨⟨s, c, q, va⟩, a1, a2⟩ := ha
  obtain ⟨⟨t, d, r, vb⟩, b1, b2⟩ := hb
  have hv := val64_dadd a b
  have fa := val64_fits a
  have fb := val64_fits b
  unfold zv at a1 a2 b1 b2
  rw [va] at hv fa a1 a2
  rw [vb] at hv fb b1 b2
  obtain ⟨sg, n, e, h3, h4, h5⟩ := sum_units fa fb
  rw [h3] at hv
  have hp := pw_pos k
  refine round_between hv hl hh hk (e0 := b64.qmin) (Int.le_refl _) h4 ?_ ?_
  · rw [h5, qmin_sub, Int.mul_one]
    have := Int.mul_le_mul_of_nonneg_right hlo (Int.le_of_lt hp)
    rw [Int.add_mul] at this
    omega
  · rw [h5, qmin_sub, Int.mul_one]
    have := Int.mul_le_mul_of_nonneg_right hhi (Int.le_of_lt hp)
    rw [Int.add_mul] at this
    omega
theorem zv_dneg {a : UInt64} : zv (FP.dneg a) = -zv a := by unfold zv; rw [FP.val64_dneg, zval_negate]
theorem neg_b {a : UInt64} {k : Nat} {lo hi : Int} (ha : DB k lo hi a) : DB k (-hi) (-lo) (FP.dneg a) := by
  refine ⟨?_, ?_, ?_⟩
  · obtain ⟨s, c, q, va⟩ := ha.1
    exact ⟨!s, c, q, by rw [FP.val64_dneg, va]; rfl⟩
  · rw [zv_dneg, Int.neg_mul]; have := ha.2.2; omega
  · rw [zv_dneg, Int.neg_mul]; have := ha.2.1; omega
theorem sub_b {a b : UInt64} {k : Nat} {l1 h1 l2 h2 lo hi : Int} (ha : DB k l1 h1 a) (hb : DB k l2 h2 b) (hlo : lo ≤ l1 - h2) (hhi : h1 - l2 ≤ hi) (hl : lo.natAbs ≤ 2 ^ 53) (hh : hi.natAbs ≤ 2 ^ 53) (hk : k ≤ 2044) : DB k lo hi (FP.dsub a b) := by
  have e : FP.dsub a b = FP.dadd a (FP.dneg b) := by
    rw [FP.dneg_core hb.1.notNaN]; exact dsub_eq a b
  rw [e]
  exact add_b ha (neg_b hb) (by omega) (by omega) hl hh hk
theorem pw_1074 : ((2 ^ (b64.qmin - 2 * b64.qmin).toNat : Nat) : Int) = ((2 ^ 1074 : Nat) : Int) := by
  rw [show (b64.qmin - 2 * b64.qmin).toNat = 1074 by decide]
/-- the exact product of the two lies between -/
theorem mul_z {a b : UInt64} {k : Nat} {lo hi : Int} (fa : DFin a) (fb : DFin b) (h1 : lo * ((2 ^ k : Nat) : Int) * ((2 ^ 1074 : Nat) : Int) ≤ zv a * zv b) (h2 : zv a * zv b ≤ hi * ((2 ^ k : Nat) : Int) * ((2 ^ 1074 : Nat) : Int)) (hl : lo.natAbs ≤ 2 ^ 53) (hh : hi.natAbs ≤ 2 ^ 53) (hk : k ≤ 2044) : DB k lo hi (FP.dmul a b) := by
  obtain ⟨s, c, q, va⟩ := fa
  obtain ⟨t, d, r, vb⟩ := fb
  have hv := val64_dmul a b
  have fa := val64_fits a
  have fb := val64_fits b
  unfold zv at h1 h2
  rw [va] at hv fa h1 h2
  rw [vb] at hv fb h1 h2
  obtain ⟨g1, g2, g3⟩ := product_units fa fb
  rw [g1] at hv
  have e : signed (s != t) (inUnits (c * d) (q + r) (2 * b64.qmin)) = zval b64 (.fin s c q) * zval b64 (.fin t d r) := by
    rw [g3, signed_xor]; rfl
  refine round_between hv hl hh hk (e0 := 2 * b64.qmin) (by decide) g2 ?_ ?_
  · rw [e, pw_1074]; exact h1
  · rw [e, pw_1074]; exact h2
theorem pw_add (a b : Nat) : ((2 ^ (a + b) : Nat) : Int) = ((2 ^ a : Nat) : Int) * ((2 ^ b : Nat) : Int) := by rw [Nat.pow_add, Int.natCast_mul]
theorem mul_e {a b : UInt64} {k k1 k2 : Nat} {i j n : Int} (ha : DE k1 i a) (hb : DE k2 j b) (hk : k1 + k2 = k + 1074) (hn : i * j = n) (hh : n.natAbs ≤ 2 ^ 53) (hk' : k ≤ 2044) : DE k n (FP.dmul a b) := by
  have e : zv a * zv b = n * ((2 ^ k : Nat) : Int) * ((2 ^ 1074 : Nat) : Int) := by
    rw [ha.eq, hb.eq, ← hn, Int.mul_assoc (i * j), ← pw_add, ← hk, pw_add]
    simp only [Int.mul_assoc, Int.mul_left_comm]
  exact mul_z ha.1 hb.1 (Int.le_of_eq e.symm) (Int.le_of_eq e) hh hh hk'
/-- a bounded one times a known one that isn't negative -/
theorem mul_b {a b : UInt64} {k k1 k2 : Nat} {l1 h1 j lo hi : Int} (ha : DB k1 l1 h1 a) (hb : DE k2 j b) (hj : 0 ≤ j) (hk : k1 + k2 = k + 1074) (hlo : lo ≤ l1 * j) (hhi : h1 * j ≤ hi) (hl : lo.natAbs ≤ 2 ^ 53) (hh : hi.natAbs ≤ 2 ^ 53) (hk' : k ≤ 2044) : DB k lo hi (FP.dmul a b) := by
  have p1 := pw_pos k1
  have p2 := pw_pos k2
  have hz : 0 ≤ zv b := by rw [hb.eq]; exact Int.mul_nonneg hj (Int.le_of_lt p2)
  have e : ∀ x : Int, x * j * ((2 ^ k : Nat) : Int) * ((2 ^ 1074 : Nat) : Int) = x * ((2 ^ k1 : Nat) : Int) * zv b := fun x => by
    rw [hb.eq, Int.mul_assoc (x * j), ← pw_add, ← hk, pw_add]
    simp only [Int.mul_assoc, Int.mul_left_comm]
  have up : ∀ {x y : Int}, x ≤ y → x * ((2 ^ k : Nat) : Int) * ((2 ^ 1074 : Nat) : Int) ≤ y * ((2 ^ k : Nat) : Int) * ((2 ^ 1074 : Nat) : Int) := fun h =>
    Int.mul_le_mul_of_nonneg_right (Int.mul_le_mul_of_nonneg_right h (Int.le_of_lt (pw_pos _))) (Int.le_of_lt (pw_pos _))
  refine mul_z ha.1 hb.1 ?_ ?_ hl hh hk'
  · refine Int.le_trans (up hlo) ?_
    rw [e]; exact Int.mul_le_mul_of_nonneg_right ha.2.1 hz
  · refine Int.le_trans ?_ (up hhi)
    rw [e]; exact Int.mul_le_mul_of_nonneg_right ha.2.2 hz
theorem pw3 {A B C D E : Nat} (c : Nat) (h : A + B = C + D + E) : c * 2 ^ A * 2 ^ B = c * 2 ^ C * 2 ^ D * 2 ^ E := by
  rw [Nat.mul_assoc, ← Nat.pow_add, h, Nat.pow_add, Nat.pow_add, ← Nat.mul_assoc, ← Nat.mul_assoc]
theorem ev_aux (V : Int) (n d y : Nat) : V * ((2 ^ n * d : Nat) : Int) * ((2 ^ y : Nat) : Int) = V * ((d * 2 ^ y : Nat) : Int) * ((2 ^ n : Nat) : Int) := by
  rw [Int.natCast_mul, Int.natCast_mul]
  generalize ((2 ^ n : Nat) : Int) = x
  generalize ((2 ^ y : Nat) : Int) = z
  simp only [Int.mul_assoc, Int.mul_comm, Int.mul_left_comm]
/-- the quotient, with signs -/
theorem ratio_le {s : Bool} {A B : Nat} {e e0 : Int} {V : Datum} (hB : 0 < B) (hV : FP.Core.fits b64 V) (hn : V ≠ .nan) (h0 : e0 ≤ b64.qmin) (h0e : e0 ≤ e)
    (h : signed s (inUnits A e e0) ≤ zval b64 V * ((2 ^ (b64.qmin - e0).toNat * B : Nat) : Int)) : zval b64 (roundRatio b64 s A B e) ≤ zval b64 V := by
  have hle := zmag_roundRatio_le good_b64 (s := s) (A := A) hB hV hn h0 h0e
  have hge := zmag_roundRatio_ge good_b64 (s := s) (A := A) hB hV h0 h0e
  rw [Nat.mul_assoc] at hle hge
  have hP : 0 < 2 ^ (b64.qmin - e0).toNat * B := Nat.mul_pos (Nat.two_pow_pos _) hB
  unfold zval at h ⊢
  rw [sgn_roundRatio]
  rw [← signed_mul] at h
  have hz : zmag b64 V * (2 ^ (b64.qmin - e0).toNat * B) = 0 → zmag b64 V = 0 := by
    intro h
    rcases Nat.mul_eq_zero.mp h with h | h <;> omega
  generalize zmag b64 V * (2 ^ (b64.qmin - e0).toNat * B) = vP at *
  generalize sgn V = t at *
  cases s <;> cases t <;> simp only [signed, if_true, Bool.false_eq_true, if_false] at h ⊢
  · have := hle (by omega); omega
  · have := hle (by omega); have := hz (by omega); omega
  · omega
  · have := hge (by omega); omega
theorem ratio_ge {s : Bool} {A B : Nat} {e e0 : Int} {V : Datum} (hB : 0 < B) (hV : FP.Core.fits b64 V) (hn : V ≠ .nan) (h0 : e0 ≤ b64.qmin) (h0e : e0 ≤ e)
    (h : zval b64 V * ((2 ^ (b64.qmin - e0).toNat * B : Nat) : Int) ≤ signed s (inUnits A e e0)) : zval b64 V ≤ zval b64 (roundRatio b64 s A B e) := by
  have h1 := ratio_le (s := !s) (A := A) (B := B) (e := e) (V := negate V) hB (negate_fits hV) (negate_ne_nan hn) h0 h0e (by
    rw [zval_negate, Int.neg_mul]
    have : signed (!s) (inUnits A e e0) = -signed s (inUnits A e e0) := by cases s <;> simp [signed]
    rw [this]; omega)
  rw [zval_negate, ← negate_roundRatio, zval_negate] at h1
  omega
/-- the quotient by a positive number: no NaN, and at the least, at the most, what is so when multiplied back -/
theorem div_zz {a b : UInt64} (fa : DFin a) (fb : DFin b) (hb : 0 < zv b) : val64 (FP.ddiv a b) ≠ .nan ∧
    (∀ {k : Nat} {lo : Int}, lo.natAbs ≤ 2 ^ 53 → k ≤ 2044 → lo * ((2 ^ k : Nat) : Int) * zv b ≤ zv a * ((2 ^ 1074 : Nat) : Int) → lo * ((2 ^ k : Nat) : Int) ≤ zv (FP.ddiv a b)) ∧
    (∀ {k : Nat} {hi : Int}, hi.natAbs ≤ 2 ^ 53 → k ≤ 2044 → zv a * ((2 ^ 1074 : Nat) : Int) ≤ hi * ((2 ^ k : Nat) : Int) * zv b → zv (FP.ddiv a b) ≤ hi * ((2 ^ k : Nat) : Int)) := by
  obtain ⟨s, c, q, va⟩ := fa
  obtain ⟨t, d, r, vb⟩ := fb
  have hv := val64_ddiv a b
  have fa := val64_fits a
  have fb := val64_fits b
  have zea : zv a = zval b64 (.fin s c q) := by unfold zv; rw [va]
  have zeb : zv b = zval b64 (.fin t d r) := by unfold zv; rw [vb]
  rw [zea, zeb]
  rw [zeb] at hb
  rw [va] at hv fa
  rw [vb] at hv fb
  have qn : b64.qmin = -1074 := by decide
  have qx : b64.qmax = 971 := by decide
  have fa2 := fa.2.1
  have fb2 := fb.2.1
  have fb3 := fb.2.2.1
  have zb : zval b64 (.fin t d r) = signed t (d * 2 ^ (r - b64.qmin).toNat) := rfl
  have za : zval b64 (.fin s c q) = signed s (c * 2 ^ (q - b64.qmin).toNat) := rfl
  have hd : 0 < d := by
    refine Nat.pos_of_ne_zero fun e => ?_
    rw [zb, e, Nat.zero_mul, signed_zero] at hb
    omega
  have ht : t = false := by
    cases t with
    | false => rfl
    | true => rw [zb] at hb; simp only [signed, if_true] at hb; omega
  subst ht
  have hq : quotient b64 (.fin s c q) (.fin false d r) = roundRatio b64 s c d (q - r) := by
    show (if d = 0 then _ else roundRatio b64 (s != false) c d (q - r)) = _
    rw [if_neg (by omega)]; cases s <;> rfl
  rw [hq] at hv
  have hn : val64 (Core.ddiv a b) ≠ .nan := by rw [hv]; exact roundRatio_ne_nan _ _ _ _ _
  -- both sides times 2^(r - qmin)
  have hP := pw_pos (r - b64.qmin).toNat
  have ex : signed s (inUnits c (q - r) (2 * b64.qmin)) * ((2 ^ (r - b64.qmin).toNat : Nat) : Int) = zval b64 (.fin s c q) * ((2 ^ 1074 : Nat) : Int) * ((2 ^ 1074 : Nat) : Int) := by
    rw [za, ← signed_mul, ← signed_mul, ← signed_mul]
    exact congrArg (signed s) (pw3 (A := (q - r - 2 * b64.qmin).toNat) (D := 1074) (E := 1074) c (by omega))
  have ev : ∀ V : Int, V * ((2 ^ (b64.qmin - 2 * b64.qmin).toNat * d : Nat) : Int) * ((2 ^ (r - b64.qmin).toNat : Nat) : Int) = V * zval b64 (.fin false d r) * ((2 ^ 1074 : Nat) : Int) := fun V => by
    rw [zb, show (b64.qmin - 2 * b64.qmin).toNat = 1074 by decide]
    exact ev_aux V 1074 d _
  have p1074 := pw_pos 1074
  refine ⟨hn, fun {k lo} hl hk h1 => ?_, fun {k hi} hh hk h2 => ?_⟩
  · obtain ⟨s1, c1, q1, f1, e1⟩ := rep hl hk
    unfold zv; rw [hv, ← e1]
    refine ratio_ge hd f1 (by simp) (e0 := 2 * b64.qmin) (by decide) (by omega) ?_
    refine Int.le_of_mul_le_mul_right ?_ hP
    rw [ev, ex, e1]
    exact Int.mul_le_mul_of_nonneg_right h1 (Int.le_of_lt p1074)
  · obtain ⟨s2, c2, q2, f2, e2⟩ := rep hh hk
    unfold zv; rw [hv, ← e2]
    refine ratio_le hd f2 (by simp) (e0 := 2 * b64.qmin) (by decide) (by omega) ?_
    refine Int.le_of_mul_le_mul_right ?_ hP
    rw [ev, ex, e2]
    exact Int.mul_le_mul_of_nonneg_right h2 (Int.le_of_lt p1074)
/-- between lo and hi -/
theorem div_z {a b : UInt64} {k : Nat} {lo hi : Int} (fa : DFin a) (fb : DFin b) (hb : 0 < zv b) (h1 : lo * ((2 ^ k : Nat) : Int) * zv b ≤ zv a * ((2 ^ 1074 : Nat) : Int)) (h2 : zv a * ((2 ^ 1074 : Nat) : Int) ≤ hi * ((2 ^ k : Nat) : Int) * zv b) (hl : lo.natAbs ≤ 2 ^ 53) (hh : hi.natAbs ≤ 2 ^ 53) (hk : k ≤ 2044) : DB k lo hi (FP.ddiv a b) := by
  obtain ⟨n, ge, le⟩ := div_zz fa fb hb
  exact fin_between hl hh hk n (ge hl hk h1) (le hh hk h2)
/-- the quotient of two known numbers, the second one positive -/
theorem div_b {a b : UInt64} {k k1 k2 : Nat} {i j lo hi : Int} (ha : DE k1 i a) (hb : DE k2 j b) (hj : 0 < j) (hk : k1 + 1074 = k + k2) (hlo : lo * j ≤ i) (hhi : i ≤ hi * j) (hl : lo.natAbs ≤ 2 ^ 53) (hh : hi.natAbs ≤ 2 ^ 53) (hk' : k ≤ 2044) : DB k lo hi (FP.ddiv a b) := by
  have p2 := pw_pos k2
  have e : ∀ x : Int, x * ((2 ^ k : Nat) : Int) * zv b = x * j * ((2 ^ (k1 + 1074) : Nat) : Int) := fun x => by
    rw [hb.eq, hk, pw_add]
    simp only [Int.mul_assoc, Int.mul_left_comm]
  have e2 : zv a * ((2 ^ 1074 : Nat) : Int) = i * ((2 ^ (k1 + 1074) : Nat) : Int) := by rw [ha.eq, pw_add, Int.mul_assoc]
  refine div_z ha.1 hb.1 (by rw [hb.eq]; exact Int.mul_pos hj p2) ?_ ?_ hl hh hk'
  · rw [e, e2]; exact Int.mul_le_mul_of_nonneg_right hlo (Int.le_of_lt (pw_pos _))
  · rw [e, e2]; exact Int.mul_le_mul_of_nonneg_right hhi (Int.le_of_lt (pw_pos _))
theorem div_e {a b : UInt64} {k k1 k2 : Nat} {i j n : Int} (ha : DE k1 i a) (hb : DE k2 j b) (hj : 0 < j) (hk : k1 + 1074 = k + k2) (hn : n * j = i) (hh : n.natAbs ≤ 2 ^ 53) (hk' : k ≤ 2044) : DE k n (FP.ddiv a b) :=
  div_b ha hb hj hk (Int.le_of_eq hn) (Int.le_of_eq hn.symm) hh hh hk'
theorem add_e {a b : UInt64} {k : Nat} {i j n : Int} (ha : DE k i a) (hb : DE k j b) (hn : i + j = n) (hh : n.natAbs ≤ 2 ^ 53) (hk : k ≤ 2044) : DE k n (FP.dadd a b) := add_b ha hb (Int.le_of_eq hn.symm) (Int.le_of_eq hn) hh hh hk
theorem sub_e {a b : UInt64} {k : Nat} {i j n : Int} (ha : DE k i a) (hb : DE k j b) (hn : i - j = n) (hh : n.natAbs ≤ 2 ^ 53) (hk : k ≤ 2044) : DE k n (FP.dsub a b) := sub_b ha hb (Int.le_of_eq hn.symm) (Int.le_of_eq hn) hh hh hk
theorem i2d_e (x : Int32) : DE 1074 x.toInt (FP.i2d x) := DE.of (Core.i2d_fin x) (DInt_zval (i2d_int x))
theorem l2d_e {x : Int64} (h : x.toInt.natAbs ≤ 2 ^ 53) : DE 1074 x.toInt (FP.l2d x) := DE.of (Core.l2d_fin x) (DInt_zval (l2d_int h))
theorem zero_e (k : Nat) : DE k 0 FP.dconst0 := DE.of ⟨_, _, _, rfl⟩ (by rw [Int.zero_mul]; exact zval64_zero)
/-- in smaller units -/
theorem DB.down {a : UInt64} {k : Nat} {lo hi : Int} (h : DB k lo hi a) {k' n : Nat} (hk : k = k' + n) : DB k' (lo * ((2 ^ n : Nat) : Int)) (hi * ((2 ^ n : Nat) : Int)) a := by
  subst hk
  refine ⟨h.1, ?_, ?_⟩
  · have := h.2.1; rw [Nat.add_comm, pw_add, ← Int.mul_assoc] at this; exact this
  · have := h.2.2; rw [Nat.add_comm, pw_add, ← Int.mul_assoc] at this; exact this
/-- the quotient from below alone -/
theorem div_ge {a b : UInt64} {k k1 k2 : Nat} {i j lo : Int} (ha : DE k1 i a) (hb : DE k2 j b) (hj : 0 < j) (hk : k1 + 1074 = k + k2) (hlo : lo * j ≤ i) (hl : lo.natAbs ≤ 2 ^ 53) (hk' : k ≤ 2044) : lo * ((2 ^ k : Nat) : Int) ≤ zv (FP.ddiv a b) := by
  have p2 := pw_pos k2
  have e : ∀ x : Int, x * ((2 ^ k : Nat) : Int) * zv b = x * j * ((2 ^ (k1 + 1074) : Nat) : Int) := fun x => by
    rw [hb.eq, hk, pw_add]
    simp only [Int.mul_assoc, Int.mul_left_comm]
  have e2 : zv a * ((2 ^ 1074 : Nat) : Int) = i * ((2 ^ (k1 + 1074) : Nat) : Int) := by rw [ha.eq, pw_add, Int.mul_assoc]
  refine (div_zz ha.1 hb.1 (by rw [hb.eq]; exact Int.mul_pos hj p2)).2.1 hl hk' ?_
  rw [e, e2]; exact Int.mul_le_mul_of_nonneg_right hlo (Int.le_of_lt (pw_pos _))
/-- in greater units -/
theorem DB.up {a : UInt64} {k : Nat} {lo hi : Int} {n : Nat} (h : DB k (lo * ((2 ^ n : Nat) : Int)) (hi * ((2 ^ n : Nat) : Int)) a) : DB (k + n) lo hi a := by
  refine ⟨h.1, ?_, ?_⟩
  · have := h.2.1; rw [Int.mul_assoc, ← pw_add, Nat.add_comm] at this; exact this
  · have := h.2.2; rw [Int.mul_assoc, ← pw_add, Nat.add_comm] at this; exact this
/-- the product of two known numbers, between two that lie on a grid 2^g times as coarse -/
theorem mul_g {a b : UInt64} {k k1 k2 g : Nat} {i j lo hi : Int} (ha : DE k1 i a) (hb : DE k2 j b) (hk : k1 + k2 + g = k + 1074) (hlo : lo * ((2 ^ g : Nat) : Int) ≤ i * j) (hhi : i * j ≤ hi * ((2 ^ g : Nat) : Int)) (hl : lo.natAbs ≤ 2 ^ 53) (hh : hi.natAbs ≤ 2 ^ 53) (hk' : k ≤ 2044) : DB k lo hi (FP.dmul a b) := by
  have e : zv a * zv b = i * j * ((2 ^ (k1 + k2) : Nat) : Int) := by
    rw [ha.eq, hb.eq, pw_add]
    simp only [Int.mul_assoc, Int.mul_left_comm]
  have e2 : ∀ x : Int, x * ((2 ^ k : Nat) : Int) * ((2 ^ 1074 : Nat) : Int) = x * ((2 ^ g : Nat) : Int) * ((2 ^ (k1 + k2) : Nat) : Int) := fun x => by
    rw [Int.mul_assoc, ← pw_add, ← hk, Nat.add_comm, pw_add, ← Int.mul_assoc]
  refine mul_z ha.1 hb.1 ?_ ?_ hl hh hk'
  · rw [e, e2]; exact Int.mul_le_mul_of_nonneg_right hlo (Int.le_of_lt (pw_pos _))
  · rw [e, e2]; exact Int.mul_le_mul_of_nonneg_right hhi (Int.le_of_lt (pw_pos _))
theorem DB.wide {a : UInt64} {k : Nat} {lo hi lo' hi' : Int} (h : DB k lo hi a) (h1 : lo' ≤ lo) (h2 : hi ≤ hi') : DB k lo' hi' a :=
  ⟨h.1, Int.le_trans (Int.mul_le_mul_of_nonneg_right h1 (Int.le_of_lt (pw_pos k))) h.2.1, Int.le_trans h.2.2 (Int.mul_le_mul_of_nonneg_right h2 (Int.le_of_lt (pw_pos k)))⟩
theorem DE.cmp {a b : UInt64} {k : Nat} {i j : Int} (ha : DE k i a) (hb : DE k j b) : FP.dcmp a b = some (compare i j) := by
  rw [show FP.dcmp a b = some (compare (zv a) (zv b)) from dcmp_zval ha.ne hb.ne, ha.eq, hb.eq, compare_mul_pos _ _ _ (pw_pos k)]
theorem DB.lt {a b : UInt64} {k : Nat} {l1 h1 l2 h2 : Int} (ha : DB k l1 h1 a) (hb : DB k l2 h2 b) (h : h1 < l2) : FP.dcmp a b = some .lt := by
  rw [show FP.dcmp a b = some (compare (zv a) (zv b)) from dcmp_zval ha.ne hb.ne]
  congr 1
  rw [compare_lt_iff]
  have := Int.mul_lt_mul_of_pos_right h (pw_pos k)
  have := ha.2.2; have := hb.2.1
  omega
theorem DB.gt {a b : UInt64} {k : Nat} {l1 h1 l2 h2 : Int} (ha : DB k l1 h1 a) (hb : DB k l2 h2 b) (h : h2 < l1) : FP.dcmp a b = some .gt := by
  rw [show FP.dcmp a b = some (compare (zv a) (zv b)) from dcmp_zval ha.ne hb.ne]
  congr 1
  rw [compare_gt_iff]
  have := Int.mul_lt_mul_of_pos_right h (pw_pos k)
  have := ha.2.1; have := hb.2.2
  omega
/-- two doubles of one value that isn't nought are one -/
theorem DE.uniq {a b : UInt64} {k : Nat} {i : Int} (ha : DE k i a) (hb : DE k i b) (hi : i ≠ 0) : a = b := by
  have h1 := dcmp_key ha.ne hb.ne
  rw [dcmp_zval ha.ne hb.ne] at h1
  have e : zval b64 (val64 a) = zval b64 (val64 b) := (ha.eq).trans hb.eq.symm
  have h2 := Option.some.inj h1
  rw [(compare_eq_iff _ _).mpr e] at h2
  have h3 := (compare_eq_iff _ _).mp h2.symm
  have nz : ∀ {c : UInt64}, DE k i c → dkey c ≠ 0 := fun {c} hc h0 => by
    have q := dcmp_key hc.ne (b := 0) (by rw [val64_zero]; simp)
    rw [dcmp_zval hc.ne (by rw [val64_zero]; simp), zval64_zero] at q
    have q2 := Option.some.inj q
    have z : dkey 0 = 0 := by decide
    rw [h0, z, (compare_eq_iff (0 : Int) 0).mpr rfl] at q2
    have q3 := (compare_eq_iff _ _).mp q2
    have q4 : zv c = 0 := q3
    rw [hc.eq] at q4
    rcases Int.mul_eq_zero.mp q4 with q5 | q5
    · exact hi q5
    · have := pw_pos k; omega
  have n1 := nz ha
  have n2 := nz hb
  unfold dkey at h3 n1 n2
  apply UInt64.toNat_inj.mp
  have l1 := a.toNat_lt; have l2 := b.toNat_lt
  split at h3 <;> split at h3 <;> simp_all <;> omega
end Jvm.Pilot.@@N@@.Own
namespace Jvm.Pilot.@@N@@.Own
open Jvm Jvm.ClassFile Sem Op Lib Jvm.Free Jvm.Stand Jvm.LawKit Jvm.RoadKit
theorem lsub_v {tb : Tables} [Ours tb] {e : Env} {below : List Frame} {T target : State} {m : MethodId} {c : Code} {g : JFrame} (h : At T m c below) (hx : tb.exec = Jvm.exec) (hg : g.method = m) {x : Int64} {y : Int64} {v : Int64} {rest : List Value} (hd : decode c.code g.pc = .ok (.lsub, 1)) (hs : g.stack = .long y :: .long x :: rest) (hv : x - y = v)
    (hr : Steps tb e below (T.setTop { g with pc := g.pc + 1, stack := .long v :: rest }) target) : Steps tb e below (T.setTop g) target := by subst hv; exact XS.lsub h hx hg hd hs hr
theorem i2l_v {tb : Tables} [Ours tb] {e : Env} {below : List Frame} {T target : State} {m : MethodId} {c : Code} {g : JFrame} (h : At T m c below) (hx : tb.exec = Jvm.exec) (hg : g.method = m) {x : Int32} {v : Int64} {rest : List Value} (hd : decode c.code g.pc = .ok (.i2l, 1)) (hs : g.stack = .int x :: rest) (hv : x.toInt64 = v)
    (hr : Steps tb e below (T.setTop { g with pc := g.pc + 1, stack := .long v :: rest }) target) : Steps tb e below (T.setTop g) target := by subst hv; exact XS.i2l h hx hg hd hs hr
theorem irem_v {tb : Tables} [Ours tb] {e : Env} {below : List Frame} {T target : State} {m : MethodId} {c : Code} {g : JFrame} (h : At T m c below) (hx : tb.exec = Jvm.exec) (hg : g.method = m) {x : Int32} {y : Int32} {v : Int32} {rest : List Value} (hd : decode c.code g.pc = .ok (.irem, 1)) (hs : g.stack = .int y :: .int x :: rest) (hy : ¬ y = 0) (hv : x % y = v)
    (hr : Steps tb e below (T.setTop { g with pc := g.pc + 1, stack := .int v :: rest }) target) : Steps tb e below (T.setTop g) target := by subst hv; exact XS.irem h hx hg hd hs hy (by rw [irem_eq_mod]; exact hr)
theorem ladd_v {tb : Tables} [Ours tb] {e : Env} {below : List Frame} {T target : State} {m : MethodId} {c : Code} {g : JFrame} (h : At T m c below) (hx : tb.exec = Jvm.exec) (hg : g.method = m) {x : Int64} {y : Int64} {v : Int64} {rest : List Value} (hd : decode c.code g.pc = .ok (.ladd, 1)) (hs : g.stack = .long y :: .long x :: rest) (hv : x + y = v)
    (hr : Steps tb e below (T.setTop { g with pc := g.pc + 1, stack := .long v :: rest }) target) : Steps tb e below (T.setTop g) target := by subst hv; exact XS.ladd h hx hg hd hs hr
end Jvm.Pilot.@@N@@.Own
namespace Jvm.Pilot.@@N@@.Own
open Jvm Jvm.FP Jvm.FP.Core
theorem same_cmp {a : UInt64} (h : val64 a ≠ .nan) : FP.dcmp a a = some (compare (dkey a) (dkey a)) := dcmp_key h h
theorem fin_cmp {a b : UInt64} (fa : DFin a) (fb : DFin b) : FP.dcmp a b = some (compare (zv a) (zv b)) := dcmp_zval fa.ne_nan fb.ne_nan
theorem one_k : DE 1064 1024 FP.dconst1 := DE.of ⟨_, _, _, rfl⟩ (by decide +kernel)
/-- the quotient of small whole numbers between two points of the grid 2^-10 -/
theorem grid {a b : UInt64} {i j lo hi : Int} (ha : DE 1074 i a) (hb : DE 1074 j b) (h1 : 0 < j) (hl : lo * j ≤ i * 1024) (hh : i * 1024 ≤ hi * j) (b1 : lo.natAbs ≤ 2 ^ 53) (b2 : hi.natAbs ≤ 2 ^ 53) : DB 1064 lo hi (FP.ddiv a b) := by
  have ha' := ha.down (k' := 1064) (n := 10) rfl
  have e : ((2 ^ 10 : Nat) : Int) = 1024 := by decide
  rw [e] at ha'
  exact div_b (k := 1064) (k1 := 1064) (k2 := 1074) ha' hb h1 rfl hl hh b1 b2 (by decide)
/-- what degree answers -/
def Deg (ia ib ix : Int) (r : UInt64) : Prop := (ix ≤ ia ∧ r = FP.dconst1) ∨ (ia < ix ∧ ib ≤ ix ∧ r = FP.dconst0) ∨ (ia < ix ∧ ix < ib ∧ ∃ y z, r = FP.ddiv y z ∧ DE 1074 (ib - ix) y ∧ DE 1074 (ib - ia) z)
theorem mid_b {ia ib ix : Int} {r : UInt64} (hb : ib - ia ≤ 32) (h1 : ia < ix) (h2 : ix < ib) (h : ∃ y z, r = FP.ddiv y z ∧ DE 1074 (ib - ix) y ∧ DE 1074 (ib - ia) z) : DB 1064 1 1023 r := by
  obtain ⟨y, z, rfl, hy, hz⟩ := h
  exact grid hy hz (by omega) (by omega) (by omega) (by decide) (by decide)
theorem Deg.b {ia ib ix : Int} {r : UInt64} (hb : ib - ia ≤ 32) (h : Deg ia ib ix r) : DB 1064 0 1024 r := by
  rcases h with ⟨_, rfl⟩ | ⟨_, _, rfl⟩ | ⟨h1, h2, h⟩
  · exact one_k.wide (by decide) (by decide)
  · exact (zero_e 1064).wide (by decide) (by decide)
  · exact (mid_b hb h1 h2 h).wide (by decide) (by decide)
theorem Deg.lo {ia ib ix : Int} {r : UInt64} (hb : ib - ia ≤ 32) (h : Deg ia ib ix r) : ¬ zv r < zv FP.dconst0 := by
  have := (h.b hb).2.1; rw [(zero_e 1064).eq]; omega
theorem Deg.hi {ia ib ix : Int} {r : UInt64} (hb : ib - ia ≤ 32) (h : Deg ia ib ix r) : zv r ≤ zv FP.dconst1 := by
  have := (h.b hb).2.2; rw [one_k.eq]; omega
theorem Deg.mono {ia ib ix iy : Int} {r1 r2 : UInt64} (hb : ib - ia ≤ 32) (h1 : Deg ia ib ix r1) (h2 : Deg ia ib iy r2) (hxy : ix ≤ iy) : zv r2 ≤ zv r1 := by
  have d1 := h1.b hb
  have d2 := h2.b hb
  have o := one_k.eq
  have z := (zero_e 1064).eq
  rcases h1 with ⟨_, rfl⟩ | ⟨a1, a2, rfl⟩ | ⟨a1, a2, y1, z1, rfl, hy1, hz1⟩
  · have := d2.2.2; omega
  · rcases h2 with ⟨_, rfl⟩ | ⟨c1, c2, rfl⟩ | ⟨c1, c2, _⟩
    · omega
    · omega
    · omega
  · rcases h2 with ⟨_, rfl⟩ | ⟨c1, c2, rfl⟩ | ⟨c1, c2, y2, z2, rfl, hy2, hz2⟩
    · omega
    · have := d1.2.1; omega
    · by_cases e : ix = iy
      · subst e
        obtain rfl := DE.uniq hy1 hy2 (by omega)
        obtain rfl := DE.uniq hz1 hz2 (by omega)
        exact Int.le_refl _
      · obtain ⟨n, hn⟩ : ∃ n, ib - ia = n := ⟨_, rfl⟩
        obtain ⟨i, hi⟩ : ∃ n, ib - ix = n := ⟨_, rfl⟩
        obtain ⟨j, hj⟩ : ∃ n, ib - iy = n := ⟨_, rfl⟩
        rw [hn] at hz1 hz2
        rw [hi] at hy1
        rw [hj] at hy2
        have q1 := Int.mul_ediv_add_emod (i * 1024) n
        have q2 := Int.emod_nonneg (i * 1024) (show n ≠ 0 by omega)
        have q3 := Int.emod_lt_of_pos (i * 1024) (show 0 < n by omega)
        obtain ⟨w, hw⟩ : ∃ w, i * 1024 / n = w := ⟨_, rfl⟩
        rw [hw, Int.mul_comm] at q1
        have w0 : 0 ≤ w := by rw [← hw]; exact Int.ediv_nonneg (by omega) (by omega)
        have w1 : w < 1024 := by
          rw [← hw]; exact Int.ediv_lt_of_lt_mul (by omega) (by omega)
        have g1 := grid (lo := w) (hi := 1024) hy1 hz1 (by omega) (by omega) (by omega) (by omega) (by decide)
        have g2 := grid (lo := 0) (hi := w) hy2 hz2 (by omega) (by omega) (by omega) (by decide) (by omega)
        exact Int.le_trans g2.2.2 g1.2.1
end Jvm.Pilot.@@N@@.Own
namespace Jvm.Pilot.@@N@@
open Jvm Jvm.ClassFile Sem Op Lib Jvm.Free Jvm.Stand Jvm.LawKit Jvm.RoadKit Bundle Jvm.Pilot.@@N@@.Jvm.D Jvm.Pilot.@@N@@.Own
theorem pd_0 : parseMethodDescriptor "()V" = some ⟨[], none⟩ := by decide +kernel
theorem pd_1 : parseMethodDescriptor "(Ljava/lang/String;DD)V" = some ⟨[(.object "java/lang/String"), .double, .double], none⟩ := by decide +kernel
theorem pd_2 : parseMethodDescriptor "(D)D" = some ⟨[.double], some .double⟩ := by decide +kernel
theorem pd_3 : parseMethodDescriptor "(JJJD)Z" = some ⟨[.long, .long, .long, .double], some .boolean⟩ := by decide +kernel
theorem d1_0 : decode jdk_30_method_1_code 0 = .ok (.aload_n 0, 1) := by decide +kernel
theorem d1_1 : decode jdk_30_method_1_code 1 = .ok (.invokespecial 1, 3) := by decide +kernel
theorem d1_4 : decode jdk_30_method_1_code 4 = .ok (.return_, 1) := by decide +kernel
theorem pn_1 : plainName "java/lang/Record" = true := by first | (simp [plainName, overriddenIn]; done) | decide +kernel
theorem ef_1 (m : MethodId) (x0 : Addr) : entryFrame m #[(.ref x0)] 1 = mkF m 0 #[.val (.ref x0)] [] := by first | (simp [entryFrame, mkF, argsToLocals, Value.category]; done) | rfl
def Q1 (Z : State) (a : Addr) (h0 : Heap) (n0 : Nat) (v : Option Value) (h : Heap) (L : List Loc) : Prop := v = none ∧ Fr n0 L ∧ h = h0
set_option maxRecDepth 65536 in
set_option maxHeartbeats 40000000 in
theorem rm1 (l : Launch) (Z : State) (a0 : Array Value) (hw : ∀ d ∈ tables_1, d.before a0 Z = true) (ws : List Jvm.Cond) (a : Addr) (h0 : Heap) (n0 : Nat) (Z0 : n0 ≤ h0.size) :
    MetFree l (⟨"java/lang/Record", "<init>", "()V"⟩ : MethodName) (head1 (Jvm.Cond.code (⟨"java/lang/Record", "<init>", "()V"⟩ : MethodName) jdk_30_method_1_code 1 none :: ws) ({ frames := 1, cells := 0, slots := 0, locals := 12 } : Room)) (fun a_ U => a_ = #[(.ref a)] ∧ Z.Warmed39 U.vm ∧ U.heap = h0) (fun _ _ _ _ _ => True) (fun _ U o U' => ∃ v L, o = .returned v ∧ Q1 Z a h0 n0 v U'.heap L ∧ FrameEnd U o U' L (({ frames := 1, cells := 0, slots := 0, locals := 12 } : Room)).cells (({ frames := 1, cells := 0, slots := 0, locals := 12 } : Room)).slots) := by
  refine MetFree.of_bodySF (plainFor_of_name pn_1) hisR ?_
  intro p e s m args below meth c s₁ Bd hml0 hP0 hK
  obtain ⟨rfl, hZ, hh⟩ := hP0
  have hx := Bd.exec
  have hby := Bd.bytes
  have hml : c.maxLocals = 1 := hml0
  have hown : s.vm.findClass "java/lang/Record" = some m.cls := findClass_of_methodNamed Bd.named
  have hnm := (name_of_methodNamed Bd.named Bd.method).1
  have X0 : Stand p l e ({ frames := 1, cells := 0, slots := 0, locals := 12 } : Room) s m #[(.ref a)] below meth c s₁ [] 0 0 := Stand.of_body Bd
  have e0 : s₁.heap = h0 := by rw [← hh, Bd.state]; rfl
  have N0 := Fr.nil n0
  have hlk : meth.locks = false := BodyLoose.notSynchronized Bd
  refine Go.start (P₀ := fun s₂ o => ∃ v L, o = .returned v ∧ Q1 Z a h0 n0 v s₂.heap L ∧ FrameEnd s o s₂ L (({ frames := 1, cells := 0, slots := 0, locals := 12 } : Room)).cells (({ frames := 1, cells := 0, slots := 0, locals := 12 } : Room)).slots) (congrArg s₁.setTop (ef_1 m a)) ?_
  intro P hP
  show Go p.tables e below P (s₁.setTop (mkF m 0 #[.val (.ref a)] []))
  refine Go.step (fun t k => XS.aloadN X0.here hx rfl (hb hby d1_0) rfl rfl k) ?_
  show Go p.tables e below P (s₁.setTop (mkF m 1 #[.val (.ref a)] [(.ref a)]))
  obtain ⟨T_1, X_1, e_1, st_1⟩ := initO X0 hx hZ hown (hw _ (List.mem_of_getElem? (i := 19) rfl)) (hw _ (List.mem_of_getElem? (i := 20) rfl)) (hw _ (List.mem_of_getElem? (i := 21) rfl)) e0 (g := (mkF m 1 #[.val (.ref a)] [(.ref a)])) rfl (by rw [hml]; rfl) rfl (hb hby d1_1) (by decide) (W := 0) (by show 2 * 0 + _ ≤ _; exact Nat.le_of_eq rfl) (by decide)
  refine Go.step (fun t k => st_1 t k) ?_
  show Go p.tables e below P (T_1.setTop (mkF m 4 #[.val (.ref a)] []))
  exact voidGo X_1 hx hP Bd.returns hlk (hb hby d1_4) (by decide) (by decide) (by rw [e_1]; exact ⟨rfl, N0, rfl⟩)
theorem d4_0 : decode prog_15_method_1_code 0 = .ok (.aload_n 0, 1) := by decide +kernel
theorem d4_1 : decode prog_15_method_1_code 1 = .ok (.invokespecial 1, 3) := by decide +kernel
theorem d4_4 : decode prog_15_method_1_code 4 = .ok (.aload_n 0, 1) := by decide +kernel
theorem d4_5 : decode prog_15_method_1_code 5 = .ok (.aload_n 1, 1) := by decide +kernel
theorem d4_6 : decode prog_15_method_1_code 6 = .ok (.putfield 7, 3) := by decide +kernel
theorem d4_9 : decode prog_15_method_1_code 9 = .ok (.aload_n 0, 1) := by decide +kernel
theorem d4_10 : decode prog_15_method_1_code 10 = .ok (.dload_n 2, 1) := by decide +kernel
theorem d4_11 : decode prog_15_method_1_code 11 = .ok (.putfield 13, 3) := by decide +kernel
theorem d4_14 : decode prog_15_method_1_code 14 = .ok (.aload_n 0, 1) := by decide +kernel
theorem d4_15 : decode prog_15_method_1_code 15 = .ok (.dload 4, 2) := by decide +kernel
theorem d4_17 : decode prog_15_method_1_code 17 = .ok (.putfield 17, 3) := by decide +kernel
theorem d4_20 : decode prog_15_method_1_code 20 = .ok (.return_, 1) := by decide +kernel
theorem pn_4 : plainName "com/example/orabona/orabona/model/FuzzySet$LeftShoulder" = true := by first | (simp [plainName, overriddenIn]; done) | decide +kernel
theorem ef_4 (m : MethodId) (x0 : Addr) (x1 : Addr) (x2 : UInt64) (x3 : UInt64) : entryFrame m #[(.ref x0), (.ref x1), (.double x2), (.double x3)] 6 = mkF m 0 #[.val (.ref x0), .val (.ref x1), .val (.double x2), .second, .val (.double x3), .second] [] := by first | (simp [entryFrame, mkF, argsToLocals, Value.category]; done) | rfl
def Q4 (Z : State) (a : Addr) (nm1 : Addr) (ba : UInt64) (bb : UInt64) (h0 : Heap) (n0 : Nat) (v : Option Value) (h : Heap) (L : List Loc) : Prop := v = none ∧ Fr n0 L ∧ Keep h0 h [a] ∧ Exa Z h a "com/example/orabona/orabona/model/FuzzySet$LeftShoulder" ∧ Fld Z h a "com/example/orabona/orabona/model/FuzzySet$LeftShoulder" "name" "Ljava/lang/String;" (.ref nm1) ∧ Fld Z h a "com/example/orabona/orabona/model/FuzzySet$LeftShoulder" "a" "D" (.double ba) ∧ Fld Z h a "com/example/orabona/orabona/model/FuzzySet$LeftShoulder" "b" "D" (.double bb)
set_option maxRecDepth 65536 in
set_option maxHeartbeats 40000000 in
theorem rm4 (l : Launch) (Z : State) (a0 : Array Value) (hw : ∀ d ∈ tables_1, d.before a0 Z = true) (ws : List Jvm.Cond) (a : Addr) (nm1 : Addr) (ba : UInt64) (bb : UInt64) (h0 : Heap) (n0 : Nat) (Z0 : n0 ≤ h0.size) (E_a : Exa Z h0 a "com/example/orabona/orabona/model/FuzzySet$LeftShoulder") (F0 : Fld Z h0 a "com/example/orabona/orabona/model/FuzzySet$LeftShoulder" "name" "Ljava/lang/String;" .null) (F1 : Fld Z h0 a "com/example/orabona/orabona/model/FuzzySet$LeftShoulder" "a" "D" (.double (0 : UInt64))) (F2 : Fld Z h0 a "com/example/orabona/orabona/model/FuzzySet$LeftShoulder" "b" "D" (.double (0 : UInt64))) (g_a : n0 ≤ a) :
    MetFree l (⟨"com/example/orabona/orabona/model/FuzzySet$LeftShoulder", "<init>", "(Ljava/lang/String;DD)V"⟩ : MethodName) (head1 (Jvm.Cond.code (⟨"com/example/orabona/orabona/model/FuzzySet$LeftShoulder", "<init>", "(Ljava/lang/String;DD)V"⟩ : MethodName) prog_15_method_1_code 6 none :: ws) ({ frames := 2, cells := 0, slots := 0, locals := 24 } : Room)) (fun a_ U => a_ = #[(.ref a), (.ref nm1), (.double ba), (.double bb)] ∧ Z.Warmed39 U.vm ∧ U.heap = h0) (fun _ _ _ _ _ => True) (fun _ U o U' => ∃ v L, o = .returned v ∧ Q4 Z a nm1 ba bb h0 n0 v U'.heap L ∧ FrameEnd U o U' L (({ frames := 2, cells := 0, slots := 0, locals := 24 } : Room)).cells (({ frames := 2, cells := 0, slots := 0, locals := 24 } : Room)).slots) := by
  refine MetFree.of_bodySF (plainFor_of_name pn_4) hisR ?_
  intro p e s m args below meth c s₁ Bd hml0 hP0 hK
  obtain ⟨rfl, hZ, hh⟩ := hP0
  have hx := Bd.exec
  have hby := Bd.bytes
  have hml : c.maxLocals = 6 := hml0
  have hown : s.vm.findClass "com/example/orabona/orabona/model/FuzzySet$LeftShoulder" = some m.cls := findClass_of_methodNamed Bd.named
  have hnm := (name_of_methodNamed Bd.named Bd.method).1
  have X0 : Stand p l e ({ frames := 2, cells := 0, slots := 0, locals := 24 } : Room) s m #[(.ref a), (.ref nm1), (.double ba), (.double bb)] below meth c s₁ [] 0 0 := Stand.of_body Bd
  have e0 : s₁.heap = h0 := by rw [← hh, Bd.state]; rfl
  have N0 := Fr.nil n0
  have hlk : meth.locks = false := BodyLoose.notSynchronized Bd
  refine Go.start (P₀ := fun s₂ o => ∃ v L, o = .returned v ∧ Q4 Z a nm1 ba bb h0 n0 v s₂.heap L ∧ FrameEnd s o s₂ L (({ frames := 2, cells := 0, slots := 0, locals := 24 } : Room)).cells (({ frames := 2, cells := 0, slots := 0, locals := 24 } : Room)).slots) (congrArg s₁.setTop (ef_4 m a nm1 ba bb)) ?_
  intro P hP
  show Go p.tables e below P (s₁.setTop (mkF m 0 #[.val (.ref a), .val (.ref nm1), .val (.double ba), .second, .val (.double bb), .second] []))
  refine Go.step (fun t k => XS.aloadN X0.here hx rfl (hb hby d4_0) rfl rfl k) ?_
  show Go p.tables e below P (s₁.setTop (mkF m 1 #[.val (.ref a), .val (.ref nm1), .val (.double ba), .second, .val (.double bb), .second] [(.ref a)]))
  obtain ⟨_, _, ⟨T_1, L_1, k_1, n_1⟩, -, X_1, ⟨Lc_1, hQ_1, l_1, y_1, z_1⟩, st_1⟩ := X0.specialBack hx (y := (⟨"java/lang/Record", "<init>", "()V"⟩ : MethodName)) rfl hown (mvT hZ (hw _ (List.mem_of_getElem? (i := 14) rfl))) (mvT hZ (hw _ (List.mem_of_getElem? (i := 15) rfl))) (mvT hZ (hw _ (List.mem_of_getElem? (i := 18) rfl))) (by decide) (backOf (W := 0) (rm1 l Z a0 hw [] a h0 n0 Z0 ) hZ (hw _ (List.mem_of_getElem? (i := 18) rfl)) (hw _ (List.mem_of_getElem? (i := 17) rfl)) (by decide) (by decide)) (g := (mkF m 1 #[.val (.ref a), .val (.ref nm1), .val (.double ba), .second, .val (.double bb), .second] [(.ref a)])) rfl (by rw [hml]; rfl) (Steps.refl _) (a := a) (argsL := []) (rest := []) (lenOf pd_0 rfl) rfl (by show 2 * 0 + _ ≤ _; exact Nat.le_of_eq rfl) (hb hby d4_1) (fun _ _ => ⟨rfl, e0, (by decide : 0 + 0 ≤ _), (by decide : 0 + 0 ≤ _)⟩)
  dsimp only [Pt.U, Pt.locs, Pt.cells, Pt.slots] at X_1 l_1 y_1 z_1 st_1 hQ_1
  subst l_1 y_1 z_1
  obtain ⟨rfl, N_1q, eh_1⟩ := hQ_1
  have N_1 := Fr.app N0 N_1q
  refine Go.tr st_1 ?_
  show Go p.tables e below P (T_1.setTop (mkF m 4 #[.val (.ref a), .val (.ref nm1), .val (.double ba), .second, .val (.double bb), .second] []))
  refine Go.step (fun t k => XS.aloadN X_1.here hx rfl (hb hby d4_4) rfl rfl k) ?_
  show Go p.tables e below P (T_1.setTop (mkF m 5 #[.val (.ref a), .val (.ref nm1), .val (.double ba), .second, .val (.double bb), .second] [(.ref a)]))
  refine Go.step (fun t k => XS.aloadN X_1.here hx rfl (hb hby d4_5) rfl rfl k) ?_
  show Go p.tables e below P (T_1.setTop (mkF m 6 #[.val (.ref a), .val (.ref nm1), .val (.double ba), .second, .val (.double bb), .second] [(.ref nm1), (.ref a)]))
  obtain ⟨T_2, h_2, X_2, e_2, W_2, st_2⟩ := putF X_1 hx hZ hown (host := "") (Or.inl (hw _ (List.mem_of_getElem? (i := 22) rfl))) Via.refl eh_1 F0 E_a (Or.inr ⟨(hw _ (List.mem_of_getElem? (i := 23) rfl)), rfl, hnm⟩) (hw _ (List.mem_of_getElem? (i := 1) rfl)) (ty := (.object "java/lang/String")) (by decide) rfl rfl (g := (mkF m 6 #[.val (.ref a), .val (.ref nm1), .val (.double ba), .second, .val (.double bb), .second] [(.ref nm1), (.ref a)])) rfl rfl (hb hby d4_6)
  have Fw_2 := F0.same W_2
  have N_2 := Fr.snoc X_2 N_1 g_a
  have K_2 : Keep h0 h_2 [a] := (Keep.refl h0 [a]).wr W_2 (Or.inl (List.mem_of_getElem? (i := 0) rfl))
  have Z_2 : n0 ≤ h_2.size := Nat.le_trans Z0 (Keep.of_wr W_2).1
  refine Go.step (fun t k => st_2 t k) ?_
  show Go p.tables e below P (T_2.setTop (mkF m 9 #[.val (.ref a), .val (.ref nm1), .val (.double ba), .second, .val (.double bb), .second] []))
  refine Go.step (fun t k => XS.aloadN X_2.here hx rfl (hb hby d4_9) rfl rfl k) ?_
  show Go p.tables e below P (T_2.setTop (mkF m 10 #[.val (.ref a), .val (.ref nm1), .val (.double ba), .second, .val (.double bb), .second] [(.ref a)]))
  refine Go.step (fun t k => XS.dloadN X_2.here hx rfl (hb hby d4_10) rfl  k) ?_
  show Go p.tables e below P (T_2.setTop (mkF m 11 #[.val (.ref a), .val (.ref nm1), .val (.double ba), .second, .val (.double bb), .second] [(.double ba), (.ref a)]))
  obtain ⟨T_3, h_3, X_3, e_3, W_3, st_3⟩ := putF X_2 hx hZ hown (host := "") (Or.inl (hw _ (List.mem_of_getElem? (i := 24) rfl))) Via.refl e_2 (F1.other W_2 (Or.inr (slot_ne (Or.inr (hw _ (List.mem_of_getElem? (i := 25) rfl))) (Or.inr (hw _ (List.mem_of_getElem? (i := 23) rfl))) (by decide) (t := .double) (t' := (.object "java/lang/String")) (by decide) (by decide)))) (E_a.wr W_2) (Or.inr ⟨(hw _ (List.mem_of_getElem? (i := 25) rfl)), rfl, hnm⟩) (hw _ (List.mem_of_getElem? (i := 1) rfl)) (ty := .double) (by decide) rfl rfl (g := (mkF m 11 #[.val (.ref a), .val (.ref nm1), .val (.double ba), .second, .val (.double bb), .second] [(.double ba), (.ref a)])) rfl rfl (hb hby d4_11)
  have Fw_3 := (F1.other W_2 (Or.inr (slot_ne (Or.inr (hw _ (List.mem_of_getElem? (i := 25) rfl))) (Or.inr (hw _ (List.mem_of_getElem? (i := 23) rfl))) (by decide) (t := .double) (t' := (.object "java/lang/String")) (by decide) (by decide)))).same W_3
  have N_3 := Fr.snoc X_3 N_2 g_a
  have K_3 : Keep h0 h_3 [a] := K_2.wr W_3 (Or.inl (List.mem_of_getElem? (i := 0) rfl))
  have Z_3 : n0 ≤ h_3.size := Nat.le_trans Z_2 (Keep.of_wr W_3).1
  refine Go.step (fun t k => st_3 t k) ?_
  show Go p.tables e below P (T_3.setTop (mkF m 14 #[.val (.ref a), .val (.ref nm1), .val (.double ba), .second, .val (.double bb), .second] []))
  refine Go.step (fun t k => XS.aloadN X_3.here hx rfl (hb hby d4_14) rfl rfl k) ?_
  show Go p.tables e below P (T_3.setTop (mkF m 15 #[.val (.ref a), .val (.ref nm1), .val (.double ba), .second, .val (.double bb), .second] [(.ref a)]))
  refine Go.step (fun t k => XS.dload X_3.here hx rfl (hb hby d4_15) rfl  k) ?_
  show Go p.tables e below P (T_3.setTop (mkF m 17 #[.val (.ref a), .val (.ref nm1), .val (.double ba), .second, .val (.double bb), .second] [(.double bb), (.ref a)]))
  obtain ⟨T_4, h_4, X_4, e_4, W_4, st_4⟩ := putF X_3 hx hZ hown (host := "") (Or.inl (hw _ (List.mem_of_getElem? (i := 26) rfl))) Via.refl e_3 ((F2.other W_2 (Or.inr (slot_ne (Or.inr (hw _ (List.mem_of_getElem? (i := 27) rfl))) (Or.inr (hw _ (List.mem_of_getElem? (i := 23) rfl))) (by decide) (t := .double) (t' := (.object "java/lang/String")) (by decide) (by decide)))).other W_3 (Or.inr (slot_ne (Or.inr (hw _ (List.mem_of_getElem? (i := 27) rfl))) (Or.inr (hw _ (List.mem_of_getElem? (i := 25) rfl))) (by decide) (t := .double) (t' := .double) (by decide) (by decide)))) ((E_a.wr W_2).wr W_3) (Or.inr ⟨(hw _ (List.mem_of_getElem? (i := 27) rfl)), rfl, hnm⟩) (hw _ (List.mem_of_getElem? (i := 1) rfl)) (ty := .double) (by decide) rfl rfl (g := (mkF m 17 #[.val (.ref a), .val (.ref nm1), .val (.double ba), .second, .val (.double bb), .second] [(.double bb), (.ref a)])) rfl rfl (hb hby d4_17)
  have Fw_4 := ((F2.other W_2 (Or.inr (slot_ne (Or.inr (hw _ (List.mem_of_getElem? (i := 27) rfl))) (Or.inr (hw _ (List.mem_of_getElem? (i := 23) rfl))) (by decide) (t := .double) (t' := (.object "java/lang/String")) (by decide) (by decide)))).other W_3 (Or.inr (slot_ne (Or.inr (hw _ (List.mem_of_getElem? (i := 27) rfl))) (Or.inr (hw _ (List.mem_of_getElem? (i := 25) rfl))) (by decide) (t := .double) (t' := .double) (by decide) (by decide)))).same W_4
  have N_4 := Fr.snoc X_4 N_3 g_a
  have K_4 : Keep h0 h_4 [a] := K_3.wr W_4 (Or.inl (List.mem_of_getElem? (i := 0) rfl))
  have Z_4 : n0 ≤ h_4.size := Nat.le_trans Z_3 (Keep.of_wr W_4).1
  refine Go.step (fun t k => st_4 t k) ?_
  show Go p.tables e below P (T_4.setTop (mkF m 20 #[.val (.ref a), .val (.ref nm1), .val (.double ba), .second, .val (.double bb), .second] []))
  exact voidGo X_4 hx hP Bd.returns hlk (hb hby d4_20) (by decide) (by decide) (by rw [e_4]; exact ⟨rfl, N_4, K_4, (((E_a.wr W_2).wr W_3).wr W_4), ((Fw_2.other W_3 (Or.inr (slot_ne (Or.inr (hw _ (List.mem_of_getElem? (i := 23) rfl))) (Or.inr (hw _ (List.mem_of_getElem? (i := 25) rfl))) (by decide) (t := (.object "java/lang/String")) (t' := .double) (by decide) (by decide)))).other W_4 (Or.inr (slot_ne (Or.inr (hw _ (List.mem_of_getElem? (i := 23) rfl))) (Or.inr (hw _ (List.mem_of_getElem? (i := 27) rfl))) (by decide) (t := (.object "java/lang/String")) (t' := .double) (by decide) (by decide)))), (Fw_3.other W_4 (Or.inr (slot_ne (Or.inr (hw _ (List.mem_of_getElem? (i := 25) rfl))) (Or.inr (hw _ (List.mem_of_getElem? (i := 27) rfl))) (by decide) (t := .double) (t' := .double) (by decide) (by decide)))), Fw_4⟩)
theorem d5_0 : decode prog_15_method_2_code 0 = .ok (.dload_n 1, 1) := by decide +kernel
theorem d5_1 : decode prog_15_method_2_code 1 = .ok (.aload_n 0, 1) := by decide +kernel
theorem d5_2 : decode prog_15_method_2_code 2 = .ok (.getfield 13, 3) := by decide +kernel
theorem d5_5 : decode prog_15_method_2_code 5 = .ok (.dcmp .g, 1) := by decide +kernel
theorem d5_6 : decode prog_15_method_2_code 6 = .ok (.ifCond .gt 5, 3) := by decide +kernel
theorem d5_9 : decode prog_15_method_2_code 9 = .ok (.dconst 1, 1) := by decide +kernel
theorem d5_10 : decode prog_15_method_2_code 10 = .ok (.dreturn, 1) := by decide +kernel
theorem d5_11 : decode prog_15_method_2_code 11 = .ok (.dload_n 1, 1) := by decide +kernel
theorem d5_12 : decode prog_15_method_2_code 12 = .ok (.aload_n 0, 1) := by decide +kernel
theorem d5_13 : decode prog_15_method_2_code 13 = .ok (.getfield 17, 3) := by decide +kernel
theorem d5_16 : decode prog_15_method_2_code 16 = .ok (.dcmp .l, 1) := by decide +kernel
theorem d5_17 : decode prog_15_method_2_code 17 = .ok (.ifCond .lt 7, 3) := by decide +kernel
theorem d5_20 : decode prog_15_method_2_code 20 = .ok (.dconst 0, 1) := by decide +kernel
theorem d5_21 : decode prog_15_method_2_code 21 = .ok (.goto 19, 3) := by decide +kernel
theorem d5_24 : decode prog_15_method_2_code 24 = .ok (.aload_n 0, 1) := by decide +kernel
theorem d5_25 : decode prog_15_method_2_code 25 = .ok (.getfield 17, 3) := by decide +kernel
theorem d5_28 : decode prog_15_method_2_code 28 = .ok (.dload_n 1, 1) := by decide +kernel
theorem d5_29 : decode prog_15_method_2_code 29 = .ok (.dsub, 1) := by decide +kernel
theorem d5_30 : decode prog_15_method_2_code 30 = .ok (.aload_n 0, 1) := by decide +kernel
theorem d5_31 : decode prog_15_method_2_code 31 = .ok (.getfield 17, 3) := by decide +kernel
theorem d5_34 : decode prog_15_method_2_code 34 = .ok (.aload_n 0, 1) := by decide +kernel
theorem d5_35 : decode prog_15_method_2_code 35 = .ok (.getfield 13, 3) := by decide +kernel
theorem d5_38 : decode prog_15_method_2_code 38 = .ok (.dsub, 1) := by decide +kernel
theorem d5_39 : decode prog_15_method_2_code 39 = .ok (.ddiv, 1) := by decide +kernel
theorem d5_40 : decode prog_15_method_2_code 40 = .ok (.dreturn, 1) := by decide +kernel
theorem pn_5 : plainName "com/example/orabona/orabona/model/FuzzySet$LeftShoulder" = true := by first | (simp [plainName, overriddenIn]; done) | decide +kernel
theorem ef_5 (m : MethodId) (x0 : Addr) (x1 : UInt64) : entryFrame m #[(.ref x0), (.double x1)] 3 = mkF m 0 #[.val (.ref x0), .val (.double x1), .second] [] := by first | (simp [entryFrame, mkF, argsToLocals, Value.category]; done) | rfl
def Q5 (Z : State) (a : Addr) (xd : UInt64) (da : UInt64) (db : UInt64) (ia : Int) (ib : Int) (ix : Int) (h0 : Heap) (n0 : Nat) (v : Option Value) (h : Heap) (L : List Loc) : Prop := ∃ r : UInt64, v = some (.double r) ∧ Deg ia ib ix r ∧ Fr n0 L ∧ h = h0
set_option maxRecDepth 65536 in
set_option maxHeartbeats 40000000 in
theorem rm5 (l : Launch) (Z : State) (a0 : Array Value) (hw : ∀ d ∈ tables_1, d.before a0 Z = true) (ws : List Jvm.Cond) (a : Addr) (xd : UInt64) (da : UInt64) (db : UInt64) (ia : Int) (ib : Int) (ix : Int) (h0 : Heap) (n0 : Nat) (Z0 : n0 ≤ h0.size) (F0 : Fld Z h0 a "com/example/orabona/orabona/model/FuzzySet$LeftShoulder" "a" "D" (.double da)) (F1 : Fld Z h0 a "com/example/orabona/orabona/model/FuzzySet$LeftShoulder" "b" "D" (.double db)) (qia : DE 1074 ia da) (qib : DE 1074 ib db) (qix : DE 1074 ix xd) (bia : -2147483648 ≤ ia ∧ ia ≤ 2147483647) (bib : -2147483680 ≤ ib ∧ ib ≤ 2147483680) (bix : -2147483700 ≤ ix ∧ ix ≤ 2147483700) (bab : ib - ia ≤ 32) :
    MetFree l (⟨"com/example/orabona/orabona/model/FuzzySet$LeftShoulder", "degree", "(D)D"⟩ : MethodName) (head1 (Jvm.Cond.code (⟨"com/example/orabona/orabona/model/FuzzySet$LeftShoulder", "degree", "(D)D"⟩ : MethodName) prog_15_method_2_code 3 (some .double) :: ws) ({ frames := 0, cells := 0, slots := 0, locals := 0 } : Room)) (fun a_ U => a_ = #[(.ref a), (.double xd)] ∧ Z.Warmed39 U.vm ∧ U.heap = h0) (fun _ _ _ _ _ => True) (fun _ U o U' => ∃ v L, o = .returned v ∧ Q5 Z a xd da db ia ib ix h0 n0 v U'.heap L ∧ FrameEnd U o U' L (({ frames := 0, cells := 0, slots := 0, locals := 0 } : Room)).cells (({ frames := 0, cells := 0, slots := 0, locals := 0 } : Room)).slots) := by
  refine MetFree.of_bodySF (plainFor_of_name pn_5) hisR ?_
  intro p e s m args below meth c s₁ Bd hml0 hP0 hK
  obtain ⟨rfl, hZ, hh⟩ := hP0
  have hx := Bd.exec
  have hby := Bd.bytes
  have hml : c.maxLocals = 3 := hml0
  have hown : s.vm.findClass "com/example/orabona/orabona/model/FuzzySet$LeftShoulder" = some m.cls := findClass_of_methodNamed Bd.named
  have hnm := (name_of_methodNamed Bd.named Bd.method).1
  have X0 : Stand p l e ({ frames := 0, cells := 0, slots := 0, locals := 0 } : Room) s m #[(.ref a), (.double xd)] below meth c s₁ [] 0 0 := Stand.of_body Bd
  have e0 : s₁.heap = h0 := by rw [← hh, Bd.state]; rfl
  have N0 := Fr.nil n0
  have hlk : meth.locks = false := BodyLoose.notSynchronized Bd
  refine Go.start (P₀ := fun s₂ o => ∃ v L, o = .returned v ∧ Q5 Z a xd da db ia ib ix h0 n0 v s₂.heap L ∧ FrameEnd s o s₂ L (({ frames := 0, cells := 0, slots := 0, locals := 0 } : Room)).cells (({ frames := 0, cells := 0, slots := 0, locals := 0 } : Room)).slots) (congrArg s₁.setTop (ef_5 m a xd)) ?_
  intro P hP
  show Go p.tables e below P (s₁.setTop (mkF m 0 #[.val (.ref a), .val (.double xd), .second] []))
  refine Go.step (fun t k => XS.dloadN X0.here hx rfl (hb hby d5_0) rfl  k) ?_
  show Go p.tables e below P (s₁.setTop (mkF m 1 #[.val (.ref a), .val (.double xd), .second] [(.double xd)]))
  refine Go.step (fun t k => XS.aloadN X0.here hx rfl (hb hby d5_1) rfl rfl k) ?_
  show Go p.tables e below P (s₁.setTop (mkF m 2 #[.val (.ref a), .val (.double xd), .second] [(.ref a), (.double xd)]))
  obtain ⟨T_1, X_1, e_1, st_1⟩ := getF X0 hx hZ hown (host := "") (Or.inl (hw _ (List.mem_of_getElem? (i := 24) rfl))) Via.refl e0 F0 (g := (mkF m 2 #[.val (.ref a), .val (.double xd), .second] [(.ref a), (.double xd)])) rfl rfl (hb hby d5_2)
  refine Go.step (fun t k => st_1 t k) ?_
  show Go p.tables e below P (T_1.setTop (mkF m 5 #[.val (.ref a), .val (.double xd), .second] [(.double da), (.double xd)]))
  refine Go.step (fun t k => XS.dcmpS X_1.here hx rfl (hb hby d5_5) rfl rfl k) ?_
  show Go p.tables e below P (T_1.setTop (mkF m 6 #[.val (.ref a), .val (.double xd), .second] [(.int (cmpValue (FP.dcmp xd da) .g))]))
  by_cases hc6 : ia < ix
  · refine Go.step (fun t k => XS.ifYes X_1.here hx rfl (pc0 := 6) (pc' := 11) rfl (hb hby d5_6) rfl (dcY (cd := .gt) (DE.cmp qix qia) hc6) (by decide) (by decide) k) ?_
    show Go p.tables e below P (T_1.setTop (mkF m 11 #[.val (.ref a), .val (.double xd), .second] []))
    refine Go.step (fun t k => XS.dloadN X_1.here hx rfl (hb hby d5_11) rfl  k) ?_
    show Go p.tables e below P (T_1.setTop (mkF m 12 #[.val (.ref a), .val (.double xd), .second] [(.double xd)]))
    refine Go.step (fun t k => XS.aloadN X_1.here hx rfl (hb hby d5_12) rfl rfl k) ?_
    show Go p.tables e below P (T_1.setTop (mkF m 13 #[.val (.ref a), .val (.double xd), .second] [(.ref a), (.double xd)]))
    obtain ⟨T_2, X_2, e_2, st_2⟩ := getF X_1 hx hZ hown (host := "") (Or.inl (hw _ (List.mem_of_getElem? (i := 26) rfl))) Via.refl e_1 F1 (g := (mkF m 13 #[.val (.ref a), .val (.double xd), .second] [(.ref a), (.double xd)])) rfl rfl (hb hby d5_13)
    refine Go.step (fun t k => st_2 t k) ?_
    show Go p.tables e below P (T_2.setTop (mkF m 16 #[.val (.ref a), .val (.double xd), .second] [(.double db), (.double xd)]))
    refine Go.step (fun t k => XS.dcmpS X_2.here hx rfl (hb hby d5_16) rfl rfl k) ?_
    show Go p.tables e below P (T_2.setTop (mkF m 17 #[.val (.ref a), .val (.double xd), .second] [(.int (cmpValue (FP.dcmp xd db) .l))]))
    by_cases hc17 : ix < ib
    · refine Go.step (fun t k => XS.ifYes X_2.here hx rfl (pc0 := 17) (pc' := 24) rfl (hb hby d5_17) rfl (dcY (cd := .lt) (DE.cmp qix qib) hc17) (by decide) (by decide) k) ?_
      show Go p.tables e below P (T_2.setTop (mkF m 24 #[.val (.ref a), .val (.double xd), .second] []))
      refine Go.step (fun t k => XS.aloadN X_2.here hx rfl (hb hby d5_24) rfl rfl k) ?_
      show Go p.tables e below P (T_2.setTop (mkF m 25 #[.val (.ref a), .val (.double xd), .second] [(.ref a)]))
      obtain ⟨T_3, X_3, e_3, st_3⟩ := getF X_2 hx hZ hown (host := "") (Or.inl (hw _ (List.mem_of_getElem? (i := 26) rfl))) Via.refl e_2 F1 (g := (mkF m 25 #[.val (.ref a), .val (.double xd), .second] [(.ref a)])) rfl rfl (hb hby d5_25)
      refine Go.step (fun t k => st_3 t k) ?_
      show Go p.tables e below P (T_3.setTop (mkF m 28 #[.val (.ref a), .val (.double xd), .second] [(.double db)]))
      refine Go.step (fun t k => XS.dloadN X_3.here hx rfl (hb hby d5_28) rfl  k) ?_
      show Go p.tables e below P (T_3.setTop (mkF m 29 #[.val (.ref a), .val (.double xd), .second] [(.double xd), (.double db)]))
      obtain ⟨d29, hd29⟩ : ∃ z : UInt64, FP.dsub db xd = z := ⟨_, rfl⟩
      have q29 := sub_e (k := 1074) qib qix rfl (by omega) (by decide)
      rw [hd29] at q29
      refine Go.step (fun t k => XS.dsubS X_3.here hx rfl (hb hby d5_29) rfl (hd29 ▸ q29.nn) hd29 k) ?_
      show Go p.tables e below P (T_3.setTop (mkF m 30 #[.val (.ref a), .val (.double xd), .second] [(.double d29)]))
      refine Go.step (fun t k => XS.aloadN X_3.here hx rfl (hb hby d5_30) rfl rfl k) ?_
      show Go p.tables e below P (T_3.setTop (mkF m 31 #[.val (.ref a), .val (.double xd), .second] [(.ref a), (.double d29)]))
      obtain ⟨T_4, X_4, e_4, st_4⟩ := getF X_3 hx hZ hown (host := "") (Or.inl (hw _ (List.mem_of_getElem? (i := 26) rfl))) Via.refl e_3 F1 (g := (mkF m 31 #[.val (.ref a), .val (.double xd), .second] [(.ref a), (.double d29)])) rfl rfl (hb hby d5_31)
      refine Go.step (fun t k => st_4 t k) ?_
      show Go p.tables e below P (T_4.setTop (mkF m 34 #[.val (.ref a), .val (.double xd), .second] [(.double db), (.double d29)]))
      refine Go.step (fun t k => XS.aloadN X_4.here hx rfl (hb hby d5_34) rfl rfl k) ?_
      show Go p.tables e below P (T_4.setTop (mkF m 35 #[.val (.ref a), .val (.double xd), .second] [(.ref a), (.double db), (.double d29)]))
      obtain ⟨T_5, X_5, e_5, st_5⟩ := getF X_4 hx hZ hown (host := "") (Or.inl (hw _ (List.mem_of_getElem? (i := 24) rfl))) Via.refl e_4 F0 (g := (mkF m 35 #[.val (.ref a), .val (.double xd), .second] [(.ref a), (.double db), (.double d29)])) rfl rfl (hb hby d5_35)
      refine Go.step (fun t k => st_5 t k) ?_
      show Go p.tables e below P (T_5.setTop (mkF m 38 #[.val (.ref a), .val (.double xd), .second] [(.double da), (.double db), (.double d29)]))
      obtain ⟨d38, hd38⟩ : ∃ z : UInt64, FP.dsub db da = z := ⟨_, rfl⟩
      have q38 := sub_e (k := 1074) qib qia rfl (by omega) (by decide)
      rw [hd38] at q38
      refine Go.step (fun t k => XS.dsubS X_5.here hx rfl (hb hby d5_38) rfl (hd38 ▸ q38.nn) hd38 k) ?_
      show Go p.tables e below P (T_5.setTop (mkF m 39 #[.val (.ref a), .val (.double xd), .second] [(.double d38), (.double d29)]))
      obtain ⟨qt, hqt⟩ : ∃ z : UInt64, FP.ddiv d29 d38 = z := ⟨_, rfl⟩
      have hm : ∃ y z, qt = FP.ddiv y z ∧ DE 1074 (ib - ix) y ∧ DE 1074 (ib - ia) z := ⟨d29, d38, hqt.symm, q29, q38⟩
      refine Go.step (fun t k => XS.ddivS X_5.here hx rfl (hb hby d5_39) rfl (hqt ▸ (mid_b bab (by omega) (by omega) hm).nn) hqt k) ?_
      show Go p.tables e below P (T_5.setTop (mkF m 40 #[.val (.ref a), .val (.double xd), .second] [(.double qt)]))
      exact retGo X_5 hx hP Bd.returns hlk rfl (Or.inr (Or.inr (Or.inl ⟨rfl, rfl, _, rfl⟩))) (hb hby d5_40) (by decide) (by decide) (by rw [e_5]; exact ⟨qt, rfl, Or.inr (Or.inr ⟨by omega, by omega, hm⟩), N0, rfl⟩)
    · refine Go.step (fun t k => XS.ifNo X_2.here hx rfl (hb hby d5_17) rfl (dcN (cd := .lt) (DE.cmp qix qib) hc17) k) ?_
      show Go p.tables e below P (T_2.setTop (mkF m 20 #[.val (.ref a), .val (.double xd), .second] []))
      refine Go.step (fun t k => XS.dconst0 X_2.here hx rfl (hb hby d5_20) rfl k) ?_
      show Go p.tables e below P (T_2.setTop (mkF m 21 #[.val (.ref a), .val (.double xd), .second] [(.double FP.dconst0)]))
      refine Go.step (fun t k => XS.goto X_2.here hx rfl (pc0 := 21) (pc' := 40) rfl (hb hby d5_21) (by decide) (by decide) k) ?_
      show Go p.tables e below P (T_2.setTop (mkF m 40 #[.val (.ref a), .val (.double xd), .second] [(.double FP.dconst0)]))
      exact retGo X_2 hx hP Bd.returns hlk rfl (Or.inr (Or.inr (Or.inl ⟨rfl, rfl, _, rfl⟩))) (hb hby d5_40) (by decide) (by decide) (by rw [e_2]; exact ⟨FP.dconst0, rfl, Or.inr (Or.inl ⟨by omega, by omega, rfl⟩), N0, rfl⟩)
  · refine Go.step (fun t k => XS.ifNo X_1.here hx rfl (hb hby d5_6) rfl (dcN (cd := .gt) (DE.cmp qix qia) hc6) k) ?_
    show Go p.tables e below P (T_1.setTop (mkF m 9 #[.val (.ref a), .val (.double xd), .second] []))
    refine Go.step (fun t k => XS.dconst1 X_1.here hx rfl (hb hby d5_9) rfl k) ?_
    show Go p.tables e below P (T_1.setTop (mkF m 10 #[.val (.ref a), .val (.double xd), .second] [(.double FP.dconst1)]))
    exact retGo X_1 hx hP Bd.returns hlk rfl (Or.inr (Or.inr (Or.inl ⟨rfl, rfl, _, rfl⟩))) (hb hby d5_10) (by decide) (by decide) (by rw [e_1]; exact ⟨FP.dconst1, rfl, Or.inl ⟨by omega, rfl⟩, N0, rfl⟩)
theorem d6_0 : decode method_3_code 0 = .ok (.lload 4, 2) := by decide +kernel
theorem d6_2 : decode method_3_code 2 = .ok (.lload_n 0, 1) := by decide +kernel
theorem d6_3 : decode method_3_code 3 = .ok (.lcmp, 1) := by decide +kernel
theorem d6_4 : decode method_3_code 4 = .ok (.ifCond .gt 16, 3) := by decide +kernel
theorem d6_7 : decode method_3_code 7 = .ok (.dload 6, 2) := by decide +kernel
theorem d6_9 : decode method_3_code 9 = .ok (.dconst 1, 1) := by decide +kernel
theorem d6_10 : decode method_3_code 10 = .ok (.dcmp .l, 1) := by decide +kernel
theorem d6_11 : decode method_3_code 11 = .ok (.ifCond .ne 7, 3) := by decide +kernel
theorem d6_14 : decode method_3_code 14 = .ok (.iconst 1, 1) := by decide +kernel
theorem d6_15 : decode method_3_code 15 = .ok (.goto 4, 3) := by decide +kernel
theorem d6_19 : decode method_3_code 19 = .ok (.ireturn, 1) := by decide +kernel
theorem d6_20 : decode method_3_code 20 = .ok (.lload 4, 2) := by decide +kernel
theorem d6_22 : decode method_3_code 22 = .ok (.lload_n 2, 1) := by decide +kernel
theorem d6_23 : decode method_3_code 23 = .ok (.lcmp, 1) := by decide +kernel
theorem d6_24 : decode method_3_code 24 = .ok (.ifCond .lt 16, 3) := by decide +kernel
theorem d6_27 : decode method_3_code 27 = .ok (.dload 6, 2) := by decide +kernel
theorem d6_29 : decode method_3_code 29 = .ok (.dconst 0, 1) := by decide +kernel
theorem d6_30 : decode method_3_code 30 = .ok (.dcmp .l, 1) := by decide +kernel
theorem d6_31 : decode method_3_code 31 = .ok (.ifCond .ne 7, 3) := by decide +kernel
theorem d6_34 : decode method_3_code 34 = .ok (.iconst 1, 1) := by decide +kernel
theorem d6_35 : decode method_3_code 35 = .ok (.goto 4, 3) := by decide +kernel
theorem d6_39 : decode method_3_code 39 = .ok (.ireturn, 1) := by decide +kernel
theorem d6_40 : decode method_3_code 40 = .ok (.lload_n 2, 1) := by decide +kernel
theorem d6_41 : decode method_3_code 41 = .ok (.lload 4, 2) := by decide +kernel
theorem d6_43 : decode method_3_code 43 = .ok (.lsub, 1) := by decide +kernel
theorem d6_44 : decode method_3_code 44 = .ok (.l2d, 1) := by decide +kernel
theorem d6_45 : decode method_3_code 45 = .ok (.lload_n 2, 1) := by decide +kernel
theorem d6_46 : decode method_3_code 46 = .ok (.lload_n 0, 1) := by decide +kernel
theorem d6_47 : decode method_3_code 47 = .ok (.lsub, 1) := by decide +kernel
theorem d6_48 : decode method_3_code 48 = .ok (.l2d, 1) := by decide +kernel
theorem d6_49 : decode method_3_code 49 = .ok (.ddiv, 1) := by decide +kernel
theorem d6_50 : decode method_3_code 50 = .ok (.dstore 8, 2) := by decide +kernel
theorem d6_52 : decode method_3_code 52 = .ok (.dload 6, 2) := by decide +kernel
theorem d6_54 : decode method_3_code 54 = .ok (.dconst 0, 1) := by decide +kernel
theorem d6_55 : decode method_3_code 55 = .ok (.dcmp .l, 1) := by decide +kernel
theorem d6_56 : decode method_3_code 56 = .ok (.ifCond .le 22, 3) := by decide +kernel
theorem d6_59 : decode method_3_code 59 = .ok (.dload 6, 2) := by decide +kernel
theorem d6_61 : decode method_3_code 61 = .ok (.dconst 1, 1) := by decide +kernel
theorem d6_62 : decode method_3_code 62 = .ok (.dcmp .g, 1) := by decide +kernel
theorem d6_63 : decode method_3_code 63 = .ok (.ifCond .ge 15, 3) := by decide +kernel
theorem d6_66 : decode method_3_code 66 = .ok (.dload 6, 2) := by decide +kernel
theorem d6_68 : decode method_3_code 68 = .ok (.dload 8, 2) := by decide +kernel
theorem d6_70 : decode method_3_code 70 = .ok (.dcmp .l, 1) := by decide +kernel
theorem d6_71 : decode method_3_code 71 = .ok (.ifCond .ne 7, 3) := by decide +kernel
theorem d6_74 : decode method_3_code 74 = .ok (.iconst 1, 1) := by decide +kernel
theorem d6_75 : decode method_3_code 75 = .ok (.goto 4, 3) := by decide +kernel
theorem d6_79 : decode method_3_code 79 = .ok (.ireturn, 1) := by decide +kernel
theorem pn_6 : plainName "com/example/orabona/orabona/model/LeftShoulderDegreePinLaw" = true := by first | (simp [plainName, overriddenIn]; done) | decide +kernel
theorem ef_6 (m : MethodId) (x0 : Int64) (x1 : Int64) (x2 : Int64) (x3 : UInt64) : entryFrame m #[(.long x0), (.long x1), (.long x2), (.double x3)] 10 = mkF m 0 #[.val (.long x0), .second, .val (.long x1), .second, .val (.long x2), .second, .val (.double x3), .second, .unset, .unset] [] := by first | (simp [entryFrame, mkF, argsToLocals, Value.category]; done) | rfl
def Q6 (Z : State) (ja : Int64) (jb : Int64) (jx : Int64) (dg : UInt64) (h0 : Heap) (n0 : Nat) (v : Option Value) (h : Heap) (L : List Loc) : Prop := v = some (.int 1) ∧ Fr n0 L ∧ h = h0
set_option maxRecDepth 65536 in
set_option maxHeartbeats 40000000 in
theorem rm6 (l : Launch) (Z : State) (a0 : Array Value) (hw : ∀ d ∈ tables_1, d.before a0 Z = true) (ws : List Jvm.Cond) (ja : Int64) (jb : Int64) (jx : Int64) (dg : UInt64) (h0 : Heap) (n0 : Nat) (Z0 : n0 ≤ h0.size) (bia : -2147483648 ≤ ja.toInt ∧ ja.toInt ≤ 2147483647) (bib : -2147483680 ≤ jb.toInt ∧ jb.toInt ≤ 2147483680) (bix : -2147483700 ≤ jx.toInt ∧ jx.toInt ≤ 2147483700) (bab : jb.toInt - ja.toInt ≤ 32) (hdg : Deg ja.toInt jb.toInt jx.toInt dg) :
    MetFree l (⟨"com/example/orabona/orabona/model/LeftShoulderDegreePinLaw", "expected", "(JJJD)Z"⟩ : MethodName) (head1 (Jvm.Cond.code (⟨"com/example/orabona/orabona/model/LeftShoulderDegreePinLaw", "expected", "(JJJD)Z"⟩ : MethodName) method_3_code 10 (some .boolean) :: ws) ({ frames := 0, cells := 0, slots := 0, locals := 0 } : Room)) (fun a_ U => a_ = #[(.long ja), (.long jb), (.long jx), (.double dg)] ∧ Z.Warmed39 U.vm ∧ U.heap = h0) (fun _ _ _ _ _ => True) (fun _ U o U' => ∃ v L, o = .returned v ∧ Q6 Z ja jb jx dg h0 n0 v U'.heap L ∧ FrameEnd U o U' L (({ frames := 0, cells := 0, slots := 0, locals := 0 } : Room)).cells (({ frames := 0, cells := 0, slots := 0, locals := 0 } : Room)).slots) := by
  refine MetFree.of_bodySF (plainFor_of_name pn_6) hisR ?_
  intro p e s m args below meth c s₁ Bd hml0 hP0 hK
  obtain ⟨rfl, hZ, hh⟩ := hP0
  have hx := Bd.exec
  have hby := Bd.bytes
  have hml : c.maxLocals = 10 := hml0
  have hown : s.vm.findClass "com/example/orabona/orabona/model/LeftShoulderDegreePinLaw" = some m.cls := findClass_of_methodNamed Bd.named
  have hnm := (name_of_methodNamed Bd.named Bd.method).1
  have X0 : Stand p l e ({ frames := 0, cells := 0, slots := 0, locals := 0 } : Room) s m #[(.long ja), (.long jb), (.long jx), (.double dg)] below meth c s₁ [] 0 0 := Stand.of_body Bd
  have e0 : s₁.heap = h0 := by rw [← hh, Bd.state]; rfl
  have N0 := Fr.nil n0
  have hlk : meth.locks = false := BodyLoose.notSynchronized Bd
  refine Go.start (P₀ := fun s₂ o => ∃ v L, o = .returned v ∧ Q6 Z ja jb jx dg h0 n0 v s₂.heap L ∧ FrameEnd s o s₂ L (({ frames := 0, cells := 0, slots := 0, locals := 0 } : Room)).cells (({ frames := 0, cells := 0, slots := 0, locals := 0 } : Room)).slots) (congrArg s₁.setTop (ef_6 m ja jb jx dg)) ?_
  intro P hP
  show Go p.tables e below P (s₁.setTop (mkF m 0 #[.val (.long ja), .second, .val (.long jb), .second, .val (.long jx), .second, .val (.double dg), .second, .unset, .unset] []))
  refine Go.step (fun t k => XS.lload X0.here hx rfl (hb hby d6_0) rfl  k) ?_
  show Go p.tables e below P (s₁.setTop (mkF m 2 #[.val (.long ja), .second, .val (.long jb), .second, .val (.long jx), .second, .val (.double dg), .second, .unset, .unset] [(.long jx)]))
  refine Go.step (fun t k => XS.lloadN X0.here hx rfl (hb hby d6_2) rfl  k) ?_
  show Go p.tables e below P (s₁.setTop (mkF m 3 #[.val (.long ja), .second, .val (.long jb), .second, .val (.long jx), .second, .val (.double dg), .second, .unset, .unset] [(.long ja), (.long jx)]))
  refine Go.step (fun t k => XS.lcmp X0.here hx rfl (hb hby d6_3) rfl k) ?_
  show Go p.tables e below P (s₁.setTop (mkF m 4 #[.val (.long ja), .second, .val (.long jb), .second, .val (.long jx), .second, .val (.double dg), .second, .unset, .unset] [(.int (lcmpW jx ja))]))
  by_cases hc4 : ja.toInt < jx.toInt
  · refine Go.step (fun t k => XS.ifYes X0.here hx rfl (pc0 := 4) (pc' := 20) rfl (hb hby d6_4) rfl (lcY (cd := .gt) hc4) (by decide) (by decide) k) ?_
    show Go p.tables e below P (s₁.setTop (mkF m 20 #[.val (.long ja), .second, .val (.long jb), .second, .val (.long jx), .second, .val (.double dg), .second, .unset, .unset] []))
    refine Go.step (fun t k => XS.lload X0.here hx rfl (hb hby d6_20) rfl  k) ?_
    show Go p.tables e below P (s₁.setTop (mkF m 22 #[.val (.long ja), .second, .val (.long jb), .second, .val (.long jx), .second, .val (.double dg), .second, .unset, .unset] [(.long jx)]))
    refine Go.step (fun t k => XS.lloadN X0.here hx rfl (hb hby d6_22) rfl  k) ?_
    show Go p.tables e below P (s₁.setTop (mkF m 23 #[.val (.long ja), .second, .val (.long jb), .second, .val (.long jx), .second, .val (.double dg), .second, .unset, .unset] [(.long jb), (.long jx)]))
    refine Go.step (fun t k => XS.lcmp X0.here hx rfl (hb hby d6_23) rfl k) ?_
    show Go p.tables e below P (s₁.setTop (mkF m 24 #[.val (.long ja), .second, .val (.long jb), .second, .val (.long jx), .second, .val (.double dg), .second, .unset, .unset] [(.int (lcmpW jx jb))]))
    by_cases hc24 : jx.toInt < jb.toInt
    · refine Go.step (fun t k => XS.ifYes X0.here hx rfl (pc0 := 24) (pc' := 40) rfl (hb hby d6_24) rfl (lcY (cd := .lt) hc24) (by decide) (by decide) k) ?_
      show Go p.tables e below P (s₁.setTop (mkF m 40 #[.val (.long ja), .second, .val (.long jb), .second, .val (.long jx), .second, .val (.double dg), .second, .unset, .unset] []))
      have hm : ∃ y z, dg = FP.ddiv y z ∧ DE 1074 (jb.toInt - jx.toInt) y ∧ DE 1074 (jb.toInt - ja.toInt) z := by rcases hdg with ⟨h, _⟩ | ⟨_, h, _⟩ | ⟨_, _, h⟩; omega; omega; exact h
      have fr := mid_b bab (by omega) (by omega) hm
      obtain ⟨y, z, hdq, hy, hz⟩ := hm
      refine Go.step (fun t k => XS.lloadN X0.here hx rfl (hb hby d6_40) rfl  k) ?_
      show Go p.tables e below P (s₁.setTop (mkF m 41 #[.val (.long ja), .second, .val (.long jb), .second, .val (.long jx), .second, .val (.double dg), .second, .unset, .unset] [(.long jb)]))
      refine Go.step (fun t k => XS.lload X0.here hx rfl (hb hby d6_41) rfl  k) ?_
      show Go p.tables e below P (s₁.setTop (mkF m 43 #[.val (.long ja), .second, .val (.long jb), .second, .val (.long jx), .second, .val (.double dg), .second, .unset, .unset] [(.long jx), (.long jb)]))
      obtain ⟨j43, hj43⟩ : ∃ z : Int64, jb - jx = z := ⟨_, rfl⟩
      refine Go.step (fun t k => lsub_v X0.here hx rfl (hb hby d6_43) rfl  hj43 k) ?_
      show Go p.tables e below P (s₁.setTop (mkF m 44 #[.val (.long ja), .second, .val (.long jb), .second, .val (.long jx), .second, .val (.double dg), .second, .unset, .unset] [(.long j43)]))
      have f43 := c_lsub jb jx; rw [hj43] at f43
      have G43 := rng64 j43
      have v43 : j43.toInt = jb.toInt - jx.toInt := by omega
      obtain ⟨d44, hd44⟩ : ∃ z : UInt64, FP.l2d j43 = z := ⟨_, rfl⟩
      refine Go.step (fun t k => XS.l2dS X0.here hx rfl (hb hby d6_44) rfl hd44 k) ?_
      show Go p.tables e below P (s₁.setTop (mkF m 45 #[.val (.long ja), .second, .val (.long jb), .second, .val (.long jx), .second, .val (.double dg), .second, .unset, .unset] [(.double d44)]))
      have Q43 := l2d_e (x := j43) (by omega); rw [hd44, v43] at Q43
      refine Go.step (fun t k => XS.lloadN X0.here hx rfl (hb hby d6_45) rfl  k) ?_
      show Go p.tables e below P (s₁.setTop (mkF m 46 #[.val (.long ja), .second, .val (.long jb), .second, .val (.long jx), .second, .val (.double dg), .second, .unset, .unset] [(.long jb), (.double d44)]))
      refine Go.step (fun t k => XS.lloadN X0.here hx rfl (hb hby d6_46) rfl  k) ?_
      show Go p.tables e below P (s₁.setTop (mkF m 47 #[.val (.long ja), .second, .val (.long jb), .second, .val (.long jx), .second, .val (.double dg), .second, .unset, .unset] [(.long ja), (.long jb), (.double d44)]))
      obtain ⟨j47, hj47⟩ : ∃ z : Int64, jb - ja = z := ⟨_, rfl⟩
      refine Go.step (fun t k => lsub_v X0.here hx rfl (hb hby d6_47) rfl  hj47 k) ?_
      show Go p.tables e below P (s₁.setTop (mkF m 48 #[.val (.long ja), .second, .val (.long jb), .second, .val (.long jx), .second, .val (.double dg), .second, .unset, .unset] [(.long j47), (.double d44)]))
      have f47 := c_lsub jb ja; rw [hj47] at f47
      have G47 := rng64 j47
      have v47 : j47.toInt = jb.toInt - ja.toInt := by omega
      obtain ⟨d48, hd48⟩ : ∃ z : UInt64, FP.l2d j47 = z := ⟨_, rfl⟩
      refine Go.step (fun t k => XS.l2dS X0.here hx rfl (hb hby d6_48) rfl hd48 k) ?_
      show Go p.tables e below P (s₁.setTop (mkF m 49 #[.val (.long ja), .second, .val (.long jb), .second, .val (.long jx), .second, .val (.double dg), .second, .unset, .unset] [(.double d48), (.double d44)]))
      have Q47 := l2d_e (x := j47) (by omega); rw [hd48, v47] at Q47
      obtain rfl := DE.uniq Q43 hy (by omega)
      obtain rfl := DE.uniq Q47 hz (by omega)
      obtain ⟨qq, hqq⟩ : ∃ z : UInt64, FP.ddiv d44 d48 = z := ⟨_, rfl⟩
      refine Go.step (fun t k => XS.ddivS X0.here hx rfl (hb hby d6_49) rfl (by rw [← hdq]; exact fr.nn) hqq k) ?_
      show Go p.tables e below P (s₁.setTop (mkF m 50 #[.val (.long ja), .second, .val (.long jb), .second, .val (.long jx), .second, .val (.double dg), .second, .unset, .unset] [(.double qq)]))
      have hqd : qq = dg := by rw [hdq, ← hqq]
      rw [hqd]
      show Go p.tables e below P (s₁.setTop (mkF m 50 #[.val (.long ja), .second, .val (.long jb), .second, .val (.long jx), .second, .val (.double dg), .second, .unset, .unset] [(.double dg)]))
      refine Go.step (fun t k => XS.dstore X0.here hx rfl (hb hby d6_50) rfl (l' := #[.val (.long ja), .second, .val (.long jb), .second, .val (.long jx), .second, .val (.double dg), .second, .val (.double dg), .second]) rfl k) ?_
      show Go p.tables e below P (s₁.setTop (mkF m 52 #[.val (.long ja), .second, .val (.long jb), .second, .val (.long jx), .second, .val (.double dg), .second, .val (.double dg), .second] []))
      refine Go.step (fun t k => XS.dload X0.here hx rfl (hb hby d6_52) rfl  k) ?_
      show Go p.tables e below P (s₁.setTop (mkF m 54 #[.val (.long ja), .second, .val (.long jb), .second, .val (.long jx), .second, .val (.double dg), .second, .val (.double dg), .second] [(.double dg)]))
      refine Go.step (fun t k => XS.dconst0 X0.here hx rfl (hb hby d6_54) rfl k) ?_
      show Go p.tables e below P (s₁.setTop (mkF m 55 #[.val (.long ja), .second, .val (.long jb), .second, .val (.long jx), .second, .val (.double dg), .second, .val (.double dg), .second] [(.double FP.dconst0), (.double dg)]))
      refine Go.step (fun t k => XS.dcmpS X0.here hx rfl (hb hby d6_55) rfl rfl k) ?_
      show Go p.tables e below P (s₁.setTop (mkF m 56 #[.val (.long ja), .second, .val (.long jb), .second, .val (.long jx), .second, .val (.double dg), .second, .val (.double dg), .second] [(.int (cmpValue (FP.dcmp dg FP.dconst0) .l))]))
      refine Go.step (fun t k => XS.ifNo X0.here hx rfl (hb hby d6_56) rfl (dcN (cd := .le) ((fr.gt (zero_e 1064) (by decide)).trans (rfl : _ = some (compare (1 : Int) 0))) (by decide : ¬ ((1 : Int) ≤ (0 : Int)))) k) ?_
      show Go p.tables e below P (s₁.setTop (mkF m 59 #[.val (.long ja), .second, .val (.long jb), .second, .val (.long jx), .second, .val (.double dg), .second, .val (.double dg), .second] []))
      refine Go.step (fun t k => XS.dload X0.here hx rfl (hb hby d6_59) rfl  k) ?_
      show Go p.tables e below P (s₁.setTop (mkF m 61 #[.val (.long ja), .second, .val (.long jb), .second, .val (.long jx), .second, .val (.double dg), .second, .val (.double dg), .second] [(.double dg)]))
      refine Go.step (fun t k => XS.dconst1 X0.here hx rfl (hb hby d6_61) rfl k) ?_
      show Go p.tables e below P (s₁.setTop (mkF m 62 #[.val (.long ja), .second, .val (.long jb), .second, .val (.long jx), .second, .val (.double dg), .second, .val (.double dg), .second] [(.double FP.dconst1), (.double dg)]))
      refine Go.step (fun t k => XS.dcmpS X0.here hx rfl (hb hby d6_62) rfl rfl k) ?_
      show Go p.tables e below P (s₁.setTop (mkF m 63 #[.val (.long ja), .second, .val (.long jb), .second, .val (.long jx), .second, .val (.double dg), .second, .val (.double dg), .second] [(.int (cmpValue (FP.dcmp dg FP.dconst1) .g))]))
      refine Go.step (fun t k => XS.ifNo X0.here hx rfl (hb hby d6_63) rfl (dcN (cd := .ge) ((fr.lt one_k (by decide)).trans (rfl : _ = some (compare (0 : Int) 1))) (by decide : ¬ ((1 : Int) ≤ (0 : Int)))) k) ?_
      show Go p.tables e below P (s₁.setTop (mkF m 66 #[.val (.long ja), .second, .val (.long jb), .second, .val (.long jx), .second, .val (.double dg), .second, .val (.double dg), .second] []))
      refine Go.step (fun t k => XS.dload X0.here hx rfl (hb hby d6_66) rfl  k) ?_
      show Go p.tables e below P (s₁.setTop (mkF m 68 #[.val (.long ja), .second, .val (.long jb), .second, .val (.long jx), .second, .val (.double dg), .second, .val (.double dg), .second] [(.double dg)]))
      refine Go.step (fun t k => XS.dload X0.here hx rfl (hb hby d6_68) rfl  k) ?_
      show Go p.tables e below P (s₁.setTop (mkF m 70 #[.val (.long ja), .second, .val (.long jb), .second, .val (.long jx), .second, .val (.double dg), .second, .val (.double dg), .second] [(.double dg), (.double dg)]))
      refine Go.step (fun t k => XS.dcmpS X0.here hx rfl (hb hby d6_70) rfl rfl k) ?_
      show Go p.tables e below P (s₁.setTop (mkF m 71 #[.val (.long ja), .second, .val (.long jb), .second, .val (.long jx), .second, .val (.double dg), .second, .val (.double dg), .second] [(.int (cmpValue (FP.dcmp dg dg) .l))]))
      refine Go.step (fun t k => XS.ifNo X0.here hx rfl (hb hby d6_71) rfl (dcN (cd := .ne) (same_cmp fr.ne) (fun q => q rfl)) k) ?_
      show Go p.tables e below P (s₁.setTop (mkF m 74 #[.val (.long ja), .second, .val (.long jb), .second, .val (.long jx), .second, .val (.double dg), .second, .val (.double dg), .second] []))
      refine Go.step (fun t k => XS.iconst X0.here hx rfl (hb hby d6_74) k) ?_
      show Go p.tables e below P (s₁.setTop (mkF m 75 #[.val (.long ja), .second, .val (.long jb), .second, .val (.long jx), .second, .val (.double dg), .second, .val (.double dg), .second] [(.int (1 : Int32))]))
      refine Go.step (fun t k => XS.goto X0.here hx rfl (pc0 := 75) (pc' := 79) rfl (hb hby d6_75) (by decide) (by decide) k) ?_
      show Go p.tables e below P (s₁.setTop (mkF m 79 #[.val (.long ja), .second, .val (.long jb), .second, .val (.long jx), .second, .val (.double dg), .second, .val (.double dg), .second] [(.int (1 : Int32))]))
      exact retGo X0 hx hP Bd.returns hlk rfl (Or.inl ⟨rfl, Or.inr (Or.inl rfl), _, rfl⟩) (hb hby d6_79) (by decide) (by decide) (by rw [e0]; exact ⟨rfl, N0, rfl⟩)
    · refine Go.step (fun t k => XS.ifNo X0.here hx rfl (hb hby d6_24) rfl (lcN (cd := .lt) hc24) k) ?_
      show Go p.tables e below P (s₁.setTop (mkF m 27 #[.val (.long ja), .second, .val (.long jb), .second, .val (.long jx), .second, .val (.double dg), .second, .unset, .unset] []))
      have hq1 : dg = FP.dconst0 := by rcases hdg with ⟨h, _⟩ | ⟨_, _, h⟩ | ⟨_, h, _⟩; omega; exact h; omega
      have q1 : DE 1064 0 dg := by rw [hq1]; exact zero_e 1064
      refine Go.step (fun t k => XS.dload X0.here hx rfl (hb hby d6_27) rfl  k) ?_
      show Go p.tables e below P (s₁.setTop (mkF m 29 #[.val (.long ja), .second, .val (.long jb), .second, .val (.long jx), .second, .val (.double dg), .second, .unset, .unset] [(.double dg)]))
      refine Go.step (fun t k => XS.dconst0 X0.here hx rfl (hb hby d6_29) rfl k) ?_
      show Go p.tables e below P (s₁.setTop (mkF m 30 #[.val (.long ja), .second, .val (.long jb), .second, .val (.long jx), .second, .val (.double dg), .second, .unset, .unset] [(.double FP.dconst0), (.double dg)]))
      refine Go.step (fun t k => XS.dcmpS X0.here hx rfl (hb hby d6_30) rfl rfl k) ?_
      show Go p.tables e below P (s₁.setTop (mkF m 31 #[.val (.long ja), .second, .val (.long jb), .second, .val (.long jx), .second, .val (.double dg), .second, .unset, .unset] [(.int (cmpValue (FP.dcmp dg FP.dconst0) .l))]))
      refine Go.step (fun t k => XS.ifNo X0.here hx rfl (hb hby d6_31) rfl (dcN (cd := .ne) (DE.cmp q1 (zero_e 1064)) (fun q => q rfl)) k) ?_
      show Go p.tables e below P (s₁.setTop (mkF m 34 #[.val (.long ja), .second, .val (.long jb), .second, .val (.long jx), .second, .val (.double dg), .second, .unset, .unset] []))
      refine Go.step (fun t k => XS.iconst X0.here hx rfl (hb hby d6_34) k) ?_
      show Go p.tables e below P (s₁.setTop (mkF m 35 #[.val (.long ja), .second, .val (.long jb), .second, .val (.long jx), .second, .val (.double dg), .second, .unset, .unset] [(.int (1 : Int32))]))
      refine Go.step (fun t k => XS.goto X0.here hx rfl (pc0 := 35) (pc' := 39) rfl (hb hby d6_35) (by decide) (by decide) k) ?_
      show Go p.tables e below P (s₁.setTop (mkF m 39 #[.val (.long ja), .second, .val (.long jb), .second, .val (.long jx), .second, .val (.double dg), .second, .unset, .unset] [(.int (1 : Int32))]))
      exact retGo X0 hx hP Bd.returns hlk rfl (Or.inl ⟨rfl, Or.inr (Or.inl rfl), _, rfl⟩) (hb hby d6_39) (by decide) (by decide) (by rw [e0]; exact ⟨rfl, N0, rfl⟩)
  · refine Go.step (fun t k => XS.ifNo X0.here hx rfl (hb hby d6_4) rfl (lcN (cd := .gt) hc4) k) ?_
    show Go p.tables e below P (s₁.setTop (mkF m 7 #[.val (.long ja), .second, .val (.long jb), .second, .val (.long jx), .second, .val (.double dg), .second, .unset, .unset] []))
    have hq1 : dg = FP.dconst1 := by rcases hdg with ⟨_, h⟩ | ⟨h, _⟩ | ⟨h, _⟩; exact h; omega; omega
    have q1 : DE 1064 1024 dg := by rw [hq1]; exact one_k
    refine Go.step (fun t k => XS.dload X0.here hx rfl (hb hby d6_7) rfl  k) ?_
    show Go p.tables e below P (s₁.setTop (mkF m 9 #[.val (.long ja), .second, .val (.long jb), .second, .val (.long jx), .second, .val (.double dg), .second, .unset, .unset] [(.double dg)]))
    refine Go.step (fun t k => XS.dconst1 X0.here hx rfl (hb hby d6_9) rfl k) ?_
    show Go p.tables e below P (s₁.setTop (mkF m 10 #[.val (.long ja), .second, .val (.long jb), .second, .val (.long jx), .second, .val (.double dg), .second, .unset, .unset] [(.double FP.dconst1), (.double dg)]))
    refine Go.step (fun t k => XS.dcmpS X0.here hx rfl (hb hby d6_10) rfl rfl k) ?_
    show Go p.tables e below P (s₁.setTop (mkF m 11 #[.val (.long ja), .second, .val (.long jb), .second, .val (.long jx), .second, .val (.double dg), .second, .unset, .unset] [(.int (cmpValue (FP.dcmp dg FP.dconst1) .l))]))
    refine Go.step (fun t k => XS.ifNo X0.here hx rfl (hb hby d6_11) rfl (dcN (cd := .ne) (DE.cmp q1 one_k) (fun q => q rfl)) k) ?_
    show Go p.tables e below P (s₁.setTop (mkF m 14 #[.val (.long ja), .second, .val (.long jb), .second, .val (.long jx), .second, .val (.double dg), .second, .unset, .unset] []))
    refine Go.step (fun t k => XS.iconst X0.here hx rfl (hb hby d6_14) k) ?_
    show Go p.tables e below P (s₁.setTop (mkF m 15 #[.val (.long ja), .second, .val (.long jb), .second, .val (.long jx), .second, .val (.double dg), .second, .unset, .unset] [(.int (1 : Int32))]))
    refine Go.step (fun t k => XS.goto X0.here hx rfl (pc0 := 15) (pc' := 19) rfl (hb hby d6_15) (by decide) (by decide) k) ?_
    show Go p.tables e below P (s₁.setTop (mkF m 19 #[.val (.long ja), .second, .val (.long jb), .second, .val (.long jx), .second, .val (.double dg), .second, .unset, .unset] [(.int (1 : Int32))]))
    exact retGo X0 hx hP Bd.returns hlk rfl (Or.inl ⟨rfl, Or.inr (Or.inl rfl), _, rfl⟩) (hb hby d6_19) (by decide) (by decide) (by rw [e0]; exact ⟨rfl, N0, rfl⟩)
theorem pn_0 : plainName "com/example/orabona/orabona/model/LeftShoulderDegreePinLaw" = true := by first | (simp [plainName, overriddenIn]; done) | decide +kernel
theorem ef_0 (m : MethodId) (x0 : Int32) (x1 : Int32) (x2 : Int32) (x3 : Int32) : entryFrame m #[(.int x0), (.int x1), (.int x2), (.int x3)] maxLocals = mkF m 0 #[.val (.int x0), .val (.int x1), .val (.int x2), .val (.int x3), .unset, .unset, .unset, .unset, .unset, .unset, .unset, .unset, .unset, .unset, .unset, .unset, .unset, .unset, .unset, .unset, .unset, .unset, .unset, .unset, .unset] [] := by first | (simp [entryFrame, mkF, argsToLocals, Value.category, maxLocals]; done) | rfl
def Q0 (Z : State) (p1 : Int32) (p2 : Int32) (p3 : Int32) (p4 : Int32) (h0 : Heap) (n0 : Nat) (v : Option Value) (h : Heap) (L : List Loc) : Prop := v = some (.int 1) ∧ Fr n0 L
set_option maxRecDepth 65536 in
set_option maxHeartbeats 40000000 in
theorem rm0 (l : Launch) (Z : State) (a0 : Array Value) (hw : ∀ d ∈ tables_1, d.before a0 Z = true) (ws : List Jvm.Cond) (p1 : Int32) (p2 : Int32) (p3 : Int32) (p4 : Int32) (h0 : Heap) (n0 : Nat) (Z0 : n0 ≤ h0.size) :
    MetFree l x (head1 (Jvm.Cond.code x code maxLocals ret :: ws) room_1) (fun a_ U => a_ = #[(.int p1), (.int p2), (.int p3), (.int p4)] ∧ Z.Warmed39 U.vm ∧ U.heap = h0) (fun _ _ _ _ _ => True) (fun _ U o U' => ∃ v L, o = .returned v ∧ Q0 Z p1 p2 p3 p4 h0 n0 v U'.heap L ∧ ReturnedEndW U o U' L 16 1152) := by
  refine MetFree.of_bodySF (plainFor_of_name pn_0) hisR ?_
  intro p e s m args below meth c s₁ Bd hml0 hP0 hK
  obtain ⟨rfl, hZ, hh⟩ := hP0
  have hx := Bd.exec
  have hby := Bd.bytes
  have hml : c.maxLocals = 25 := hml0
  have hown : s.vm.findClass "com/example/orabona/orabona/model/LeftShoulderDegreePinLaw" = some m.cls := findClass_of_methodNamed Bd.named
  have hnm := (name_of_methodNamed Bd.named Bd.method).1
  have X0 : Stand p l e room_1 s m #[(.int p1), (.int p2), (.int p3), (.int p4)] below meth c s₁ [] 0 0 := Stand.of_body Bd
  have e0 : s₁.heap = h0 := by rw [← hh, Bd.state]; rfl
  have N0 := Fr.nil n0
  have hlk : meth.locks = false := BodyLoose.notSynchronized Bd
  refine Go.start (P₀ := fun s₂ o => ∃ v L, o = .returned v ∧ Q0 Z p1 p2 p3 p4 h0 n0 v s₂.heap L ∧ ReturnedEndW s o s₂ L 16 1152) (congrArg s₁.setTop (ef_0 m p1 p2 p3 p4)) ?_
  intro P hP
  show Go p.tables e below P (s₁.setTop (mkF m 0 #[.val (.int p1), .val (.int p2), .val (.int p3), .val (.int p4), .unset, .unset, .unset, .unset, .unset, .unset, .unset, .unset, .unset, .unset, .unset, .unset, .unset, .unset, .unset, .unset, .unset, .unset, .unset, .unset, .unset] []))
  refine Go.step (fun t k => XS.iloadN X0.here hx rfl (hb hby at_0) rfl  k) ?_
  show Go p.tables e below P (s₁.setTop (mkF m 1 #[.val (.int p1), .val (.int p2), .val (.int p3), .val (.int p4), .unset, .unset, .unset, .unset, .unset, .unset, .unset, .unset, .unset, .unset, .unset, .unset, .unset, .unset, .unset, .unset, .unset, .unset, .unset, .unset, .unset] [(.int p1)]))
  obtain ⟨j1, hj1⟩ : ∃ z : Int64, p1.toInt64 = z := ⟨_, rfl⟩
  refine Go.step (fun t k => i2l_v X0.here hx rfl (hb hby at_1) rfl hj1 k) ?_
  show Go p.tables e below P (s₁.setTop (mkF m 2 #[.val (.int p1), .val (.int p2), .val (.int p3), .val (.int p4), .unset, .unset, .unset, .unset, .unset, .unset, .unset, .unset, .unset, .unset, .unset, .unset, .unset, .unset, .unset, .unset, .unset, .unset, .unset, .unset, .unset] [(.long j1)]))
  refine Go.step (fun t k => XS.lstore X0.here hx rfl (hb hby at_2) rfl (l' := #[.val (.int p1), .val (.int p2), .val (.int p3), .val (.int p4), .val (.long j1), .second, .unset, .unset, .unset, .unset, .unset, .unset, .unset, .unset, .unset, .unset, .unset, .unset, .unset, .unset, .unset, .unset, .unset, .unset, .unset]) rfl k) ?_
  show Go p.tables e below P (s₁.setTop (mkF m 4 #[.val (.int p1), .val (.int p2), .val (.int p3), .val (.int p4), .val (.long j1), .second, .unset, .unset, .unset, .unset, .unset, .unset, .unset, .unset, .unset, .unset, .unset, .unset, .unset, .unset, .unset, .unset, .unset, .unset, .unset] []))
  refine Go.step (fun t k => XS.lload X0.here hx rfl (hb hby at_4) rfl  k) ?_
  show Go p.tables e below P (s₁.setTop (mkF m 6 #[.val (.int p1), .val (.int p2), .val (.int p3), .val (.int p4), .val (.long j1), .second, .unset, .unset, .unset, .unset, .unset, .unset, .unset, .unset, .unset, .unset, .unset, .unset, .unset, .unset, .unset, .unset, .unset, .unset, .unset] [(.long j1)]))
  refine Go.step (fun t k => XS.iloadN X0.here hx rfl (hb hby at_6) rfl  k) ?_
  show Go p.tables e below P (s₁.setTop (mkF m 7 #[.val (.int p1), .val (.int p2), .val (.int p3), .val (.int p4), .val (.long j1), .second, .unset, .unset, .unset, .unset, .unset, .unset, .unset, .unset, .unset, .unset, .unset, .unset, .unset, .unset, .unset, .unset, .unset, .unset, .unset] [(.int p2), (.long j1)]))
  refine Go.step (fun t k => XS.bipush X0.here hx rfl (hb hby at_7) k) ?_
  show Go p.tables e below P (s₁.setTop (mkF m 9 #[.val (.int p1), .val (.int p2), .val (.int p3), .val (.int p4), .val (.long j1), .second, .unset, .unset, .unset, .unset, .unset, .unset, .unset, .unset, .unset, .unset, .unset, .unset, .unset, .unset, .unset, .unset, .unset, .unset, .unset] [(.int (33 : Int32)), (.int p2), (.long j1)]))
  obtain ⟨i9, hi9⟩ : ∃ z : Int32, p2 % (33 : Int32) = z := ⟨_, rfl⟩
  refine Go.step (fun t k => irem_v X0.here hx rfl (hb hby at_9) rfl (by decide) hi9 k) ?_
  show Go p.tables e below P (s₁.setTop (mkF m 10 #[.val (.int p1), .val (.int p2), .val (.int p3), .val (.int p4), .val (.long j1), .second, .unset, .unset, .unset, .unset, .unset, .unset, .unset, .unset, .unset, .unset, .unset, .unset, .unset, .unset, .unset, .unset, .unset, .unset, .unset] [(.int i9), (.long j1)]))
  obtain ⟨j10, hj10⟩ : ∃ z : Int64, i9.toInt64 = z := ⟨_, rfl⟩
  refine Go.step (fun t k => i2l_v X0.here hx rfl (hb hby at_10) rfl hj10 k) ?_
  show Go p.tables e below P (s₁.setTop (mkF m 11 #[.val (.int p1), .val (.int p2), .val (.int p3), .val (.int p4), .val (.long j1), .second, .unset, .unset, .unset, .unset, .unset, .unset, .unset, .unset, .unset, .unset, .unset, .unset, .unset, .unset, .unset, .unset, .unset, .unset, .unset] [(.long j10), (.long j1)]))
  obtain ⟨j11, hj11⟩ : ∃ z : Int64, j1 + j10 = z := ⟨_, rfl⟩
  refine Go.step (fun t k => ladd_v X0.here hx rfl (hb hby at_11) rfl  hj11 k) ?_
  show Go p.tables e below P (s₁.setTop (mkF m 12 #[.val (.int p1), .val (.int p2), .val (.int p3), .val (.int p4), .val (.long j1), .second, .unset, .unset, .unset, .unset, .unset, .unset, .unset, .unset, .unset, .unset, .unset, .unset, .unset, .unset, .unset, .unset, .unset, .unset, .unset] [(.long j11)]))
  refine Go.step (fun t k => XS.lstore X0.here hx rfl (hb hby at_12) rfl (l' := #[.val (.int p1), .val (.int p2), .val (.int p3), .val (.int p4), .val (.long j1), .second, .val (.long j11), .second, .unset, .unset, .unset, .unset, .unset, .unset, .unset, .unset, .unset, .unset, .unset, .unset, .unset, .unset, .unset, .unset, .unset]) rfl k) ?_
  show Go p.tables e below P (s₁.setTop (mkF m 14 #[.val (.int p1), .val (.int p2), .val (.int p3), .val (.int p4), .val (.long j1), .second, .val (.long j11), .second, .unset, .unset, .unset, .unset, .unset, .unset, .unset, .unset, .unset, .unset, .unset, .unset, .unset, .unset, .unset, .unset, .unset] []))
  refine Go.step (fun t k => XS.lload X0.here hx rfl (hb hby at_14) rfl  k) ?_
  show Go p.tables e below P (s₁.setTop (mkF m 16 #[.val (.int p1), .val (.int p2), .val (.int p3), .val (.int p4), .val (.long j1), .second, .val (.long j11), .second, .unset, .unset, .unset, .unset, .unset, .unset, .unset, .unset, .unset, .unset, .unset, .unset, .unset, .unset, .unset, .unset, .unset] [(.long j1)]))
  refine Go.step (fun t k => XS.iloadN X0.here hx rfl (hb hby at_16) rfl  k) ?_
  show Go p.tables e below P (s₁.setTop (mkF m 17 #[.val (.int p1), .val (.int p2), .val (.int p3), .val (.int p4), .val (.long j1), .second, .val (.long j11), .second, .unset, .unset, .unset, .unset, .unset, .unset, .unset, .unset, .unset, .unset, .unset, .unset, .unset, .unset, .unset, .unset, .unset] [(.int p3), (.long j1)]))
  refine Go.step (fun t k => XS.bipush X0.here hx rfl (hb hby at_17) k) ?_
  show Go p.tables e below P (s₁.setTop (mkF m 19 #[.val (.int p1), .val (.int p2), .val (.int p3), .val (.int p4), .val (.long j1), .second, .val (.long j11), .second, .unset, .unset, .unset, .unset, .unset, .unset, .unset, .unset, .unset, .unset, .unset, .unset, .unset, .unset, .unset, .unset, .unset] [(.int (40 : Int32)), (.int p3), (.long j1)]))
  obtain ⟨i19, hi19⟩ : ∃ z : Int32, p3 % (40 : Int32) = z := ⟨_, rfl⟩
  refine Go.step (fun t k => irem_v X0.here hx rfl (hb hby at_19) rfl (by decide) hi19 k) ?_
  show Go p.tables e below P (s₁.setTop (mkF m 20 #[.val (.int p1), .val (.int p2), .val (.int p3), .val (.int p4), .val (.long j1), .second, .val (.long j11), .second, .unset, .unset, .unset, .unset, .unset, .unset, .unset, .unset, .unset, .unset, .unset, .unset, .unset, .unset, .unset, .unset, .unset] [(.int i19), (.long j1)]))
  obtain ⟨j20, hj20⟩ : ∃ z : Int64, i19.toInt64 = z := ⟨_, rfl⟩
  refine Go.step (fun t k => i2l_v X0.here hx rfl (hb hby at_20) rfl hj20 k) ?_
  show Go p.tables e below P (s₁.setTop (mkF m 21 #[.val (.int p1), .val (.int p2), .val (.int p3), .val (.int p4), .val (.long j1), .second, .val (.long j11), .second, .unset, .unset, .unset, .unset, .unset, .unset, .unset, .unset, .unset, .unset, .unset, .unset, .unset, .unset, .unset, .unset, .unset] [(.long j20), (.long j1)]))
  obtain ⟨j21, hj21⟩ : ∃ z : Int64, j1 + j20 = z := ⟨_, rfl⟩
  refine Go.step (fun t k => ladd_v X0.here hx rfl (hb hby at_21) rfl  hj21 k) ?_
  show Go p.tables e below P (s₁.setTop (mkF m 22 #[.val (.int p1), .val (.int p2), .val (.int p3), .val (.int p4), .val (.long j1), .second, .val (.long j11), .second, .unset, .unset, .unset, .unset, .unset, .unset, .unset, .unset, .unset, .unset, .unset, .unset, .unset, .unset, .unset, .unset, .unset] [(.long j21)]))
  refine Go.step (fun t k => XS.lstore X0.here hx rfl (hb hby at_22) rfl (l' := #[.val (.int p1), .val (.int p2), .val (.int p3), .val (.int p4), .val (.long j1), .second, .val (.long j11), .second, .val (.long j21), .second, .unset, .unset, .unset, .unset, .unset, .unset, .unset, .unset, .unset, .unset, .unset, .unset, .unset, .unset, .unset]) rfl k) ?_
  show Go p.tables e below P (s₁.setTop (mkF m 24 #[.val (.int p1), .val (.int p2), .val (.int p3), .val (.int p4), .val (.long j1), .second, .val (.long j11), .second, .val (.long j21), .second, .unset, .unset, .unset, .unset, .unset, .unset, .unset, .unset, .unset, .unset, .unset, .unset, .unset, .unset, .unset] []))
  refine Go.step (fun t k => XS.lload X0.here hx rfl (hb hby at_24) rfl  k) ?_
  show Go p.tables e below P (s₁.setTop (mkF m 26 #[.val (.int p1), .val (.int p2), .val (.int p3), .val (.int p4), .val (.long j1), .second, .val (.long j11), .second, .val (.long j21), .second, .unset, .unset, .unset, .unset, .unset, .unset, .unset, .unset, .unset, .unset, .unset, .unset, .unset, .unset, .unset] [(.long j1)]))
  refine Go.step (fun t k => XS.iloadN X0.here hx rfl (hb hby at_26) rfl  k) ?_
  show Go p.tables e below P (s₁.setTop (mkF m 27 #[.val (.int p1), .val (.int p2), .val (.int p3), .val (.int p4), .val (.long j1), .second, .val (.long j11), .second, .val (.long j21), .second, .unset, .unset, .unset, .unset, .unset, .unset, .unset, .unset, .unset, .unset, .unset, .unset, .unset, .unset, .unset] [(.int p4), (.long j1)]))
  refine Go.step (fun t k => XS.bipush X0.here hx rfl (hb hby at_27) k) ?_
  show Go p.tables e below P (s₁.setTop (mkF m 29 #[.val (.int p1), .val (.int p2), .val (.int p3), .val (.int p4), .val (.long j1), .second, .val (.long j11), .second, .val (.long j21), .second, .unset, .unset, .unset, .unset, .unset, .unset, .unset, .unset, .unset, .unset, .unset, .unset, .unset, .unset, .unset] [(.int (40 : Int32)), (.int p4), (.long j1)]))
  obtain ⟨i29, hi29⟩ : ∃ z : Int32, p4 % (40 : Int32) = z := ⟨_, rfl⟩
  refine Go.step (fun t k => irem_v X0.here hx rfl (hb hby at_29) rfl (by decide) hi29 k) ?_
  show Go p.tables e below P (s₁.setTop (mkF m 30 #[.val (.int p1), .val (.int p2), .val (.int p3), .val (.int p4), .val (.long j1), .second, .val (.long j11), .second, .val (.long j21), .second, .unset, .unset, .unset, .unset, .unset, .unset, .unset, .unset, .unset, .unset, .unset, .unset, .unset, .unset, .unset] [(.int i29), (.long j1)]))
  obtain ⟨j30, hj30⟩ : ∃ z : Int64, i29.toInt64 = z := ⟨_, rfl⟩
  refine Go.step (fun t k => i2l_v X0.here hx rfl (hb hby at_30) rfl hj30 k) ?_
  show Go p.tables e below P (s₁.setTop (mkF m 31 #[.val (.int p1), .val (.int p2), .val (.int p3), .val (.int p4), .val (.long j1), .second, .val (.long j11), .second, .val (.long j21), .second, .unset, .unset, .unset, .unset, .unset, .unset, .unset, .unset, .unset, .unset, .unset, .unset, .unset, .unset, .unset] [(.long j30), (.long j1)]))
  obtain ⟨j31, hj31⟩ : ∃ z : Int64, j1 + j30 = z := ⟨_, rfl⟩
  refine Go.step (fun t k => ladd_v X0.here hx rfl (hb hby at_31) rfl  hj31 k) ?_
  show Go p.tables e below P (s₁.setTop (mkF m 32 #[.val (.int p1), .val (.int p2), .val (.int p3), .val (.int p4), .val (.long j1), .second, .val (.long j11), .second, .val (.long j21), .second, .unset, .unset, .unset, .unset, .unset, .unset, .unset, .unset, .unset, .unset, .unset, .unset, .unset, .unset, .unset] [(.long j31)]))
  have f1 := c_i2l p1; rw [hj1] at f1
  have g1 := rng32 p1
  have f9 := c_irem p2 (33 : Int32) 33 rfl; rw [hi9] at f9
  have b9 : -32 ≤ i9.toInt ∧ i9.toInt ≤ 32 := by omega
  clear f9
  have f10 := c_i2l i9; rw [hj10] at f10
  have f11 := c_ladd j1 j10; rw [hj11] at f11
  have g11 := rng64 j11
  have v11 : j11.toInt = p1.toInt + i9.toInt := by omega
  clear f11
  have f19 := c_irem p3 (40 : Int32) 40 rfl; rw [hi19] at f19
  have b19 : -39 ≤ i19.toInt ∧ i19.toInt ≤ 39 := by omega
  clear f19
  have f20 := c_i2l i19; rw [hj20] at f20
  have f21 := c_ladd j1 j20; rw [hj21] at f21
  have g21 := rng64 j21
  have v21 : j21.toInt = p1.toInt + i19.toInt := by omega
  clear f21
  have f29 := c_irem p4 (40 : Int32) 40 rfl; rw [hi29] at f29
  have b29 : -39 ≤ i29.toInt ∧ i29.toInt ≤ 39 := by omega
  clear f29
  have f30 := c_i2l i29; rw [hj30] at f30
  have f31 := c_ladd j1 j30; rw [hj31] at f31
  have g31 := rng64 j31
  have v31 : j31.toInt = p1.toInt + i29.toInt := by omega
  clear f31
  refine Go.step (fun t k => XS.lstore X0.here hx rfl (hb hby at_32) rfl (l' := #[.val (.int p1), .val (.int p2), .val (.int p3), .val (.int p4), .val (.long j1), .second, .val (.long j11), .second, .val (.long j21), .second, .val (.long j31), .second, .unset, .unset, .unset, .unset, .unset, .unset, .unset, .unset, .unset, .unset, .unset, .unset, .unset]) rfl k) ?_
  show Go p.tables e below P (s₁.setTop (mkF m 34 #[.val (.int p1), .val (.int p2), .val (.int p3), .val (.int p4), .val (.long j1), .second, .val (.long j11), .second, .val (.long j21), .second, .val (.long j31), .second, .unset, .unset, .unset, .unset, .unset, .unset, .unset, .unset, .unset, .unset, .unset, .unset, .unset] []))
  refine Go.step (fun t k => XS.lload X0.here hx rfl (hb hby at_34) rfl  k) ?_
  show Go p.tables e below P (s₁.setTop (mkF m 36 #[.val (.int p1), .val (.int p2), .val (.int p3), .val (.int p4), .val (.long j1), .second, .val (.long j11), .second, .val (.long j21), .second, .val (.long j31), .second, .unset, .unset, .unset, .unset, .unset, .unset, .unset, .unset, .unset, .unset, .unset, .unset, .unset] [(.long j1)]))
  obtain ⟨d36, hd36⟩ : ∃ z : UInt64, FP.l2d j1 = z := ⟨_, rfl⟩
  refine Go.step (fun t k => XS.l2dS X0.here hx rfl (hb hby at_36) rfl hd36 k) ?_
  show Go p.tables e below P (s₁.setTop (mkF m 37 #[.val (.int p1), .val (.int p2), .val (.int p3), .val (.int p4), .val (.long j1), .second, .val (.long j11), .second, .val (.long j21), .second, .val (.long j31), .second, .unset, .unset, .unset, .unset, .unset, .unset, .unset, .unset, .unset, .unset, .unset, .unset, .unset] [(.double d36)]))
  have qj1 := l2d_e (x := j1) (by omega); rw [hd36] at qj1
  refine Go.step (fun t k => XS.dstore X0.here hx rfl (hb hby at_37) rfl (l' := #[.val (.int p1), .val (.int p2), .val (.int p3), .val (.int p4), .val (.long j1), .second, .val (.long j11), .second, .val (.long j21), .second, .val (.long j31), .second, .val (.double d36), .second, .unset, .unset, .unset, .unset, .unset, .unset, .unset, .unset, .unset, .unset, .unset]) rfl k) ?_
  show Go p.tables e below P (s₁.setTop (mkF m 39 #[.val (.int p1), .val (.int p2), .val (.int p3), .val (.int p4), .val (.long j1), .second, .val (.long j11), .second, .val (.long j21), .second, .val (.long j31), .second, .val (.double d36), .second, .unset, .unset, .unset, .unset, .unset, .unset, .unset, .unset, .unset, .unset, .unset] []))
  refine Go.step (fun t k => XS.lload X0.here hx rfl (hb hby at_39) rfl  k) ?_
  show Go p.tables e below P (s₁.setTop (mkF m 41 #[.val (.int p1), .val (.int p2), .val (.int p3), .val (.int p4), .val (.long j1), .second, .val (.long j11), .second, .val (.long j21), .second, .val (.long j31), .second, .val (.double d36), .second, .unset, .unset, .unset, .unset, .unset, .unset, .unset, .unset, .unset, .unset, .unset] [(.long j11)]))
  obtain ⟨d41, hd41⟩ : ∃ z : UInt64, FP.l2d j11 = z := ⟨_, rfl⟩
  refine Go.step (fun t k => XS.l2dS X0.here hx rfl (hb hby at_41) rfl hd41 k) ?_
  show Go p.tables e below P (s₁.setTop (mkF m 42 #[.val (.int p1), .val (.int p2), .val (.int p3), .val (.int p4), .val (.long j1), .second, .val (.long j11), .second, .val (.long j21), .second, .val (.long j31), .second, .val (.double d36), .second, .unset, .unset, .unset, .unset, .unset, .unset, .unset, .unset, .unset, .unset, .unset] [(.double d41)]))
  have qj11 := l2d_e (x := j11) (by omega); rw [hd41] at qj11
  refine Go.step (fun t k => XS.dstore X0.here hx rfl (hb hby at_42) rfl (l' := #[.val (.int p1), .val (.int p2), .val (.int p3), .val (.int p4), .val (.long j1), .second, .val (.long j11), .second, .val (.long j21), .second, .val (.long j31), .second, .val (.double d36), .second, .val (.double d41), .second, .unset, .unset, .unset, .unset, .unset, .unset, .unset, .unset, .unset]) rfl k) ?_
  show Go p.tables e below P (s₁.setTop (mkF m 44 #[.val (.int p1), .val (.int p2), .val (.int p3), .val (.int p4), .val (.long j1), .second, .val (.long j11), .second, .val (.long j21), .second, .val (.long j31), .second, .val (.double d36), .second, .val (.double d41), .second, .unset, .unset, .unset, .unset, .unset, .unset, .unset, .unset, .unset] []))
  refine Go.step (fun t k => XS.lload X0.here hx rfl (hb hby at_44) rfl  k) ?_
  show Go p.tables e below P (s₁.setTop (mkF m 46 #[.val (.int p1), .val (.int p2), .val (.int p3), .val (.int p4), .val (.long j1), .second, .val (.long j11), .second, .val (.long j21), .second, .val (.long j31), .second, .val (.double d36), .second, .val (.double d41), .second, .unset, .unset, .unset, .unset, .unset, .unset, .unset, .unset, .unset] [(.long j21)]))
  obtain ⟨d46, hd46⟩ : ∃ z : UInt64, FP.l2d j21 = z := ⟨_, rfl⟩
  refine Go.step (fun t k => XS.l2dS X0.here hx rfl (hb hby at_46) rfl hd46 k) ?_
  show Go p.tables e below P (s₁.setTop (mkF m 47 #[.val (.int p1), .val (.int p2), .val (.int p3), .val (.int p4), .val (.long j1), .second, .val (.long j11), .second, .val (.long j21), .second, .val (.long j31), .second, .val (.double d36), .second, .val (.double d41), .second, .unset, .unset, .unset, .unset, .unset, .unset, .unset, .unset, .unset] [(.double d46)]))
  have qj21 := l2d_e (x := j21) (by omega); rw [hd46] at qj21
  refine Go.step (fun t k => XS.dstore X0.here hx rfl (hb hby at_47) rfl (l' := #[.val (.int p1), .val (.int p2), .val (.int p3), .val (.int p4), .val (.long j1), .second, .val (.long j11), .second, .val (.long j21), .second, .val (.long j31), .second, .val (.double d36), .second, .val (.double d41), .second, .val (.double d46), .second, .unset, .unset, .unset, .unset, .unset, .unset, .unset]) rfl k) ?_
  show Go p.tables e below P (s₁.setTop (mkF m 49 #[.val (.int p1), .val (.int p2), .val (.int p3), .val (.int p4), .val (.long j1), .second, .val (.long j11), .second, .val (.long j21), .second, .val (.long j31), .second, .val (.double d36), .second, .val (.double d41), .second, .val (.double d46), .second, .unset, .unset, .unset, .unset, .unset, .unset, .unset] []))
  refine Go.step (fun t k => XS.lload X0.here hx rfl (hb hby at_49) rfl  k) ?_
  show Go p.tables e below P (s₁.setTop (mkF m 51 #[.val (.int p1), .val (.int p2), .val (.int p3), .val (.int p4), .val (.long j1), .second, .val (.long j11), .second, .val (.long j21), .second, .val (.long j31), .second, .val (.double d36), .second, .val (.double d41), .second, .val (.double d46), .second, .unset, .unset, .unset, .unset, .unset, .unset, .unset] [(.long j31)]))
  obtain ⟨d51, hd51⟩ : ∃ z : UInt64, FP.l2d j31 = z := ⟨_, rfl⟩
  refine Go.step (fun t k => XS.l2dS X0.here hx rfl (hb hby at_51) rfl hd51 k) ?_
  show Go p.tables e below P (s₁.setTop (mkF m 52 #[.val (.int p1), .val (.int p2), .val (.int p3), .val (.int p4), .val (.long j1), .second, .val (.long j11), .second, .val (.long j21), .second, .val (.long j31), .second, .val (.double d36), .second, .val (.double d41), .second, .val (.double d46), .second, .unset, .unset, .unset, .unset, .unset, .unset, .unset] [(.double d51)]))
  have qj31 := l2d_e (x := j31) (by omega); rw [hd51] at qj31
  refine Go.step (fun t k => XS.dstore X0.here hx rfl (hb hby at_52) rfl (l' := #[.val (.int p1), .val (.int p2), .val (.int p3), .val (.int p4), .val (.long j1), .second, .val (.long j11), .second, .val (.long j21), .second, .val (.long j31), .second, .val (.double d36), .second, .val (.double d41), .second, .val (.double d46), .second, .val (.double d51), .second, .unset, .unset, .unset, .unset, .unset]) rfl k) ?_
  show Go p.tables e below P (s₁.setTop (mkF m 54 #[.val (.int p1), .val (.int p2), .val (.int p3), .val (.int p4), .val (.long j1), .second, .val (.long j11), .second, .val (.long j21), .second, .val (.long j31), .second, .val (.double d36), .second, .val (.double d41), .second, .val (.double d46), .second, .val (.double d51), .second, .unset, .unset, .unset, .unset, .unset] []))
  obtain ⟨T_1, h_1, X_1, e_1, E_1, A_1, D_1, -, st_1⟩ := newO X0 hx hZ hown (hw _ (List.mem_of_getElem? (i := 0) rfl)) (hw _ (List.mem_of_getElem? (i := 1) rfl)) (hw _ (List.mem_of_getElem? (i := 2) rfl)) e0 (g := (mkF m 54 #[.val (.int p1), .val (.int p2), .val (.int p3), .val (.int p4), .val (.long j1), .second, .val (.long j11), .second, .val (.long j21), .second, .val (.long j31), .second, .val (.double d36), .second, .val (.double d41), .second, .val (.double d46), .second, .val (.double d51), .second, .unset, .unset, .unset, .unset, .unset] [])) rfl (hb hby at_54) (by decide) (by decide)
  obtain ⟨b_1, g_1⟩ : ∃ z, z = h0.size := ⟨_, rfl⟩
  rw [← g_1] at A_1 D_1 st_1
  have g_b_1 : n0 ≤ b_1 := Nat.le_trans Z0 (Nat.le_of_eq g_1.symm)
  have sz_b_1 : h0.size ≤ b_1 := Nat.le_trans (Keep.refl h0 []).1 (Nat.le_of_eq g_1.symm)
  have F_name_b_1 : Fld Z h_1 b_1 "com/example/orabona/orabona/model/FuzzySet$LeftShoulder" "name" "Ljava/lang/String;" .null := D_1 (Or.inr (hw _ (List.mem_of_getElem? (i := 23) rfl))) (ty := (.object "java/lang/String")) (by decide)
  have F_a_b_1 : Fld Z h_1 b_1 "com/example/orabona/orabona/model/FuzzySet$LeftShoulder" "a" "D" (.double (0 : UInt64)) := D_1 (Or.inr (hw _ (List.mem_of_getElem? (i := 25) rfl))) (ty := .double) (by decide)
  have F_b_b_1 : Fld Z h_1 b_1 "com/example/orabona/orabona/model/FuzzySet$LeftShoulder" "b" "D" (.double (0 : UInt64)) := D_1 (Or.inr (hw _ (List.mem_of_getElem? (i := 27) rfl))) (ty := .double) (by decide)
  have K_1 : Keep h0 h_1 [] := (Keep.refl h0 []).ext E_1
  have Z_1 : n0 ≤ h_1.size := Nat.le_trans Z0 E_1.1
  refine Go.step (fun t k => st_1 t k) ?_
  show Go p.tables e below P (T_1.setTop (mkF m 57 #[.val (.int p1), .val (.int p2), .val (.int p3), .val (.int p4), .val (.long j1), .second, .val (.long j11), .second, .val (.long j21), .second, .val (.long j31), .second, .val (.double d36), .second, .val (.double d41), .second, .val (.double d46), .second, .val (.double d51), .second, .unset, .unset, .unset, .unset, .unset] [(.ref b_1)]))
  refine Go.step (fun t k => XS.dup X_1.here hx rfl (hb hby at_57) rfl rfl k) ?_
  show Go p.tables e below P (T_1.setTop (mkF m 58 #[.val (.int p1), .val (.int p2), .val (.int p3), .val (.int p4), .val (.long j1), .second, .val (.long j11), .second, .val (.long j21), .second, .val (.long j31), .second, .val (.double d36), .second, .val (.double d41), .second, .val (.double d46), .second, .val (.double d51), .second, .unset, .unset, .unset, .unset, .unset] [(.ref b_1), (.ref b_1)]))
  have wS_2 : ∀ d ∈ Bundle.stringAtoms, d.before a0 Z = true := by
    intro d hd
    simp only [Bundle.stringAtoms, List.mem_cons, List.not_mem_nil, or_false] at hd
    rcases hd with rfl | rfl | rfl | rfl | rfl | rfl | rfl
    · exact (hw _ (List.mem_of_getElem? (i := 4) rfl))
    · exact (hw _ (List.mem_of_getElem? (i := 5) rfl))
    · exact (hw _ (List.mem_of_getElem? (i := 6) rfl))
    · exact (hw _ (List.mem_of_getElem? (i := 7) rfl))
    · exact (hw _ (List.mem_of_getElem? (i := 8) rfl))
    · exact (hw _ (List.mem_of_getElem? (i := 9) rfl))
    · exact (hw _ (List.mem_of_getElem? (i := 10) rfl))
  obtain ⟨b_2, T_2, h_2, kk_2, X_2, e_2, E_2, hS, hk_2, hZ, hown, st_2⟩ := ldcS (s := s) (vm0 := s.vm) X_1 hx hZ hown (hw _ (List.mem_of_getElem? (i := 3) rfl)) wS_2 e_1 ((State.WarmedH.refl s).since _) K_1.1 (g := (mkF m 58 #[.val (.int p1), .val (.int p2), .val (.int p3), .val (.int p4), .val (.long j1), .second, .val (.long j11), .second, .val (.long j21), .second, .val (.long j31), .second, .val (.double d36), .second, .val (.double d41), .second, .val (.double d46), .second, .val (.double d51), .second, .unset, .unset, .unset, .unset, .unset] [(.ref b_1), (.ref b_1)])) rfl (hb hby at_58) (n := 4) (by decide) (by decide) (by decide) (by decide)
  have K_2 : Keep h0 h_2 [] := K_1.ext E_2
  have Z_2 : n0 ≤ h_2.size := Nat.le_trans Z_1 E_2.1
  refine Go.step (fun t k => st_2 t k) ?_
  show Go p.tables e below P (T_2.setTop (mkF m 60 #[.val (.int p1), .val (.int p2), .val (.int p3), .val (.int p4), .val (.long j1), .second, .val (.long j11), .second, .val (.long j21), .second, .val (.long j31), .second, .val (.double d36), .second, .val (.double d41), .second, .val (.double d46), .second, .val (.double d51), .second, .unset, .unset, .unset, .unset, .unset] [(.ref b_2), (.ref b_1), (.ref b_1)]))
  refine Go.step (fun t k => XS.dload X_2.here hx rfl (hb hby at_60) rfl  k) ?_
  show Go p.tables e below P (T_2.setTop (mkF m 62 #[.val (.int p1), .val (.int p2), .val (.int p3), .val (.int p4), .val (.long j1), .second, .val (.long j11), .second, .val (.long j21), .second, .val (.long j31), .second, .val (.double d36), .second, .val (.double d41), .second, .val (.double d46), .second, .val (.double d51), .second, .unset, .unset, .unset, .unset, .unset] [(.double d36), (.ref b_2), (.ref b_1), (.ref b_1)]))
  refine Go.step (fun t k => XS.dload X_2.here hx rfl (hb hby at_62) rfl  k) ?_
  show Go p.tables e below P (T_2.setTop (mkF m 64 #[.val (.int p1), .val (.int p2), .val (.int p3), .val (.int p4), .val (.long j1), .second, .val (.long j11), .second, .val (.long j21), .second, .val (.long j31), .second, .val (.double d36), .second, .val (.double d41), .second, .val (.double d46), .second, .val (.double d51), .second, .unset, .unset, .unset, .unset, .unset] [(.double d41), (.double d36), (.ref b_2), (.ref b_1), (.ref b_1)]))
  obtain ⟨_, _, ⟨T_3, L_3, k_3, n_3⟩, -, X_3, ⟨Lc_3, hQ_3, l_3, y_3, z_3⟩, st_3⟩ := X_2.specialBack hx (y := (⟨"com/example/orabona/orabona/model/FuzzySet$LeftShoulder", "<init>", "(Ljava/lang/String;DD)V"⟩ : MethodName)) rfl hown (mvT hZ (hw _ (List.mem_of_getElem? (i := 11) rfl))) (mvT hZ (hw _ (List.mem_of_getElem? (i := 12) rfl))) (mvT hZ (hw _ (List.mem_of_getElem? (i := 13) rfl))) (by decide) (backOf (W := 1) (rm4 l Z a0 hw [] b_1 b_2 d36 d41 h_2 n0 Z_2 (A_1.ext E_2) (F_name_b_1.ext E_2) (F_a_b_1.ext E_2) (F_b_b_1.ext E_2) g_b_1 ) hZ (hw _ (List.mem_of_getElem? (i := 13) rfl)) (hw _ (List.mem_of_getElem? (i := 2) rfl)) (by decide) (by decide)) (g := (mkF m 64 #[.val (.int p1), .val (.int p2), .val (.int p3), .val (.int p4), .val (.long j1), .second, .val (.long j11), .second, .val (.long j21), .second, .val (.long j31), .second, .val (.double d36), .second, .val (.double d41), .second, .val (.double d46), .second, .val (.double d51), .second, .unset, .unset, .unset, .unset, .unset] [(.double d41), (.double d36), (.ref b_2), (.ref b_1), (.ref b_1)])) rfl (by rw [hml]; rfl) (Steps.refl _) (a := b_1) (argsL := [(.ref b_2), (.double d36), (.double d41)]) (rest := [(.ref b_1)]) (lenOf pd_1 rfl) rfl (by show 2 * 0 + _ ≤ _; exact Nat.le_of_eq rfl) (hb hby at_64) (fun _ _ => ⟨rfl, e_2, (by decide : 3 + 0 ≤ _), (by decide : 11 + 0 ≤ _)⟩)
  dsimp only [Pt.U, Pt.locs, Pt.cells, Pt.slots] at X_3 l_3 y_3 z_3 st_3 hQ_3
  subst l_3 y_3 z_3
  obtain ⟨rfl, N_3q, Kc_3, Ee_3, Ff_name__3, Ff_a__3, Ff_b__3⟩ := hQ_3
  have N_3 := Fr.app N0 N_3q
  have K_3 : Keep h0 T_3.heap [] := K_2.trans Kc_3 (allS (Or.inr sz_b_1) all0)
  have Z_3 : n0 ≤ T_3.heap.size := Nat.le_trans Z_2 Kc_3.1
  refine Go.tr st_3 ?_
  show Go p.tables e below P (T_3.setTop (mkF m 67 #[.val (.int p1), .val (.int p2), .val (.int p3), .val (.int p4), .val (.long j1), .second, .val (.long j11), .second, .val (.long j21), .second, .val (.long j31), .second, .val (.double d36), .second, .val (.double d41), .second, .val (.double d46), .second, .val (.double d51), .second, .unset, .unset, .unset, .unset, .unset] [(.ref b_1)]))
  have bab : j11.toInt - j1.toInt ≤ 32 := by omega
  refine Go.step (fun t k => XS.astore X_3.here hx rfl (hb hby at_67) rfl rfl (l' := #[.val (.int p1), .val (.int p2), .val (.int p3), .val (.int p4), .val (.long j1), .second, .val (.long j11), .second, .val (.long j21), .second, .val (.long j31), .second, .val (.double d36), .second, .val (.double d41), .second, .val (.double d46), .second, .val (.double d51), .second, .val (.ref b_1), .unset, .unset, .unset, .unset]) rfl k) ?_
  show Go p.tables e below P (T_3.setTop (mkF m 69 #[.val (.int p1), .val (.int p2), .val (.int p3), .val (.int p4), .val (.long j1), .second, .val (.long j11), .second, .val (.long j21), .second, .val (.long j31), .second, .val (.double d36), .second, .val (.double d41), .second, .val (.double d46), .second, .val (.double d51), .second, .val (.ref b_1), .unset, .unset, .unset, .unset] []))
  refine Go.step (fun t k => XS.aload X_3.here hx rfl (hb hby at_69) rfl rfl k) ?_
  show Go p.tables e below P (T_3.setTop (mkF m 71 #[.val (.int p1), .val (.int p2), .val (.int p3), .val (.int p4), .val (.long j1), .second, .val (.long j11), .second, .val (.long j21), .second, .val (.long j31), .second, .val (.double d36), .second, .val (.double d41), .second, .val (.double d46), .second, .val (.double d51), .second, .val (.ref b_1), .unset, .unset, .unset, .unset] [(.ref b_1)]))
  refine Go.step (fun t k => XS.dload X_3.here hx rfl (hb hby at_71) rfl  k) ?_
  show Go p.tables e below P (T_3.setTop (mkF m 73 #[.val (.int p1), .val (.int p2), .val (.int p3), .val (.int p4), .val (.long j1), .second, .val (.long j11), .second, .val (.long j21), .second, .val (.long j31), .second, .val (.double d36), .second, .val (.double d41), .second, .val (.double d46), .second, .val (.double d51), .second, .val (.ref b_1), .unset, .unset, .unset, .unset] [(.double d46), (.ref b_1)]))
  obtain ⟨cq_4, kq_4, q_4a, q_4b, q_4c⟩ := isOf hZ rfl ((A_1.ext E_2).keep Kc_3)
  obtain ⟨_, _, ⟨T_4, L_4, k_4, n_4⟩, -, X_4, ⟨Lc_4, hQ_4, l_4, y_4, z_4⟩, st_4⟩ := X_3.virtualBack hx (y := (⟨"com/example/orabona/orabona/model/FuzzySet$LeftShoulder", "degree", "(D)D"⟩ : MethodName)) (z := (⟨"com/example/orabona/orabona/model/FuzzySet$LeftShoulder", "degree", "(D)D"⟩ : MethodName)) hown (mvT hZ (hw _ (List.mem_of_getElem? (i := 28) rfl))) (mvT hZ (hw _ (List.mem_of_getElem? (i := 29) rfl))) (notFace_of_selects (args := #[]) (mvT hZ (hw _ (List.mem_of_getElem? (i := 31) rfl)))) (mvT hZ (hw _ (List.mem_of_getElem? (i := 31) rfl))) (mvT hZ (hw _ (List.mem_of_getElem? (i := 30) rfl))) (by decide) (backOf (W := 0) (rm5 l Z a0 hw [] b_1 d46 d36 d41 j1.toInt j11.toInt j21.toInt T_3.heap n0 Z_3 Ff_a__3 Ff_b__3 qj1 qj11 qj21 (by omega) (by omega) (by omega) bab) hZ (hw _ (List.mem_of_getElem? (i := 32) rfl)) (hw _ (List.mem_of_getElem? (i := 2) rfl)) (by decide) (by decide)) q_4a q_4c (g := (mkF m 73 #[.val (.int p1), .val (.int p2), .val (.int p3), .val (.int p4), .val (.long j1), .second, .val (.long j11), .second, .val (.long j21), .second, .val (.long j31), .second, .val (.double d36), .second, .val (.double d41), .second, .val (.double d46), .second, .val (.double d51), .second, .val (.ref b_1), .unset, .unset, .unset, .unset] [(.double d46), (.ref b_1)])) rfl (by rw [hml]; rfl) (Steps.refl _) (argsL := [(.double d46)]) (rest := []) (lenOf pd_2 rfl) rfl (by show 2 * 0 + _ ≤ _; exact Nat.le_of_eq rfl) (hb hby at_73) (fun _ _ => ⟨rfl, rfl, (by decide : 3 + 0 ≤ _), (by decide : 11 + 0 ≤ _)⟩)
  dsimp only [Pt.U, Pt.locs, Pt.cells, Pt.slots] at X_4 l_4 y_4 z_4 st_4 hQ_4
  subst l_4 y_4 z_4
  obtain ⟨d1, rfl, hd1, N_4q, eh_4⟩ := hQ_4
  have N_4 := Fr.app N_3 N_4q
  refine Go.tr st_4 ?_
  show Go p.tables e below P (T_4.setTop (mkF m 76 #[.val (.int p1), .val (.int p2), .val (.int p3), .val (.int p4), .val (.long j1), .second, .val (.long j11), .second, .val (.long j21), .second, .val (.long j31), .second, .val (.double d36), .second, .val (.double d41), .second, .val (.double d46), .second, .val (.double d51), .second, .val (.ref b_1), .unset, .unset, .unset, .unset] [(.double d1)]))
  refine Go.step (fun t k => XS.dstore X_4.here hx rfl (hb hby at_76) rfl (l' := #[.val (.int p1), .val (.int p2), .val (.int p3), .val (.int p4), .val (.long j1), .second, .val (.long j11), .second, .val (.long j21), .second, .val (.long j31), .second, .val (.double d36), .second, .val (.double d41), .second, .val (.double d46), .second, .val (.double d51), .second, .val (.ref b_1), .val (.double d1), .second, .unset, .unset]) rfl k) ?_
  show Go p.tables e below P (T_4.setTop (mkF m 78 #[.val (.int p1), .val (.int p2), .val (.int p3), .val (.int p4), .val (.long j1), .second, .val (.long j11), .second, .val (.long j21), .second, .val (.long j31), .second, .val (.double d36), .second, .val (.double d41), .second, .val (.double d46), .second, .val (.double d51), .second, .val (.ref b_1), .val (.double d1), .second, .unset, .unset] []))
  refine Go.step (fun t k => XS.aload X_4.here hx rfl (hb hby at_78) rfl rfl k) ?_
  show Go p.tables e below P (T_4.setTop (mkF m 80 #[.val (.int p1), .val (.int p2), .val (.int p3), .val (.int p4), .val (.long j1), .second, .val (.long j11), .second, .val (.long j21), .second, .val (.long j31), .second, .val (.double d36), .second, .val (.double d41), .second, .val (.double d46), .second, .val (.double d51), .second, .val (.ref b_1), .val (.double d1), .second, .unset, .unset] [(.ref b_1)]))
  refine Go.step (fun t k => XS.dload X_4.here hx rfl (hb hby at_80) rfl  k) ?_
  show Go p.tables e below P (T_4.setTop (mkF m 82 #[.val (.int p1), .val (.int p2), .val (.int p3), .val (.int p4), .val (.long j1), .second, .val (.long j11), .second, .val (.long j21), .second, .val (.long j31), .second, .val (.double d36), .second, .val (.double d41), .second, .val (.double d46), .second, .val (.double d51), .second, .val (.ref b_1), .val (.double d1), .second, .unset, .unset] [(.double d51), (.ref b_1)]))
  obtain ⟨cq_5, kq_5, q_5a, q_5b, q_5c⟩ := isOf hZ eh_4 ((A_1.ext E_2).keep Kc_3)
  obtain ⟨_, _, ⟨T_5, L_5, k_5, n_5⟩, -, X_5, ⟨Lc_5, hQ_5, l_5, y_5, z_5⟩, st_5⟩ := X_4.virtualBack hx (y := (⟨"com/example/orabona/orabona/model/FuzzySet$LeftShoulder", "degree", "(D)D"⟩ : MethodName)) (z := (⟨"com/example/orabona/orabona/model/FuzzySet$LeftShoulder", "degree", "(D)D"⟩ : MethodName)) hown (mvT hZ (hw _ (List.mem_of_getElem? (i := 28) rfl))) (mvT hZ (hw _ (List.mem_of_getElem? (i := 29) rfl))) (notFace_of_selects (args := #[]) (mvT hZ (hw _ (List.mem_of_getElem? (i := 31) rfl)))) (mvT hZ (hw _ (List.mem_of_getElem? (i := 31) rfl))) (mvT hZ (hw _ (List.mem_of_getElem? (i := 30) rfl))) (by decide) (backOf (W := 0) (rm5 l Z a0 hw [] b_1 d51 d36 d41 j1.toInt j11.toInt j31.toInt T_3.heap n0 Z_3 Ff_a__3 Ff_b__3 qj1 qj11 qj31 (by omega) (by omega) (by omega) bab) hZ (hw _ (List.mem_of_getElem? (i := 32) rfl)) (hw _ (List.mem_of_getElem? (i := 2) rfl)) (by decide) (by decide)) q_5a q_5c (g := (mkF m 82 #[.val (.int p1), .val (.int p2), .val (.int p3), .val (.int p4), .val (.long j1), .second, .val (.long j11), .second, .val (.long j21), .second, .val (.long j31), .second, .val (.double d36), .second, .val (.double d41), .second, .val (.double d46), .second, .val (.double d51), .second, .val (.ref b_1), .val (.double d1), .second, .unset, .unset] [(.double d51), (.ref b_1)])) rfl (by rw [hml]; rfl) (Steps.refl _) (argsL := [(.double d51)]) (rest := []) (lenOf pd_2 rfl) rfl (by show 2 * 0 + _ ≤ _; exact Nat.le_of_eq rfl) (hb hby at_82) (fun _ _ => ⟨rfl, eh_4, (by decide : 3 + 0 ≤ _), (by decide : 11 + 0 ≤ _)⟩)
  dsimp only [Pt.U, Pt.locs, Pt.cells, Pt.slots] at X_5 l_5 y_5 z_5 st_5 hQ_5
  subst l_5 y_5 z_5
  obtain ⟨d2, rfl, hd2, N_5q, eh_5⟩ := hQ_5
  have N_5 := Fr.app N_4 N_5q
  refine Go.tr st_5 ?_
  show Go p.tables e below P (T_5.setTop (mkF m 85 #[.val (.int p1), .val (.int p2), .val (.int p3), .val (.int p4), .val (.long j1), .second, .val (.long j11), .second, .val (.long j21), .second, .val (.long j31), .second, .val (.double d36), .second, .val (.double d41), .second, .val (.double d46), .second, .val (.double d51), .second, .val (.ref b_1), .val (.double d1), .second, .unset, .unset] [(.double d2)]))
  have fz : FP.Core.DFin FP.dconst0 := (zero_e 0).1
  have fo : FP.Core.DFin FP.dconst1 := one_k.1
  refine Go.step (fun t k => XS.dstore X_5.here hx rfl (hb hby at_85) rfl (l' := #[.val (.int p1), .val (.int p2), .val (.int p3), .val (.int p4), .val (.long j1), .second, .val (.long j11), .second, .val (.long j21), .second, .val (.long j31), .second, .val (.double d36), .second, .val (.double d41), .second, .val (.double d46), .second, .val (.double d51), .second, .val (.ref b_1), .val (.double d1), .second, .val (.double d2), .second]) rfl k) ?_
  show Go p.tables e below P (T_5.setTop (mkF m 87 #[.val (.int p1), .val (.int p2), .val (.int p3), .val (.int p4), .val (.long j1), .second, .val (.long j11), .second, .val (.long j21), .second, .val (.long j31), .second, .val (.double d36), .second, .val (.double d41), .second, .val (.double d46), .second, .val (.double d51), .second, .val (.ref b_1), .val (.double d1), .second, .val (.double d2), .second] []))
  refine Go.step (fun t k => XS.dload X_5.here hx rfl (hb hby at_87) rfl  k) ?_
  show Go p.tables e below P (T_5.setTop (mkF m 89 #[.val (.int p1), .val (.int p2), .val (.int p3), .val (.int p4), .val (.long j1), .second, .val (.long j11), .second, .val (.long j21), .second, .val (.long j31), .second, .val (.double d36), .second, .val (.double d41), .second, .val (.double d46), .second, .val (.double d51), .second, .val (.ref b_1), .val (.double d1), .second, .val (.double d2), .second] [(.double d1)]))
  refine Go.step (fun t k => XS.dconst0 X_5.here hx rfl (hb hby at_89) rfl k) ?_
  show Go p.tables e below P (T_5.setTop (mkF m 90 #[.val (.int p1), .val (.int p2), .val (.int p3), .val (.int p4), .val (.long j1), .second, .val (.long j11), .second, .val (.long j21), .second, .val (.long j31), .second, .val (.double d36), .second, .val (.double d41), .second, .val (.double d46), .second, .val (.double d51), .second, .val (.ref b_1), .val (.double d1), .second, .val (.double d2), .second] [(.double FP.dconst0), (.double d1)]))
  refine Go.step (fun t k => XS.dcmpS X_5.here hx rfl (hb hby at_90) rfl rfl k) ?_
  show Go p.tables e below P (T_5.setTop (mkF m 91 #[.val (.int p1), .val (.int p2), .val (.int p3), .val (.int p4), .val (.long j1), .second, .val (.long j11), .second, .val (.long j21), .second, .val (.long j31), .second, .val (.double d36), .second, .val (.double d41), .second, .val (.double d46), .second, .val (.double d51), .second, .val (.ref b_1), .val (.double d1), .second, .val (.double d2), .second] [(.int (cmpValue (FP.dcmp d1 FP.dconst0) .l))]))
  refine Go.step (fun t k => XS.ifNo X_5.here hx rfl (hb hby at_91) rfl (dcN (cd := .lt) (fin_cmp (hd1.b bab).1 fz) (hd1.lo bab)) k) ?_
  show Go p.tables e below P (T_5.setTop (mkF m 94 #[.val (.int p1), .val (.int p2), .val (.int p3), .val (.int p4), .val (.long j1), .second, .val (.long j11), .second, .val (.long j21), .second, .val (.long j31), .second, .val (.double d36), .second, .val (.double d41), .second, .val (.double d46), .second, .val (.double d51), .second, .val (.ref b_1), .val (.double d1), .second, .val (.double d2), .second] []))
  refine Go.step (fun t k => XS.dload X_5.here hx rfl (hb hby at_94) rfl  k) ?_
  show Go p.tables e below P (T_5.setTop (mkF m 96 #[.val (.int p1), .val (.int p2), .val (.int p3), .val (.int p4), .val (.long j1), .second, .val (.long j11), .second, .val (.long j21), .second, .val (.long j31), .second, .val (.double d36), .second, .val (.double d41), .second, .val (.double d46), .second, .val (.double d51), .second, .val (.ref b_1), .val (.double d1), .second, .val (.double d2), .second] [(.double d1)]))
  refine Go.step (fun t k => XS.dconst1 X_5.here hx rfl (hb hby at_96) rfl k) ?_
  show Go p.tables e below P (T_5.setTop (mkF m 97 #[.val (.int p1), .val (.int p2), .val (.int p3), .val (.int p4), .val (.long j1), .second, .val (.long j11), .second, .val (.long j21), .second, .val (.long j31), .second, .val (.double d36), .second, .val (.double d41), .second, .val (.double d46), .second, .val (.double d51), .second, .val (.ref b_1), .val (.double d1), .second, .val (.double d2), .second] [(.double FP.dconst1), (.double d1)]))
  refine Go.step (fun t k => XS.dcmpS X_5.here hx rfl (hb hby at_97) rfl rfl k) ?_
  show Go p.tables e below P (T_5.setTop (mkF m 98 #[.val (.int p1), .val (.int p2), .val (.int p3), .val (.int p4), .val (.long j1), .second, .val (.long j11), .second, .val (.long j21), .second, .val (.long j31), .second, .val (.double d36), .second, .val (.double d41), .second, .val (.double d46), .second, .val (.double d51), .second, .val (.ref b_1), .val (.double d1), .second, .val (.double d2), .second] [(.int (cmpValue (FP.dcmp d1 FP.dconst1) .g))]))
  refine Go.step (fun t k => XS.ifYes X_5.here hx rfl (pc0 := 98) (pc' := 103) rfl (hb hby at_98) rfl (dcY (cd := .le) (fin_cmp (hd1.b bab).1 fo) (hd1.hi bab)) (by decide) (by decide) k) ?_
  show Go p.tables e below P (T_5.setTop (mkF m 103 #[.val (.int p1), .val (.int p2), .val (.int p3), .val (.int p4), .val (.long j1), .second, .val (.long j11), .second, .val (.long j21), .second, .val (.long j31), .second, .val (.double d36), .second, .val (.double d41), .second, .val (.double d46), .second, .val (.double d51), .second, .val (.ref b_1), .val (.double d1), .second, .val (.double d2), .second] []))
  refine Go.step (fun t k => XS.dload X_5.here hx rfl (hb hby at_103) rfl  k) ?_
  show Go p.tables e below P (T_5.setTop (mkF m 105 #[.val (.int p1), .val (.int p2), .val (.int p3), .val (.int p4), .val (.long j1), .second, .val (.long j11), .second, .val (.long j21), .second, .val (.long j31), .second, .val (.double d36), .second, .val (.double d41), .second, .val (.double d46), .second, .val (.double d51), .second, .val (.ref b_1), .val (.double d1), .second, .val (.double d2), .second] [(.double d2)]))
  refine Go.step (fun t k => XS.dconst0 X_5.here hx rfl (hb hby at_105) rfl k) ?_
  show Go p.tables e below P (T_5.setTop (mkF m 106 #[.val (.int p1), .val (.int p2), .val (.int p3), .val (.int p4), .val (.long j1), .second, .val (.long j11), .second, .val (.long j21), .second, .val (.long j31), .second, .val (.double d36), .second, .val (.double d41), .second, .val (.double d46), .second, .val (.double d51), .second, .val (.ref b_1), .val (.double d1), .second, .val (.double d2), .second] [(.double FP.dconst0), (.double d2)]))
  refine Go.step (fun t k => XS.dcmpS X_5.here hx rfl (hb hby at_106) rfl rfl k) ?_
  show Go p.tables e below P (T_5.setTop (mkF m 107 #[.val (.int p1), .val (.int p2), .val (.int p3), .val (.int p4), .val (.long j1), .second, .val (.long j11), .second, .val (.long j21), .second, .val (.long j31), .second, .val (.double d36), .second, .val (.double d41), .second, .val (.double d46), .second, .val (.double d51), .second, .val (.ref b_1), .val (.double d1), .second, .val (.double d2), .second] [(.int (cmpValue (FP.dcmp d2 FP.dconst0) .l))]))
  refine Go.step (fun t k => XS.ifNo X_5.here hx rfl (hb hby at_107) rfl (dcN (cd := .lt) (fin_cmp (hd2.b bab).1 fz) (hd2.lo bab)) k) ?_
  show Go p.tables e below P (T_5.setTop (mkF m 110 #[.val (.int p1), .val (.int p2), .val (.int p3), .val (.int p4), .val (.long j1), .second, .val (.long j11), .second, .val (.long j21), .second, .val (.long j31), .second, .val (.double d36), .second, .val (.double d41), .second, .val (.double d46), .second, .val (.double d51), .second, .val (.ref b_1), .val (.double d1), .second, .val (.double d2), .second] []))
  refine Go.step (fun t k => XS.dload X_5.here hx rfl (hb hby at_110) rfl  k) ?_
  show Go p.tables e below P (T_5.setTop (mkF m 112 #[.val (.int p1), .val (.int p2), .val (.int p3), .val (.int p4), .val (.long j1), .second, .val (.long j11), .second, .val (.long j21), .second, .val (.long j31), .second, .val (.double d36), .second, .val (.double d41), .second, .val (.double d46), .second, .val (.double d51), .second, .val (.ref b_1), .val (.double d1), .second, .val (.double d2), .second] [(.double d2)]))
  refine Go.step (fun t k => XS.dconst1 X_5.here hx rfl (hb hby at_112) rfl k) ?_
  show Go p.tables e below P (T_5.setTop (mkF m 113 #[.val (.int p1), .val (.int p2), .val (.int p3), .val (.int p4), .val (.long j1), .second, .val (.long j11), .second, .val (.long j21), .second, .val (.long j31), .second, .val (.double d36), .second, .val (.double d41), .second, .val (.double d46), .second, .val (.double d51), .second, .val (.ref b_1), .val (.double d1), .second, .val (.double d2), .second] [(.double FP.dconst1), (.double d2)]))
  refine Go.step (fun t k => XS.dcmpS X_5.here hx rfl (hb hby at_113) rfl rfl k) ?_
  show Go p.tables e below P (T_5.setTop (mkF m 114 #[.val (.int p1), .val (.int p2), .val (.int p3), .val (.int p4), .val (.long j1), .second, .val (.long j11), .second, .val (.long j21), .second, .val (.long j31), .second, .val (.double d36), .second, .val (.double d41), .second, .val (.double d46), .second, .val (.double d51), .second, .val (.ref b_1), .val (.double d1), .second, .val (.double d2), .second] [(.int (cmpValue (FP.dcmp d2 FP.dconst1) .g))]))
  refine Go.step (fun t k => XS.ifYes X_5.here hx rfl (pc0 := 114) (pc' := 119) rfl (hb hby at_114) rfl (dcY (cd := .le) (fin_cmp (hd2.b bab).1 fo) (hd2.hi bab)) (by decide) (by decide) k) ?_
  show Go p.tables e below P (T_5.setTop (mkF m 119 #[.val (.int p1), .val (.int p2), .val (.int p3), .val (.int p4), .val (.long j1), .second, .val (.long j11), .second, .val (.long j21), .second, .val (.long j31), .second, .val (.double d36), .second, .val (.double d41), .second, .val (.double d46), .second, .val (.double d51), .second, .val (.ref b_1), .val (.double d1), .second, .val (.double d2), .second] []))
  refine Go.step (fun t k => XS.lload X_5.here hx rfl (hb hby at_119) rfl  k) ?_
  show Go p.tables e below P (T_5.setTop (mkF m 121 #[.val (.int p1), .val (.int p2), .val (.int p3), .val (.int p4), .val (.long j1), .second, .val (.long j11), .second, .val (.long j21), .second, .val (.long j31), .second, .val (.double d36), .second, .val (.double d41), .second, .val (.double d46), .second, .val (.double d51), .second, .val (.ref b_1), .val (.double d1), .second, .val (.double d2), .second] [(.long j1)]))
  refine Go.step (fun t k => XS.lload X_5.here hx rfl (hb hby at_121) rfl  k) ?_
  show Go p.tables e below P (T_5.setTop (mkF m 123 #[.val (.int p1), .val (.int p2), .val (.int p3), .val (.int p4), .val (.long j1), .second, .val (.long j11), .second, .val (.long j21), .second, .val (.long j31), .second, .val (.double d36), .second, .val (.double d41), .second, .val (.double d46), .second, .val (.double d51), .second, .val (.ref b_1), .val (.double d1), .second, .val (.double d2), .second] [(.long j11), (.long j1)]))
  refine Go.step (fun t k => XS.lload X_5.here hx rfl (hb hby at_123) rfl  k) ?_
  show Go p.tables e below P (T_5.setTop (mkF m 125 #[.val (.int p1), .val (.int p2), .val (.int p3), .val (.int p4), .val (.long j1), .second, .val (.long j11), .second, .val (.long j21), .second, .val (.long j31), .second, .val (.double d36), .second, .val (.double d41), .second, .val (.double d46), .second, .val (.double d51), .second, .val (.ref b_1), .val (.double d1), .second, .val (.double d2), .second] [(.long j21), (.long j11), (.long j1)]))
  refine Go.step (fun t k => XS.dload X_5.here hx rfl (hb hby at_125) rfl  k) ?_
  show Go p.tables e below P (T_5.setTop (mkF m 127 #[.val (.int p1), .val (.int p2), .val (.int p3), .val (.int p4), .val (.long j1), .second, .val (.long j11), .second, .val (.long j21), .second, .val (.long j31), .second, .val (.double d36), .second, .val (.double d41), .second, .val (.double d46), .second, .val (.double d51), .second, .val (.ref b_1), .val (.double d1), .second, .val (.double d2), .second] [(.double d1), (.long j21), (.long j11), (.long j1)]))
  obtain ⟨_, _, ⟨T_6, L_6, k_6, n_6⟩, -, X_6, ⟨Lc_6, hQ_6, l_6, y_6, z_6⟩, st_6⟩ := Jvm.LawKit.callS X_5 hx (y := (⟨"com/example/orabona/orabona/model/LeftShoulderDegreePinLaw", "expected", "(JJJD)Z"⟩ : MethodName)) hown (mvT hZ (hw _ (List.mem_of_getElem? (i := 33) rfl))) (mvT hZ (hw _ (List.mem_of_getElem? (i := 34) rfl))) (mvT hZ (hw _ (List.mem_of_getElem? (i := 35) rfl))) (mvT hZ (hw _ (List.mem_of_getElem? (i := 36) rfl))) (by decide) (backOf (W := 0) (rm6 l Z a0 hw [] j1 j11 j21 d1 T_3.heap n0 Z_3 (by omega) (by omega) (by omega) bab hd1) hZ (hw _ (List.mem_of_getElem? (i := 36) rfl)) (hw _ (List.mem_of_getElem? (i := 35) rfl)) (by decide) (by decide)) (g := (mkF m 127 #[.val (.int p1), .val (.int p2), .val (.int p3), .val (.int p4), .val (.long j1), .second, .val (.long j11), .second, .val (.long j21), .second, .val (.long j31), .second, .val (.double d36), .second, .val (.double d41), .second, .val (.double d46), .second, .val (.double d51), .second, .val (.ref b_1), .val (.double d1), .second, .val (.double d2), .second] [(.double d1), (.long j21), (.long j11), (.long j1)])) rfl (by rw [hml]; rfl) (argsL := [(.long j1), (.long j11), (.long j21), (.double d1)]) (rest := []) (lenOf pd_3 rfl) rfl (by show 2 * 0 + _ ≤ _; exact Nat.le_of_eq rfl) (hb hby at_127) (fun _ _ => ⟨rfl, eh_5, (by decide : 3 + 0 ≤ _), (by decide : 11 + 0 ≤ _)⟩)
  dsimp only [Pt.U, Pt.locs, Pt.cells, Pt.slots] at X_6 l_6 y_6 z_6 st_6 hQ_6
  subst l_6 y_6 z_6
  obtain ⟨rfl, N_6q, eh_6⟩ := hQ_6
  have N_6 := Fr.app N_5 N_6q
  refine Go.step (fun t k => st_6 t k) ?_
  show Go p.tables e below P (T_6.setTop (mkF m 130 #[.val (.int p1), .val (.int p2), .val (.int p3), .val (.int p4), .val (.long j1), .second, .val (.long j11), .second, .val (.long j21), .second, .val (.long j31), .second, .val (.double d36), .second, .val (.double d41), .second, .val (.double d46), .second, .val (.double d51), .second, .val (.ref b_1), .val (.double d1), .second, .val (.double d2), .second] [(.int (1 : Int32))]))
  refine Go.step (fun t k => XS.ifYes X_6.here hx rfl (pc0 := 130) (pc' := 135) rfl (hb hby at_130) rfl (ifY (cd := .ne) (by decide : ¬ (1 : Int32).toInt = 0)) (by decide) (by decide) k) ?_
  show Go p.tables e below P (T_6.setTop (mkF m 135 #[.val (.int p1), .val (.int p2), .val (.int p3), .val (.int p4), .val (.long j1), .second, .val (.long j11), .second, .val (.long j21), .second, .val (.long j31), .second, .val (.double d36), .second, .val (.double d41), .second, .val (.double d46), .second, .val (.double d51), .second, .val (.ref b_1), .val (.double d1), .second, .val (.double d2), .second] []))
  refine Go.step (fun t k => XS.lload X_6.here hx rfl (hb hby at_135) rfl  k) ?_
  show Go p.tables e below P (T_6.setTop (mkF m 137 #[.val (.int p1), .val (.int p2), .val (.int p3), .val (.int p4), .val (.long j1), .second, .val (.long j11), .second, .val (.long j21), .second, .val (.long j31), .second, .val (.double d36), .second, .val (.double d41), .second, .val (.double d46), .second, .val (.double d51), .second, .val (.ref b_1), .val (.double d1), .second, .val (.double d2), .second] [(.long j1)]))
  refine Go.step (fun t k => XS.lload X_6.here hx rfl (hb hby at_137) rfl  k) ?_
  show Go p.tables e below P (T_6.setTop (mkF m 139 #[.val (.int p1), .val (.int p2), .val (.int p3), .val (.int p4), .val (.long j1), .second, .val (.long j11), .second, .val (.long j21), .second, .val (.long j31), .second, .val (.double d36), .second, .val (.double d41), .second, .val (.double d46), .second, .val (.double d51), .second, .val (.ref b_1), .val (.double d1), .second, .val (.double d2), .second] [(.long j11), (.long j1)]))
  refine Go.step (fun t k => XS.lload X_6.here hx rfl (hb hby at_139) rfl  k) ?_
  show Go p.tables e below P (T_6.setTop (mkF m 141 #[.val (.int p1), .val (.int p2), .val (.int p3), .val (.int p4), .val (.long j1), .second, .val (.long j11), .second, .val (.long j21), .second, .val (.long j31), .second, .val (.double d36), .second, .val (.double d41), .second, .val (.double d46), .second, .val (.double d51), .second, .val (.ref b_1), .val (.double d1), .second, .val (.double d2), .second] [(.long j31), (.long j11), (.long j1)]))
  refine Go.step (fun t k => XS.dload X_6.here hx rfl (hb hby at_141) rfl  k) ?_
  show Go p.tables e below P (T_6.setTop (mkF m 143 #[.val (.int p1), .val (.int p2), .val (.int p3), .val (.int p4), .val (.long j1), .second, .val (.long j11), .second, .val (.long j21), .second, .val (.long j31), .second, .val (.double d36), .second, .val (.double d41), .second, .val (.double d46), .second, .val (.double d51), .second, .val (.ref b_1), .val (.double d1), .second, .val (.double d2), .second] [(.double d2), (.long j31), (.long j11), (.long j1)]))
  obtain ⟨_, _, ⟨T_7, L_7, k_7, n_7⟩, -, X_7, ⟨Lc_7, hQ_7, l_7, y_7, z_7⟩, st_7⟩ := Jvm.LawKit.callS X_6 hx (y := (⟨"com/example/orabona/orabona/model/LeftShoulderDegreePinLaw", "expected", "(JJJD)Z"⟩ : MethodName)) hown (mvT hZ (hw _ (List.mem_of_getElem? (i := 33) rfl))) (mvT hZ (hw _ (List.mem_of_getElem? (i := 34) rfl))) (mvT hZ (hw _ (List.mem_of_getElem? (i := 35) rfl))) (mvT hZ (hw _ (List.mem_of_getElem? (i := 36) rfl))) (by decide) (backOf (W := 0) (rm6 l Z a0 hw [] j1 j11 j31 d2 T_3.heap n0 Z_3 (by omega) (by omega) (by omega) bab hd2) hZ (hw _ (List.mem_of_getElem? (i := 36) rfl)) (hw _ (List.mem_of_getElem? (i := 35) rfl)) (by decide) (by decide)) (g := (mkF m 143 #[.val (.int p1), .val (.int p2), .val (.int p3), .val (.int p4), .val (.long j1), .second, .val (.long j11), .second, .val (.long j21), .second, .val (.long j31), .second, .val (.double d36), .second, .val (.double d41), .second, .val (.double d46), .second, .val (.double d51), .second, .val (.ref b_1), .val (.double d1), .second, .val (.double d2), .second] [(.double d2), (.long j31), (.long j11), (.long j1)])) rfl (by rw [hml]; rfl) (argsL := [(.long j1), (.long j11), (.long j31), (.double d2)]) (rest := []) (lenOf pd_3 rfl) rfl (by show 2 * 0 + _ ≤ _; exact Nat.le_of_eq rfl) (hb hby at_143) (fun _ _ => ⟨rfl, eh_6, (by decide : 3 + 0 ≤ _), (by decide : 11 + 0 ≤ _)⟩)
  dsimp only [Pt.U, Pt.locs, Pt.cells, Pt.slots] at X_7 l_7 y_7 z_7 st_7 hQ_7
  subst l_7 y_7 z_7
  obtain ⟨rfl, N_7q, eh_7⟩ := hQ_7
  have N_7 := Fr.app N_6 N_7q
  refine Go.step (fun t k => st_7 t k) ?_
  show Go p.tables e below P (T_7.setTop (mkF m 146 #[.val (.int p1), .val (.int p2), .val (.int p3), .val (.int p4), .val (.long j1), .second, .val (.long j11), .second, .val (.long j21), .second, .val (.long j31), .second, .val (.double d36), .second, .val (.double d41), .second, .val (.double d46), .second, .val (.double d51), .second, .val (.ref b_1), .val (.double d1), .second, .val (.double d2), .second] [(.int (1 : Int32))]))
  refine Go.step (fun t k => XS.ifYes X_7.here hx rfl (pc0 := 146) (pc' := 151) rfl (hb hby at_146) rfl (ifY (cd := .ne) (by decide : ¬ (1 : Int32).toInt = 0)) (by decide) (by decide) k) ?_
  show Go p.tables e below P (T_7.setTop (mkF m 151 #[.val (.int p1), .val (.int p2), .val (.int p3), .val (.int p4), .val (.long j1), .second, .val (.long j11), .second, .val (.long j21), .second, .val (.long j31), .second, .val (.double d36), .second, .val (.double d41), .second, .val (.double d46), .second, .val (.double d51), .second, .val (.ref b_1), .val (.double d1), .second, .val (.double d2), .second] []))
  refine Go.step (fun t k => XS.lload X_7.here hx rfl (hb hby at_151) rfl  k) ?_
  show Go p.tables e below P (T_7.setTop (mkF m 153 #[.val (.int p1), .val (.int p2), .val (.int p3), .val (.int p4), .val (.long j1), .second, .val (.long j11), .second, .val (.long j21), .second, .val (.long j31), .second, .val (.double d36), .second, .val (.double d41), .second, .val (.double d46), .second, .val (.double d51), .second, .val (.ref b_1), .val (.double d1), .second, .val (.double d2), .second] [(.long j21)]))
  refine Go.step (fun t k => XS.lload X_7.here hx rfl (hb hby at_153) rfl  k) ?_
  show Go p.tables e below P (T_7.setTop (mkF m 155 #[.val (.int p1), .val (.int p2), .val (.int p3), .val (.int p4), .val (.long j1), .second, .val (.long j11), .second, .val (.long j21), .second, .val (.long j31), .second, .val (.double d36), .second, .val (.double d41), .second, .val (.double d46), .second, .val (.double d51), .second, .val (.ref b_1), .val (.double d1), .second, .val (.double d2), .second] [(.long j31), (.long j21)]))
  refine Go.step (fun t k => XS.lcmp X_7.here hx rfl (hb hby at_155) rfl k) ?_
  show Go p.tables e below P (T_7.setTop (mkF m 156 #[.val (.int p1), .val (.int p2), .val (.int p3), .val (.int p4), .val (.long j1), .second, .val (.long j11), .second, .val (.long j21), .second, .val (.long j31), .second, .val (.double d36), .second, .val (.double d41), .second, .val (.double d46), .second, .val (.double d51), .second, .val (.ref b_1), .val (.double d1), .second, .val (.double d2), .second] [(.int (lcmpW j21 j31))]))
  by_cases hc156 : j31.toInt < j21.toInt
  · refine Go.step (fun t k => XS.ifYes X_7.here hx rfl (pc0 := 156) (pc' := 169) rfl (hb hby at_156) rfl (lcY (cd := .gt) hc156) (by decide) (by decide) k) ?_
    show Go p.tables e below P (T_7.setTop (mkF m 169 #[.val (.int p1), .val (.int p2), .val (.int p3), .val (.int p4), .val (.long j1), .second, .val (.long j11), .second, .val (.long j21), .second, .val (.long j31), .second, .val (.double d36), .second, .val (.double d41), .second, .val (.double d46), .second, .val (.double d51), .second, .val (.ref b_1), .val (.double d1), .second, .val (.double d2), .second] []))
    refine Go.step (fun t k => XS.lload X_7.here hx rfl (hb hby at_169) rfl  k) ?_
    show Go p.tables e below P (T_7.setTop (mkF m 171 #[.val (.int p1), .val (.int p2), .val (.int p3), .val (.int p4), .val (.long j1), .second, .val (.long j11), .second, .val (.long j21), .second, .val (.long j31), .second, .val (.double d36), .second, .val (.double d41), .second, .val (.double d46), .second, .val (.double d51), .second, .val (.ref b_1), .val (.double d1), .second, .val (.double d2), .second] [(.long j31)]))
    refine Go.step (fun t k => XS.lload X_7.here hx rfl (hb hby at_171) rfl  k) ?_
    show Go p.tables e below P (T_7.setTop (mkF m 173 #[.val (.int p1), .val (.int p2), .val (.int p3), .val (.int p4), .val (.long j1), .second, .val (.long j11), .second, .val (.long j21), .second, .val (.long j31), .second, .val (.double d36), .second, .val (.double d41), .second, .val (.double d46), .second, .val (.double d51), .second, .val (.ref b_1), .val (.double d1), .second, .val (.double d2), .second] [(.long j21), (.long j31)]))
    refine Go.step (fun t k => XS.lcmp X_7.here hx rfl (hb hby at_173) rfl k) ?_
    show Go p.tables e below P (T_7.setTop (mkF m 174 #[.val (.int p1), .val (.int p2), .val (.int p3), .val (.int p4), .val (.long j1), .second, .val (.long j11), .second, .val (.long j21), .second, .val (.long j31), .second, .val (.double d36), .second, .val (.double d41), .second, .val (.double d46), .second, .val (.double d51), .second, .val (.ref b_1), .val (.double d1), .second, .val (.double d2), .second] [(.int (lcmpW j31 j21))]))
    by_cases hc174 : j21.toInt < j31.toInt
    · refine Go.step (fun t k => XS.ifYes X_7.here hx rfl (pc0 := 174) (pc' := 187) rfl (hb hby at_174) rfl (lcY (cd := .gt) hc174) (by decide) (by decide) k) ?_
      show Go p.tables e below P (T_7.setTop (mkF m 187 #[.val (.int p1), .val (.int p2), .val (.int p3), .val (.int p4), .val (.long j1), .second, .val (.long j11), .second, .val (.long j21), .second, .val (.long j31), .second, .val (.double d36), .second, .val (.double d41), .second, .val (.double d46), .second, .val (.double d51), .second, .val (.ref b_1), .val (.double d1), .second, .val (.double d2), .second] []))
      refine Go.step (fun t k => XS.iconst X_7.here hx rfl (hb hby at_187) k) ?_
      show Go p.tables e below P (T_7.setTop (mkF m 188 #[.val (.int p1), .val (.int p2), .val (.int p3), .val (.int p4), .val (.long j1), .second, .val (.long j11), .second, .val (.long j21), .second, .val (.long j31), .second, .val (.double d36), .second, .val (.double d41), .second, .val (.double d46), .second, .val (.double d51), .second, .val (.ref b_1), .val (.double d1), .second, .val (.double d2), .second] [(.int (1 : Int32))]))
      exact retGoW X_7 hx hS (by rw [eh_7]; exact (Nat.le_trans hk_2 Kc_3.1)) hP Bd.returns hlk rfl (Or.inl ⟨rfl, Or.inr (Or.inl rfl), _, rfl⟩) (hb hby at_188) (by decide) (by decide) (by rw [eh_7]; exact ⟨rfl, N_7⟩)
    · refine Go.step (fun t k => XS.ifNo X_7.here hx rfl (hb hby at_174) rfl (lcN (cd := .gt) hc174) k) ?_
      show Go p.tables e below P (T_7.setTop (mkF m 177 #[.val (.int p1), .val (.int p2), .val (.int p3), .val (.int p4), .val (.long j1), .second, .val (.long j11), .second, .val (.long j21), .second, .val (.long j31), .second, .val (.double d36), .second, .val (.double d41), .second, .val (.double d46), .second, .val (.double d51), .second, .val (.ref b_1), .val (.double d1), .second, .val (.double d2), .second] []))
      refine Go.step (fun t k => XS.dload X_7.here hx rfl (hb hby at_177) rfl  k) ?_
      show Go p.tables e below P (T_7.setTop (mkF m 179 #[.val (.int p1), .val (.int p2), .val (.int p3), .val (.int p4), .val (.long j1), .second, .val (.long j11), .second, .val (.long j21), .second, .val (.long j31), .second, .val (.double d36), .second, .val (.double d41), .second, .val (.double d46), .second, .val (.double d51), .second, .val (.ref b_1), .val (.double d1), .second, .val (.double d2), .second] [(.double d2)]))
      refine Go.step (fun t k => XS.dload X_7.here hx rfl (hb hby at_179) rfl  k) ?_
      show Go p.tables e below P (T_7.setTop (mkF m 181 #[.val (.int p1), .val (.int p2), .val (.int p3), .val (.int p4), .val (.long j1), .second, .val (.long j11), .second, .val (.long j21), .second, .val (.long j31), .second, .val (.double d36), .second, .val (.double d41), .second, .val (.double d46), .second, .val (.double d51), .second, .val (.ref b_1), .val (.double d1), .second, .val (.double d2), .second] [(.double d1), (.double d2)]))
      refine Go.step (fun t k => XS.dcmpS X_7.here hx rfl (hb hby at_181) rfl rfl k) ?_
      show Go p.tables e below P (T_7.setTop (mkF m 182 #[.val (.int p1), .val (.int p2), .val (.int p3), .val (.int p4), .val (.long j1), .second, .val (.long j11), .second, .val (.long j21), .second, .val (.long j31), .second, .val (.double d36), .second, .val (.double d41), .second, .val (.double d46), .second, .val (.double d51), .second, .val (.ref b_1), .val (.double d1), .second, .val (.double d2), .second] [(.int (cmpValue (FP.dcmp d2 d1) .g))]))
      refine Go.step (fun t k => XS.ifYes X_7.here hx rfl (pc0 := 182) (pc' := 187) rfl (hb hby at_182) rfl (dcY (cd := .ge) (fin_cmp (hd2.b bab).1 (hd1.b bab).1) (hd2.mono bab hd1 (by omega))) (by decide) (by decide) k) ?_
      show Go p.tables e below P (T_7.setTop (mkF m 187 #[.val (.int p1), .val (.int p2), .val (.int p3), .val (.int p4), .val (.long j1), .second, .val (.long j11), .second, .val (.long j21), .second, .val (.long j31), .second, .val (.double d36), .second, .val (.double d41), .second, .val (.double d46), .second, .val (.double d51), .second, .val (.ref b_1), .val (.double d1), .second, .val (.double d2), .second] []))
      refine Go.step (fun t k => XS.iconst X_7.here hx rfl (hb hby at_187) k) ?_
      show Go p.tables e below P (T_7.setTop (mkF m 188 #[.val (.int p1), .val (.int p2), .val (.int p3), .val (.int p4), .val (.long j1), .second, .val (.long j11), .second, .val (.long j21), .second, .val (.long j31), .second, .val (.double d36), .second, .val (.double d41), .second, .val (.double d46), .second, .val (.double d51), .second, .val (.ref b_1), .val (.double d1), .second, .val (.double d2), .second] [(.int (1 : Int32))]))
      exact retGoW X_7 hx hS (by rw [eh_7]; exact (Nat.le_trans hk_2 Kc_3.1)) hP Bd.returns hlk rfl (Or.inl ⟨rfl, Or.inr (Or.inl rfl), _, rfl⟩) (hb hby at_188) (by decide) (by decide) (by rw [eh_7]; exact ⟨rfl, N_7⟩)
  · refine Go.step (fun t k => XS.ifNo X_7.here hx rfl (hb hby at_156) rfl (lcN (cd := .gt) hc156) k) ?_
    show Go p.tables e below P (T_7.setTop (mkF m 159 #[.val (.int p1), .val (.int p2), .val (.int p3), .val (.int p4), .val (.long j1), .second, .val (.long j11), .second, .val (.long j21), .second, .val (.long j31), .second, .val (.double d36), .second, .val (.double d41), .second, .val (.double d46), .second, .val (.double d51), .second, .val (.ref b_1), .val (.double d1), .second, .val (.double d2), .second] []))
    refine Go.step (fun t k => XS.dload X_7.here hx rfl (hb hby at_159) rfl  k) ?_
    show Go p.tables e below P (T_7.setTop (mkF m 161 #[.val (.int p1), .val (.int p2), .val (.int p3), .val (.int p4), .val (.long j1), .second, .val (.long j11), .second, .val (.long j21), .second, .val (.long j31), .second, .val (.double d36), .second, .val (.double d41), .second, .val (.double d46), .second, .val (.double d51), .second, .val (.ref b_1), .val (.double d1), .second, .val (.double d2), .second] [(.double d1)]))
    refine Go.step (fun t k => XS.dload X_7.here hx rfl (hb hby at_161) rfl  k) ?_
    show Go p.tables e below P (T_7.setTop (mkF m 163 #[.val (.int p1), .val (.int p2), .val (.int p3), .val (.int p4), .val (.long j1), .second, .val (.long j11), .second, .val (.long j21), .second, .val (.long j31), .second, .val (.double d36), .second, .val (.double d41), .second, .val (.double d46), .second, .val (.double d51), .second, .val (.ref b_1), .val (.double d1), .second, .val (.double d2), .second] [(.double d2), (.double d1)]))
    refine Go.step (fun t k => XS.dcmpS X_7.here hx rfl (hb hby at_163) rfl rfl k) ?_
    show Go p.tables e below P (T_7.setTop (mkF m 164 #[.val (.int p1), .val (.int p2), .val (.int p3), .val (.int p4), .val (.long j1), .second, .val (.long j11), .second, .val (.long j21), .second, .val (.long j31), .second, .val (.double d36), .second, .val (.double d41), .second, .val (.double d46), .second, .val (.double d51), .second, .val (.ref b_1), .val (.double d1), .second, .val (.double d2), .second] [(.int (cmpValue (FP.dcmp d1 d2) .g))]))
    refine Go.step (fun t k => XS.ifYes X_7.here hx rfl (pc0 := 164) (pc' := 169) rfl (hb hby at_164) rfl (dcY (cd := .ge) (fin_cmp (hd1.b bab).1 (hd2.b bab).1) (hd1.mono bab hd2 (by omega))) (by decide) (by decide) k) ?_
    show Go p.tables e below P (T_7.setTop (mkF m 169 #[.val (.int p1), .val (.int p2), .val (.int p3), .val (.int p4), .val (.long j1), .second, .val (.long j11), .second, .val (.long j21), .second, .val (.long j31), .second, .val (.double d36), .second, .val (.double d41), .second, .val (.double d46), .second, .val (.double d51), .second, .val (.ref b_1), .val (.double d1), .second, .val (.double d2), .second] []))
    refine Go.step (fun t k => XS.lload X_7.here hx rfl (hb hby at_169) rfl  k) ?_
    show Go p.tables e below P (T_7.setTop (mkF m 171 #[.val (.int p1), .val (.int p2), .val (.int p3), .val (.int p4), .val (.long j1), .second, .val (.long j11), .second, .val (.long j21), .second, .val (.long j31), .second, .val (.double d36), .second, .val (.double d41), .second, .val (.double d46), .second, .val (.double d51), .second, .val (.ref b_1), .val (.double d1), .second, .val (.double d2), .second] [(.long j31)]))
    refine Go.step (fun t k => XS.lload X_7.here hx rfl (hb hby at_171) rfl  k) ?_
    show Go p.tables e below P (T_7.setTop (mkF m 173 #[.val (.int p1), .val (.int p2), .val (.int p3), .val (.int p4), .val (.long j1), .second, .val (.long j11), .second, .val (.long j21), .second, .val (.long j31), .second, .val (.double d36), .second, .val (.double d41), .second, .val (.double d46), .second, .val (.double d51), .second, .val (.ref b_1), .val (.double d1), .second, .val (.double d2), .second] [(.long j21), (.long j31)]))
    refine Go.step (fun t k => XS.lcmp X_7.here hx rfl (hb hby at_173) rfl k) ?_
    show Go p.tables e below P (T_7.setTop (mkF m 174 #[.val (.int p1), .val (.int p2), .val (.int p3), .val (.int p4), .val (.long j1), .second, .val (.long j11), .second, .val (.long j21), .second, .val (.long j31), .second, .val (.double d36), .second, .val (.double d41), .second, .val (.double d46), .second, .val (.double d51), .second, .val (.ref b_1), .val (.double d1), .second, .val (.double d2), .second] [(.int (lcmpW j31 j21))]))
    by_cases hc174 : j21.toInt < j31.toInt
    · refine Go.step (fun t k => XS.ifYes X_7.here hx rfl (pc0 := 174) (pc' := 187) rfl (hb hby at_174) rfl (lcY (cd := .gt) hc174) (by decide) (by decide) k) ?_
      show Go p.tables e below P (T_7.setTop (mkF m 187 #[.val (.int p1), .val (.int p2), .val (.int p3), .val (.int p4), .val (.long j1), .second, .val (.long j11), .second, .val (.long j21), .second, .val (.long j31), .second, .val (.double d36), .second, .val (.double d41), .second, .val (.double d46), .second, .val (.double d51), .second, .val (.ref b_1), .val (.double d1), .second, .val (.double d2), .second] []))
      refine Go.step (fun t k => XS.iconst X_7.here hx rfl (hb hby at_187) k) ?_
      show Go p.tables e below P (T_7.setTop (mkF m 188 #[.val (.int p1), .val (.int p2), .val (.int p3), .val (.int p4), .val (.long j1), .second, .val (.long j11), .second, .val (.long j21), .second, .val (.long j31), .second, .val (.double d36), .second, .val (.double d41), .second, .val (.double d46), .second, .val (.double d51), .second, .val (.ref b_1), .val (.double d1), .second, .val (.double d2), .second] [(.int (1 : Int32))]))
      exact retGoW X_7 hx hS (by rw [eh_7]; exact (Nat.le_trans hk_2 Kc_3.1)) hP Bd.returns hlk rfl (Or.inl ⟨rfl, Or.inr (Or.inl rfl), _, rfl⟩) (hb hby at_188) (by decide) (by decide) (by rw [eh_7]; exact ⟨rfl, N_7⟩)
    · refine Go.step (fun t k => XS.ifNo X_7.here hx rfl (hb hby at_174) rfl (lcN (cd := .gt) hc174) k) ?_
      show Go p.tables e below P (T_7.setTop (mkF m 177 #[.val (.int p1), .val (.int p2), .val (.int p3), .val (.int p4), .val (.long j1), .second, .val (.long j11), .second, .val (.long j21), .second, .val (.long j31), .second, .val (.double d36), .second, .val (.double d41), .second, .val (.double d46), .second, .val (.double d51), .second, .val (.ref b_1), .val (.double d1), .second, .val (.double d2), .second] []))
      refine Go.step (fun t k => XS.dload X_7.here hx rfl (hb hby at_177) rfl  k) ?_
      show Go p.tables e below P (T_7.setTop (mkF m 179 #[.val (.int p1), .val (.int p2), .val (.int p3), .val (.int p4), .val (.long j1), .second, .val (.long j11), .second, .val (.long j21), .second, .val (.long j31), .second, .val (.double d36), .second, .val (.double d41), .second, .val (.double d46), .second, .val (.double d51), .second, .val (.ref b_1), .val (.double d1), .second, .val (.double d2), .second] [(.double d2)]))
      refine Go.step (fun t k => XS.dload X_7.here hx rfl (hb hby at_179) rfl  k) ?_
      show Go p.tables e below P (T_7.setTop (mkF m 181 #[.val (.int p1), .val (.int p2), .val (.int p3), .val (.int p4), .val (.long j1), .second, .val (.long j11), .second, .val (.long j21), .second, .val (.long j31), .second, .val (.double d36), .second, .val (.double d41), .second, .val (.double d46), .second, .val (.double d51), .second, .val (.ref b_1), .val (.double d1), .second, .val (.double d2), .second] [(.double d1), (.double d2)]))
      refine Go.step (fun t k => XS.dcmpS X_7.here hx rfl (hb hby at_181) rfl rfl k) ?_
      show Go p.tables e below P (T_7.setTop (mkF m 182 #[.val (.int p1), .val (.int p2), .val (.int p3), .val (.int p4), .val (.long j1), .second, .val (.long j11), .second, .val (.long j21), .second, .val (.long j31), .second, .val (.double d36), .second, .val (.double d41), .second, .val (.double d46), .second, .val (.double d51), .second, .val (.ref b_1), .val (.double d1), .second, .val (.double d2), .second] [(.int (cmpValue (FP.dcmp d2 d1) .g))]))
      refine Go.step (fun t k => XS.ifYes X_7.here hx rfl (pc0 := 182) (pc' := 187) rfl (hb hby at_182) rfl (dcY (cd := .ge) (fin_cmp (hd2.b bab).1 (hd1.b bab).1) (hd2.mono bab hd1 (by omega))) (by decide) (by decide) k) ?_
      show Go p.tables e below P (T_7.setTop (mkF m 187 #[.val (.int p1), .val (.int p2), .val (.int p3), .val (.int p4), .val (.long j1), .second, .val (.long j11), .second, .val (.long j21), .second, .val (.long j31), .second, .val (.double d36), .second, .val (.double d41), .second, .val (.double d46), .second, .val (.double d51), .second, .val (.ref b_1), .val (.double d1), .second, .val (.double d2), .second] []))
      refine Go.step (fun t k => XS.iconst X_7.here hx rfl (hb hby at_187) k) ?_
      show Go p.tables e below P (T_7.setTop (mkF m 188 #[.val (.int p1), .val (.int p2), .val (.int p3), .val (.int p4), .val (.long j1), .second, .val (.long j11), .second, .val (.long j21), .second, .val (.long j31), .second, .val (.double d36), .second, .val (.double d41), .second, .val (.double d46), .second, .val (.double d51), .second, .val (.ref b_1), .val (.double d1), .second, .val (.double d2), .second] [(.int (1 : Int32))]))
      exact retGoW X_7 hx hS (by rw [eh_7]; exact (Nat.le_trans hk_2 Kc_3.1)) hP Bd.returns hlk rfl (Or.inl ⟨rfl, Or.inr (Or.inl rfl), _, rfl⟩) (hb hby at_188) (by decide) (by decide) (by rw [eh_7]; exact ⟨rfl, N_7⟩)
set_option maxRecDepth 65536 in
set_option maxHeartbeats 40000000 in
theorem comes_1 {Post : Tables → Env → Array Value → State → Outcome → State → Prop} (hpost : ∀ tb e args s v u, (limb_1_1.after args s (.returned v) u = true ∧ limb_1_2.after args s (.returned v) u = true ∧ True) → ReturnedEndW s (.returned v) u (Jvm.fieldLocs frame_1_writes args s ++ Jvm.arrayLocs frame_1_arrays args s ++ Jvm.staticLocs frame_1_statics s) 16 1152 → Post tb e args s (.returned v) u) :
    ArmFor flags0 classFile x code maxLocals ret World_1 tables_1 room_1 Calls_1 rest_1 Pre_1 Post := by
  intro l hfl _ _ p e ha hc hk s m args below hf hA hF happ hP
  obtain ⟨hcalls, hrest, hpre⟩ := hP
  obtain ⟨-, -, -, hnamed, -, -, -, hat⟩ := (Spec.applies_iff hf).mp happ
  obtain ⟨hg, hn⟩ := and_e (Cond.before_iff.mp (show (Jvm.Cond.and given_1 narrow_1).before args s = true from hpre))
  obtain ⟨gc, hg0⟩ := and_e hg
  obtain ⟨ga0, hg1⟩ := and_e hg0
  obtain ⟨ga1, hg2⟩ := and_e hg1
  obtain ⟨ga2, hg3⟩ := and_e hg2
  have ga3 := hg3
  obtain ⟨w0, w1, w2, w3, rfl⟩ : ∃ w0 w1 w2 w3 : Value, args = #[w0, w1, w2, w3] := by
    have hs : args.size = 4 := by simpa [Cond.value, given_1] using gc
    obtain ⟨L⟩ := args
    match L, hs with
    | [w0, w1, w2, w3], _ => exact ⟨w0, w1, w2, w3, rfl⟩
  have hw := fun d (hd : d ∈ tables_1) => atoms_spec (ws := Jvm.Cond.code x code maxLocals ret :: tables_1) hat d (List.mem_cons_of_mem _ hd)
  obtain ⟨i0, ei0⟩ := is_v ga0
  obtain rfl : w0 = (.int i0) := Option.some.inj ei0
  obtain ⟨i1, ei1⟩ := is_v ga1
  obtain rfl : w1 = (.int i1) := Option.some.inj ei1
  obtain ⟨i2, ei2⟩ := is_v ga2
  obtain rfl : w2 = (.int i2) := Option.some.inj ei2
  obtain ⟨i3, ei3⟩ := is_v ga3
  obtain rfl : w3 = (.int i3) := Option.some.inj ei3
  obtain ⟨n, o, h1, h2, h3, _, L, rfl, ⟨rfl, N⟩, hq⟩ := rm0 l s _ hw tables_1 i0 i1 i2 i3 s.heap s.heap.size (Nat.le_refl _) p e ha hc hk s m _ below hf ((Spec.applies_iff_loose hf).mp happ).1 ⟨rfl, State.Warmed39.refl s, rfl⟩ trivial
  refine ⟨n, _, h1, h2, h3, hpost _ _ _ _ _ _ ⟨Cond.after_iff.mpr rfl, Cond.after_iff.mpr (eq_i res_at (Term.int_eval (1)) rfl), trivial⟩ ⟨hq.1, hq.2.1, hq.2.2.1, (hq.2.2.2.sift fun y hy => Or.inr (N y hy)).mono (by decide) (by decide)⟩⟩
theorem main_1_1 : Claimed_1_1 := comes_1 fun _ _ _ _ _ _ h hF => ⟨h.1, hF⟩
theorem main_1_2 : Claimed_1_2 := comes_1 fun _ _ _ _ _ _ h hF => ⟨h.2.1, hF⟩
end Jvm.Pilot.@@N@@
namespace Jvm.Pilot.@@N@@
open Jvm Jvm.ClassFile Sem Op Lib Jvm.Free Jvm.Stand Jvm.Pilot.@@N@@.Jvm.D
/-! MADE BY PROGRAM (witnessworld.py) out of the Statement's table words and the real class files: 16 classes; the members and pool entries that the words name. The judged class is class 1, her method 1. -/
namespace start1
open Jvm.ClassFile
def u (s : String) : CpInfo := .utf8 (stringToUtf16 s)
/-- a pool by its gaps: so many unusable entries, then the entry; so many at the end -/
def gap : Nat → List CpInfo → List CpInfo
  | 0, r => r
  | n + 1, r => .unusable :: gap n r
def poolList (es : List (Nat × CpInfo)) (last : Nat) : List CpInfo := es.foldr (fun e r => gap e.1 (e.2 :: r)) (gap last [])
def pool (es : List (Nat × CpInfo)) (last : Nat) : Array CpInfo := ⟨poolList es last⟩
def fileOf (pool : Array CpInfo) (this : Nat) (attrs : Array Attribute := #[]) (ms : Array MethodInfo := #[]) (fl : Nat := 33) (sup : Nat := 0) (ifs : Array Nat := #[]) (fds : Array FieldInfo := #[]) : ClassFile where
  minorVersion := 0
  majorVersion := 65
  constantPool := pool
  accessFlags := fl
  thisClass := this
  superClass := sup
  interfaces := ifs
  fields := fds
  methods := ms
  attributes := attrs
def plain (name : String) (sup : Option ClassId) : Class where
  name := name
  kind := .ordinary
  loader := none
  accessFlags := 33
  super := sup
  interfaces := #[]
  cf := none
  fields := #[]
  methods := #[]
  instanceTypes := #[]
  staticTypes := #[]
  resolved := #[]
  callSites := []
  init := .initialized
  statics := none
  mirror := none

def pool0 : Array CpInfo := pool [(5, u "<init>"), (0, u "()V"), (1, .class_ 10), (1, u "java/lang/Object")] 113

def k0c0 : Code := { maxStack := 0, maxLocals := 1, code := object_method_1_code, exceptionTable := #[], attributes := #[] }
def k0m0 : Method := { name := "<init>", desc := "()V", sig := { parameters := [], returnType := none }, accessFlags := 1, code := some k0c0 }
/-- java/lang/Object -/
def k0 : Class := { plain "java/lang/Object" none with
  accessFlags := 33
  interfaces := #[]
  cf := some (fileOf pool0 8 #[] #[{ accessFlags := 1, nameIndex := 5, descriptorIndex := 6, attributes := #[] }] 33 0 #[] #[])
  fields := #[]
  methods := #[k0m0]
  instanceTypes := #[]
  staticTypes := #[]
  resolved := Array.replicate 124 none
  statics := none }

def pool1 : Array CpInfo := pool [(2, .class_ 4), (1, u "java/lang/Object"), (0, u "<init>"), (0, u "()V"), (0, .class_ 8), (0, u "com/example/orabona/orabona/model/FuzzySet$LeftShoulder"), (0, .string 10), (0, u "s"), (0, .methodref 7 12), (0, .nameAndType 5 13), (0, u "(Ljava/lang/String;DD)V"), (0, .methodref 7 15), (0, .nameAndType 16 17), (0, u "degree"), (0, u "(D)D"), (0, .methodref 19 20), (0, .class_ 21), (0, .nameAndType 22 23), (0, u "com/example/orabona/orabona/model/LeftShoulderDegreePinLaw"), (0, u "expected"), (0, u "(JJJD)Z"), (2, u "law"), (0, u "(IIII)Z")] 7

def k1m0 : Method := { name := "<init>", desc := "()V", sig := { parameters := [], returnType := none }, accessFlags := 2, code := none }
def k1c1 : Code := { maxStack := 8, maxLocals := 25, code := code, exceptionTable := #[], attributes := #[] }
def k1m1 : Method := { name := "law", desc := "(IIII)Z", sig := { parameters := [.int, .int, .int, .int], returnType := some .boolean }, accessFlags := 9, code := some k1c1 }
def k1c2 : Code := { maxStack := 6, maxLocals := 10, code := method_3_code, exceptionTable := #[], attributes := #[] }
def k1m2 : Method := { name := "expected", desc := "(JJJD)Z", sig := { parameters := [.long, .long, .long, .double], returnType := some .boolean }, accessFlags := 10, code := some k1c2 }
/-- com/example/orabona/orabona/model/LeftShoulderDegreePinLaw -/
def k1 : Class := { plain "com/example/orabona/orabona/model/LeftShoulderDegreePinLaw" (some 0) with
  accessFlags := 49
  interfaces := #[]
  cf := some (fileOf pool1 19 #[] #[{ accessFlags := 2, nameIndex := 5, descriptorIndex := 6, attributes := #[] }, { accessFlags := 9, nameIndex := 26, descriptorIndex := 27, attributes := #[] }, { accessFlags := 10, nameIndex := 22, descriptorIndex := 23, attributes := #[] }] 49 2 #[] #[])
  fields := #[]
  methods := #[k1m0, k1m1, k1m2]
  instanceTypes := #[]
  staticTypes := #[]
  resolved := Array.replicate 35 none
  statics := none }

def pool2 : Array CpInfo := pool [(1, .methodref 2 3), (0, .class_ 4), (0, .nameAndType 5 6), (0, u "java/lang/Object"), (0, u "<init>"), (0, u "()V"), (0, .class_ 8), (0, u "java/lang/Record")] 13

def k2c0 : Code := { maxStack := 1, maxLocals := 1, code := jdk_30_method_1_code, exceptionTable := #[], attributes := #[] }
def k2m0 : Method := { name := "<init>", desc := "()V", sig := { parameters := [], returnType := none }, accessFlags := 4, code := some k2c0 }
/-- java/lang/Record -/
def k2 : Class := { plain "java/lang/Record" (some 0) with
  accessFlags := 1057
  interfaces := #[]
  cf := some (fileOf pool2 7 #[] #[{ accessFlags := 4, nameIndex := 5, descriptorIndex := 6, attributes := #[] }] 1057 2 #[] #[])
  fields := #[]
  methods := #[k2m0]
  instanceTypes := #[]
  staticTypes := #[]
  resolved := Array.replicate 22 none
  statics := none }

def pool3 : Array CpInfo := pool [(16, .class_ 18), (1, u "com/example/orabona/orabona/model/FuzzySet"), (27, .class_ 47), (0, u "java/lang/Object"), (20, .class_ 69), (0, u "com/example/orabona/orabona/model/FuzzySet$RightShoulder"), (0, .class_ 71), (0, u "com/example/orabona/orabona/model/FuzzySet$Triangular"), (0, .class_ 73), (0, u "com/example/orabona/orabona/model/FuzzySet$LeftShoulder"), (0, .class_ 75), (0, u "com/example/orabona/orabona/model/FuzzySet$Cut"), (0, .class_ 77), (0, u "com/example/orabona/orabona/model/FuzzySet$Visitor")] 32

/-- com/example/orabona/orabona/model/FuzzySet -/
def k3 : Class := { plain "com/example/orabona/orabona/model/FuzzySet" (some 0) with
  accessFlags := 1537
  interfaces := #[]
  cf := some (fileOf pool3 16 #[.nestMembers #[68, 70, 72, 74, 76]] #[] 1537 46 #[] #[])
  fields := #[]
  methods := #[]
  instanceTypes := #[]
  staticTypes := #[]
  resolved := Array.replicate 110 none
  statics := none }

def pool4 : Array CpInfo := pool [(1, .methodref 2 3), (0, .class_ 4), (0, .nameAndType 5 6), (0, u "java/lang/Record"), (0, u "<init>"), (0, u "()V"), (0, .fieldref 8 9), (0, .class_ 10), (0, .nameAndType 11 12), (0, u "com/example/orabona/orabona/model/FuzzySet$LeftShoulder"), (0, u "name"), (0, u "Ljava/lang/String;"), (0, .fieldref 8 14), (0, .nameAndType 15 16), (0, u "a"), (0, u "D"), (0, .fieldref 8 18), (0, .nameAndType 19 16), (0, u "b"), (9, .class_ 31), (1, u "com/example/orabona/orabona/model/FuzzySet"), (29, u "(Ljava/lang/String;DD)V"), (3, u "degree"), (0, u "(D)D")] 38

def k4c0 : Code := { maxStack := 3, maxLocals := 6, code := prog_15_method_1_code, exceptionTable := #[], attributes := #[] }
def k4m0 : Method := { name := "<init>", desc := "(Ljava/lang/String;DD)V", sig := { parameters := [(.object "java/lang/String"), .double, .double], returnType := none }, accessFlags := 1, code := some k4c0 }
def k4c1 : Code := { maxStack := 6, maxLocals := 3, code := prog_15_method_2_code, exceptionTable := #[], attributes := #[] }
def k4m1 : Method := { name := "degree", desc := "(D)D", sig := { parameters := [.double], returnType := some .double }, accessFlags := 1, code := some k4c1 }
/-- com/example/orabona/orabona/model/FuzzySet$LeftShoulder -/
def k4 : Class := { plain "com/example/orabona/orabona/model/FuzzySet$LeftShoulder" (some 2) with
  accessFlags := 49
  interfaces := #[3]
  cf := some (fileOf pool4 8 #[.nestHost 29] #[{ accessFlags := 1, nameIndex := 5, descriptorIndex := 61, attributes := #[] }, { accessFlags := 1, nameIndex := 65, descriptorIndex := 66, attributes := #[] }] 49 2 #[29] #[{ accessFlags := 18, nameIndex := 11, descriptorIndex := 12, attributes := #[] }, { accessFlags := 18, nameIndex := 15, descriptorIndex := 16, attributes := #[] }, { accessFlags := 18, nameIndex := 19, descriptorIndex := 16, attributes := #[] }])
  fields := #[{ name := "name", type := (.object "java/lang/String"), accessFlags := 18, slot := 0, constantValue := 0 }, { name := "a", type := .double, accessFlags := 18, slot := 1, constantValue := 0 }, { name := "b", type := .double, accessFlags := 18, slot := 2, constantValue := 0 }]
  methods := #[k4m0, k4m1]
  instanceTypes := #[(.object "java/lang/String"), .double, .double]
  staticTypes := #[]
  resolved := Array.replicate 105 none
  statics := none }

def pool5 : Array CpInfo := pool [(1, .class_ 2), (0, u "java/io/Serializable"), (0, .class_ 4), (0, u "java/lang/Object")] 2

/-- java/io/Serializable -/
def k5 : Class := { plain "java/io/Serializable" (some 0) with
  accessFlags := 1537
  interfaces := #[]
  cf := some (fileOf pool5 1 #[] #[] 1537 3 #[] #[])
  fields := #[]
  methods := #[]
  instanceTypes := #[]
  staticTypes := #[]
  resolved := Array.replicate 7 none
  statics := none }

def pool6 : Array CpInfo := pool [(1, .class_ 2), (0, u "java/lang/Comparable"), (0, .class_ 4), (0, u "java/lang/Object")] 7

/-- java/lang/Comparable -/
def k6 : Class := { plain "java/lang/Comparable" (some 0) with
  accessFlags := 1537
  interfaces := #[]
  cf := some (fileOf pool6 1 #[] #[] 1537 3 #[] #[])
  fields := #[]
  methods := #[]
  instanceTypes := #[]
  staticTypes := #[]
  resolved := Array.replicate 12 none
  statics := none }

def pool7 : Array CpInfo := pool [(2, .class_ 4), (1, u "java/lang/CharSequence"), (42, .class_ 48), (0, u "java/lang/CharSequence$1CodePointIterator"), (10, .class_ 60), (0, u "java/lang/CharSequence$1CharIterator"), (5, .class_ 67), (0, u "java/lang/Object")] 63

/-- java/lang/CharSequence -/
def k7 : Class := { plain "java/lang/CharSequence" (some 0) with
  accessFlags := 1537
  interfaces := #[]
  cf := some (fileOf pool7 2 #[.nestMembers #[47, 59]] #[] 1537 66 #[] #[])
  fields := #[]
  methods := #[]
  instanceTypes := #[]
  staticTypes := #[]
  resolved := Array.replicate 131 none
  statics := none }

def pool8 : Array CpInfo := pool [(1, .class_ 2), (0, u "java/lang/constant/Constable"), (0, .class_ 4), (0, u "java/lang/Object")] 6

/-- java/lang/constant/Constable -/
def k8 : Class := { plain "java/lang/constant/Constable" (some 0) with
  accessFlags := 1537
  interfaces := #[]
  cf := some (fileOf pool8 1 #[] #[] 1537 3 #[] #[])
  fields := #[]
  methods := #[]
  instanceTypes := #[]
  staticTypes := #[]
  resolved := Array.replicate 11 none
  statics := none }

def pool9 : Array CpInfo := pool [(1, .class_ 2), (0, u "java/lang/constant/ConstantDesc"), (0, .class_ 4), (0, u "java/lang/Object")] 32

/-- java/lang/constant/ConstantDesc -/
def k9 : Class := { plain "java/lang/constant/ConstantDesc" (some 0) with
  accessFlags := 1537
  interfaces := #[]
  cf := some (fileOf pool9 1 #[] #[] 1537 3 #[] #[])
  fields := #[]
  methods := #[]
  instanceTypes := #[]
  staticTypes := #[]
  resolved := Array.replicate 37 none
  statics := none }

def pool10 : Array CpInfo := pool [(2, .class_ 4), (1, u "java/lang/Object"), (0, u "<init>"), (0, u "()V"), (3, .class_ 12), (1, u "java/lang/String"), (0, u "value"), (0, u "[B"), (2, u "coder"), (0, u "B"), (2, u "hash"), (0, u "I"), (2, u "hashIsZero"), (0, u "Z"), (13, u "COMPACT_STRINGS"), (534, .class_ 576), (0, u "java/lang/CharSequence"), (22, u "CASE_INSENSITIVE_ORDER"), (0, u "Ljava/util/Comparator;"), (500, u "serialPersistentFields"), (0, u "[Ljava/io/ObjectStreamField;"), (0, .class_ 1104), (0, u "java/lang/String$CaseInsensitiveComparator"), (1, .class_ 1107), (0, u "java/io/Serializable"), (0, .class_ 1109), (0, u "java/lang/Comparable"), (0, .class_ 1111), (0, u "java/lang/constant/Constable"), (0, .class_ 1113), (0, u "java/lang/constant/ConstantDesc"), (2, u "serialVersionUID"), (0, u "J"), (3, u "REPL"), (0, u "C"), (2, u "LATIN1"), (1, u "UTF16")] 323

def k10m0 : Method := { name := "<init>", desc := "()V", sig := { parameters := [], returnType := none }, accessFlags := 1, code := none }
/-- java/lang/String -/
def k10 : Class := { plain "java/lang/String" (some 0) with
  accessFlags := 49
  interfaces := #[5, 6, 7, 8, 9]
  cf := some (fileOf pool10 10 #[.nestMembers #[1103]] #[{ accessFlags := 1, nameIndex := 5, descriptorIndex := 6, attributes := #[] }] 49 2 #[1106, 1108, 575, 1110, 1112] #[{ accessFlags := 18, nameIndex := 13, descriptorIndex := 14, attributes := #[] }, { accessFlags := 18, nameIndex := 17, descriptorIndex := 18, attributes := #[] }, { accessFlags := 2, nameIndex := 21, descriptorIndex := 22, attributes := #[] }, { accessFlags := 2, nameIndex := 25, descriptorIndex := 26, attributes := #[] }, { accessFlags := 26, nameIndex := 1116, descriptorIndex := 1117, attributes := #[] }, { accessFlags := 24, nameIndex := 40, descriptorIndex := 26, attributes := #[] }, { accessFlags := 26, nameIndex := 1101, descriptorIndex := 1102, attributes := #[] }, { accessFlags := 26, nameIndex := 1121, descriptorIndex := 1122, attributes := #[] }, { accessFlags := 25, nameIndex := 599, descriptorIndex := 600, attributes := #[] }, { accessFlags := 24, nameIndex := 1125, descriptorIndex := 18, attributes := #[] }, { accessFlags := 24, nameIndex := 1127, descriptorIndex := 18, attributes := #[] }])
  fields := #[{ name := "value", type := (.array .byte), accessFlags := 18, slot := 0, constantValue := 0 }, { name := "coder", type := .byte, accessFlags := 18, slot := 1, constantValue := 0 }, { name := "hash", type := .int, accessFlags := 2, slot := 2, constantValue := 0 }, { name := "hashIsZero", type := .boolean, accessFlags := 2, slot := 3, constantValue := 0 }, { name := "serialVersionUID", type := .long, accessFlags := 26, slot := 0, constantValue := 0 }, { name := "COMPACT_STRINGS", type := .boolean, accessFlags := 24, slot := 1, constantValue := 0 }, { name := "serialPersistentFields", type := (.array (.object "java/io/ObjectStreamField")), accessFlags := 26, slot := 2, constantValue := 0 }, { name := "REPL", type := .char, accessFlags := 26, slot := 3, constantValue := 0 }, { name := "CASE_INSENSITIVE_ORDER", type := (.object "java/util/Comparator"), accessFlags := 25, slot := 4, constantValue := 0 }, { name := "LATIN1", type := .byte, accessFlags := 24, slot := 5, constantValue := 0 }, { name := "UTF16", type := .byte, accessFlags := 24, slot := 6, constantValue := 0 }]
  methods := #[k10m0]
  instanceTypes := #[(.array .byte), .byte, .int, .boolean]
  staticTypes := #[.long, .boolean, (.array (.object "java/io/ObjectStreamField")), .char, (.object "java/util/Comparator"), .byte, .byte]
  resolved := Array.replicate 1451 none
  statics := none }

def pool11 : Array CpInfo := pool [(1, u "java/lang/Cloneable"), (0, .class_ 1), (0, u "java/lang/Object"), (0, .class_ 3)] 3

/-- java/lang/Cloneable -/
def k11 : Class := { plain "java/lang/Cloneable" (some 0) with
  accessFlags := 1537
  interfaces := #[]
  cf := some (fileOf pool11 2 #[] #[] 1537 4 #[] #[])
  fields := #[]
  methods := #[]
  instanceTypes := #[]
  staticTypes := #[]
  resolved := Array.replicate 8 none
  statics := none }

/-- the primitive byte -/
def k12 : Class := { plain "byte" none with kind := .primitive 'B', accessFlags := 0x411 }
/-- [B -/
def k13 : Class := { plain "[B" (some 0) with kind := .array 12 .byte, interfaces := #[11, 5], accessFlags := 1041 }

/-- the primitive int -/
def k14 : Class := { plain "int" none with kind := .primitive 'I', accessFlags := 0x411 }
/-- [I -/
def k15 : Class := { plain "[I" (some 0) with kind := .array 14 .int, interfaces := #[11, 5], accessFlags := 1041 }

def heap : Heap := #[]
def classes : Array Class := #[k0, k1, k2, k3, k4, k5, k6, k7, k8, k9, k10, k11, k12, k13, k14, k15]
def interned : List (Array UInt16 × Addr) := []
def slotsUsed : Nat := 0
def theMethod : MethodId := ⟨1, 1⟩
def args0 : Array Value := #[.int 3, .int 8, .int 5, .int 7]
def aboutOver (below : List Frame) : State where
  vm := { classes := classes, interned := interned.toArray }
  heap := heap
  slotsUsed := slotsUsed
  threads := #[{ frames := .invoking theMethod args0 :: below }]
def below0 : List Frame := [.native { method := ⟨0, 0⟩, args := #[] }]
def about1 : State := aboutOver below0
def p0 : Program := .bare "" "" ""
def e0 : Env := launch0.env 0 0 0
theorem w_frames : about1.frames = Frame.invoking theMethod args0 :: below0 := rfl
set_option maxRecDepth 65536 in
theorem w_args : argsFit about1.vm theMethod args0 = true := by decide +kernel
set_option maxRecDepth 65536 in
theorem w_heap : heapFits about1 = true := by decide +kernel
set_option maxRecDepth 65536 in
theorem w_runnable : about1.curStatus? = some .runnable := by decide +kernel
set_option maxRecDepth 65536 in
theorem w_alone : about1.alone = true := by decide +kernel
set_option maxRecDepth 65536 in
theorem w_named : about1.methodNamed? x = some theMethod := by decide +kernel
set_option maxRecDepth 65536 in
theorem w_hears : about1.hears theMethod below0 = true := by decide +kernel
set_option maxRecDepth 65536 in
theorem w_ripe : about1.ripe theMethod args0 below0 = true := by decide +kernel
theorem w_running : about1.status = .running := rfl
set_option maxRecDepth 65536 in
theorem w_room : about1.hasRoom e0.platform room_1 = true :=
  launch0.hasRoom_least _ room_1 (by decide +kernel) (by decide +kernel) (by decide +kernel) (by decide +kernel) (by decide +kernel) (by decide +kernel)
theorem allAtoms_all (ts : List Jvm.Cond) (a : Array Jvm.Value) (st : Jvm.State) : (allAtoms ts).before a st = ts.all (fun c => c.before a st) := by
  induction ts with
  | nil => rfl
  | cons c t ih =>
    show (Jvm.Cond.and c (allAtoms t)).before a st = _
    rw [Jvm.Cond.before_and, ih, List.all_cons]
def words1 : List Jvm.Cond := Jvm.Cond.code x code maxLocals ret :: tables_1
/-- a 'code' word, met by the world's own term for the bytes: nothing is compared byte by byte -/
theorem code_word {y : MethodName} {bytes : ByteArray} {mx : Nat} {rt : Option FieldType} {a : Array Value} {s : State} {m : MethodId} {meth : Method} {c : Code} (h1 : s.methodNamed? y = some m) (h2 : s.vm.method? m = some meth) (h3 : meth.code = some c) (h4 : c.code = bytes)
    (h5 : (c.maxLocals == mx && c.exceptionTable.isEmpty && decide (c.maxStack ≤ mostOperands) && decide (meth.sig.returnType = rt) && !meth.locks && decide (parseMethodDescriptor y.desc = some meth.sig)) = true) : (Jvm.Cond.code y bytes mx rt).before a s = true := by
  simp only [Bool.and_eq_true, beq_iff_eq, Bool.not_eq_true', decide_eq_true_eq] at h5
  obtain ⟨⟨⟨⟨⟨g1, g2⟩, g3⟩, g4⟩, g5⟩, g6⟩ := h5
  simp [Cond.before, Cond.holds, Cond.value, h1, h2, h3, h4, g1, g2, g3, g4, g5, g6]
def isCode : Jvm.Cond → Bool
  | .code _ _ _ _ => true
  | _ => false
theorem all_split {L : List Jvm.Cond} {P : Jvm.Cond → Bool} (h1 : L.all (fun c => isCode c || P c) = true) (h2 : ∀ c ∈ L.filter isCode, P c = true) : L.all P = true := by
  refine List.all_eq_true.mpr fun c hc => ?_
  have h := List.all_eq_true.mp h1 c hc
  rcases Bool.eq_false_or_eq_true (isCode c) with hi | hi
  · exact h2 c (List.mem_filter.mpr ⟨hc, hi⟩)
  · simpa [hi] using h
set_option maxRecDepth 65536 in
theorem w_c0 : (Jvm.Cond.code x code maxLocals ret).before args0 about1 = true := code_word (m := ⟨1, 1⟩) (meth := k1m1) (c := k1c1) (by decide +kernel) rfl rfl rfl (by decide +kernel)
set_option maxRecDepth 65536 in
theorem w_c1 : (Jvm.Cond.code ({ cls := "com/example/orabona/orabona/model/FuzzySet$LeftShoulder", name := "<init>", desc := "(Ljava/lang/String;DD)V" } : Jvm.MethodName) prog_15_method_1_code (6 : Nat) (Option.none : Option Jvm.ClassFile.FieldType)).before args0 about1 = true := code_word (m := ⟨4, 0⟩) (meth := k4m0) (c := k4c0) (by decide +kernel) rfl rfl rfl (by decide +kernel)
set_option maxRecDepth 65536 in
theorem w_c2 : (Jvm.Cond.code ({ cls := "java/lang/Record", name := "<init>", desc := "()V" } : Jvm.MethodName) jdk_30_method_1_code (1 : Nat) (Option.none : Option Jvm.ClassFile.FieldType)).before args0 about1 = true := code_word (m := ⟨2, 0⟩) (meth := k2m0) (c := k2c0) (by decide +kernel) rfl rfl rfl (by decide +kernel)
set_option maxRecDepth 65536 in
theorem w_c3 : (Jvm.Cond.code ({ cls := "java/lang/Object", name := "<init>", desc := "()V" } : Jvm.MethodName) object_method_1_code (1 : Nat) (Option.none : Option Jvm.ClassFile.FieldType)).before args0 about1 = true := code_word (m := ⟨0, 0⟩) (meth := k0m0) (c := k0c0) (by decide +kernel) rfl rfl rfl (by decide +kernel)
set_option maxRecDepth 65536 in
theorem w_c4 : (Jvm.Cond.code ({ cls := "com/example/orabona/orabona/model/FuzzySet$LeftShoulder", name := "degree", desc := "(D)D" } : Jvm.MethodName) prog_15_method_2_code (3 : Nat) (Option.some Jvm.ClassFile.FieldType.double)).before args0 about1 = true := code_word (m := ⟨4, 1⟩) (meth := k4m1) (c := k4c1) (by decide +kernel) rfl rfl rfl (by decide +kernel)
set_option maxRecDepth 65536 in
theorem w_c5 : (Jvm.Cond.code ({ cls := "com/example/orabona/orabona/model/LeftShoulderDegreePinLaw", name := "expected", desc := "(JJJD)Z" } : Jvm.MethodName) method_3_code (10 : Nat) (Option.some Jvm.ClassFile.FieldType.boolean)).before args0 about1 = true := code_word (m := ⟨1, 2⟩) (meth := k1m2) (c := k1c2) (by decide +kernel) rfl rfl rfl (by decide +kernel)
def codes1 : List Jvm.Cond := [Jvm.Cond.code x code maxLocals ret, Jvm.Cond.code ({ cls := "com/example/orabona/orabona/model/FuzzySet$LeftShoulder", name := "<init>", desc := "(Ljava/lang/String;DD)V" } : Jvm.MethodName) prog_15_method_1_code (6 : Nat) (Option.none : Option Jvm.ClassFile.FieldType), Jvm.Cond.code ({ cls := "java/lang/Record", name := "<init>", desc := "()V" } : Jvm.MethodName) jdk_30_method_1_code (1 : Nat) (Option.none : Option Jvm.ClassFile.FieldType), Jvm.Cond.code ({ cls := "java/lang/Object", name := "<init>", desc := "()V" } : Jvm.MethodName) object_method_1_code (1 : Nat) (Option.none : Option Jvm.ClassFile.FieldType), Jvm.Cond.code ({ cls := "com/example/orabona/orabona/model/FuzzySet$LeftShoulder", name := "degree", desc := "(D)D" } : Jvm.MethodName) prog_15_method_2_code (3 : Nat) (Option.some Jvm.ClassFile.FieldType.double), Jvm.Cond.code ({ cls := "com/example/orabona/orabona/model/LeftShoulderDegreePinLaw", name := "expected", desc := "(JJJD)Z" } : Jvm.MethodName) method_3_code (10 : Nat) (Option.some Jvm.ClassFile.FieldType.boolean)]
set_option maxRecDepth 65536 in
theorem codes_eq : words1.filter isCode = codes1 := rfl
theorem w_codes : ∀ c ∈ words1.filter isCode, c.before args0 about1 = true := by
  rw [codes_eq]
  intro c hc
  simp only [codes1, List.mem_cons, List.not_mem_nil, or_false] at hc
  rcases hc with rfl | rfl | rfl | rfl | rfl | rfl
  · exact w_c0
  · exact w_c1
  · exact w_c2
  · exact w_c3
  · exact w_c4
  · exact w_c5
set_option maxRecDepth 65536 in
theorem w_t1 : (words1.take 24).all (fun c => isCode c || c.before args0 about1) = true := by decide +kernel
set_option maxRecDepth 65536 in
theorem w_t2 : (words1.drop 24).all (fun c => isCode c || c.before args0 about1) = true := by decide +kernel
theorem w_tables : (allAtoms (Jvm.Cond.code x code maxLocals ret :: tables_1)).before args0 about1 = true := by
  rw [allAtoms_all]
  show words1.all (fun c => c.before args0 about1) = true
  refine all_split ?_ w_codes
  rw [← List.take_append_drop 24 words1, List.all_append, w_t1, w_t2]
  rfl
set_option maxRecDepth 65536 in
theorem w_case : (Jvm.Cond.and given_1 narrow_1).before args0 about1 = true := by decide +kernel
theorem w_applies : (headSpec (Jvm.Cond.code x code maxLocals ret :: tables_1) room_1).applies x e0.platform about1 = true :=
  (Spec.applies_iff w_frames).mpr ⟨w_running, w_runnable, w_alone, w_named, w_hears, w_ripe, w_room, w_tables⟩
theorem atStart : AtStart classFile x code maxLocals ret World_1 tables_1 room_1 Calls_1 rest_1 Pre_1 launch0 p0 e0 about1 theMethod args0 below0 :=
  ⟨lists_1, trivial, launch0.admits_env _ _ _, launch0.least_env, fairChoices_fair.cas, fairChoices_fair.clock, w_frames, w_args, w_heap, w_applies, trivial, trivial, w_case⟩
end start1
theorem witness_1 : WitnessClaimed_1 := ⟨start1.p0, start1.e0, start1.about1, start1.theMethod, start1.args0, start1.below0, start1.atStart⟩
end Jvm.Pilot.@@N@@
