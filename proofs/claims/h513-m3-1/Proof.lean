import JvmDerived
import JvmDerived.Pilot.@@N@@Statement
import JvmDerived.Pilot.@@N@@Code
set_option linter.unusedVariables false
set_option linter.unusedSimpArgs false
namespace Jvm.Pilot.@@N@@.Own
open Jvm Jvm.ClassFile Sem Op Lib Jvm.Free Jvm.Stand Jvm.LawKit Jvm.RoadKit
/-- from S the run comes to an end of which P holds -/
def Go (tb : Tables) (e : Env) (below : List Frame) (P : State → Outcome → Prop) (S : State) : Prop :=
  ∃ s₂ o, Steps tb e below S s₂ ∧ s₂.status = .running ∧ Ended s₂ below o ∧ P s₂ o
theorem Go.step {tb : Tables} {e : Env} {below : List Frame} {P : State → Outcome → Prop} {S S' : State}
    (h : ∀ t, Steps tb e below S' t → Steps tb e below S t) (g : Go tb e below P S') : Go tb e below P S := by
  obtain ⟨t, o, h1, h2⟩ := g; exact ⟨t, o, h t h1, h2⟩
theorem Go.tr {tb : Tables} {e : Env} {below : List Frame} {P : State → Outcome → Prop} {S S' : State}
    (h : Steps tb e below S S') (g : Go tb e below P S') : Go tb e below P S := by
  obtain ⟨t, o, h1, h2⟩ := g; exact ⟨t, o, h.trans h1, h2⟩
theorem Go.start {tb : Tables} {e : Env} {below : List Frame} {P₀ : State → Outcome → Prop} {S S' : State} (q : S = S')
    (h : ∀ P : State → Outcome → Prop, (∀ s₂ o, P₀ s₂ o → P s₂ o) → Go tb e below P S') : Go tb e below P₀ S := by
  subst q; exact h P₀ fun _ _ h => h
/-- a value gets a name -/
theorem nm {α : Type} (F : α → Prop) (x : α) (H : ∀ z, z = x → F z) : F x := H x rfl
section Ends
variable {p : Program} {l : Launch} {e : Env} {R : Room} {s : State} {m : MethodId} {args : Array Value} {below : List Frame} {meth : Method} {c : Code} {T : State} {locs : List Loc} {cells slots : Nat}
theorem retGo (X : Stand p l e R s m args below meth c T locs cells slots) (hx : p.tables.exec = Jvm.exec) {P : State → Outcome → Prop} {Q : Option Value → Heap → List Loc → Prop} {kc ks : Nat}
    (hP : ∀ s₂ o, (∃ v L, o = .returned v ∧ Q v s₂.heap L ∧ FrameEnd s o s₂ L kc ks) → P s₂ o) {pc : Nat} {Ls : Array Slot} {w : Value} {t : FieldType} {i : Instr} {rest : List Value} (hret : meth.sig.returnType = some t) (hlk : meth.locks = false) (hn : narrow t w = w)
    (hi : (i = .ireturn ∧ (t = .int ∨ t = .boolean ∨ t = .byte ∨ t = .char ∨ t = .short) ∧ ∃ z, w = .int z) ∨ (i = .lreturn ∧ t = .long ∧ ∃ z, w = .long z) ∨ (i = .dreturn ∧ t = .double ∧ ∃ z, w = .double z) ∨ (i = .freturn ∧ t = .float ∧ ∃ z, w = .float z) ∨ (i = .areturn ∧ t.isReference = true ∧ w.isRef = true))
    (hd : decode c.code pc = .ok (i, 1)) (hc : cells ≤ kc) (hs : slots ≤ ks) (hQ : Q (some w) T.heap locs) : Go p.tables e below P (T.setTop (mkF m pc Ls (w :: rest))) := by
  obtain ⟨fs, hr, hrun, hended, hW, hsame⟩ := X.leave (v := some w) (fun h => by rw [hret] at h; cases h) hlk
  exact ⟨_, _, retOut X hx hret hn hi hd hr, hrun, hended, hP _ _ ⟨_, _, rfl, hQ, ⟨_, rfl⟩, hW, hsame.mono hc hs⟩⟩
theorem retGoW {vm1 : Vm} (X : Stand p l e R (s.setVm vm1) m args below meth c T locs cells slots) (hx : p.tables.exec = Jvm.exec) {n1 : Nat} (hS : s.Since vm1 n1) (hn1 : n1 ≤ T.heap.size) {P : State → Outcome → Prop} {Q : Option Value → Heap → List Loc → Prop} {kc ks : Nat}
    (hP : ∀ s₂ o, (∃ v L, o = .returned v ∧ Q v s₂.heap L ∧ ReturnedEndW s o s₂ L kc ks) → P s₂ o) {pc : Nat} {Ls : Array Slot} {w : Value} {t : FieldType} {i : Instr} {rest : List Value} (hret : meth.sig.returnType = some t) (hlk : meth.locks = false) (hn : narrow t w = w)
    (hi : (i = .ireturn ∧ (t = .int ∨ t = .boolean ∨ t = .byte ∨ t = .char ∨ t = .short) ∧ ∃ z, w = .int z) ∨ (i = .lreturn ∧ t = .long ∧ ∃ z, w = .long z) ∨ (i = .dreturn ∧ t = .double ∧ ∃ z, w = .double z) ∨ (i = .freturn ∧ t = .float ∧ ∃ z, w = .float z) ∨ (i = .areturn ∧ t.isReference = true ∧ w.isRef = true))
    (hd : decode c.code pc = .ok (i, 1)) (hc : cells ≤ kc) (hs : slots ≤ ks) (hQ : Q (some w) T.heap locs) : Go p.tables e below P (T.setTop (mkF m pc Ls (w :: rest))) := by
  obtain ⟨fs, hr, hrun, hended, _, hW, hI, hsame⟩ := X.leaveW hS hn1 (v := some w) (fun h => by rw [hret] at h; cases h) hlk
  exact ⟨_, _, retOut X hx hret hn hi hd hr, hrun, hended, hP _ _ ⟨_, _, rfl, hQ, ⟨_, rfl⟩, hW, hI, hsame.mono hc hs⟩⟩
theorem voidGo (X : Stand p l e R s m args below meth c T locs cells slots) (hx : p.tables.exec = Jvm.exec) {P : State → Outcome → Prop} {Q : Option Value → Heap → List Loc → Prop} {kc ks : Nat}
    (hP : ∀ s₂ o, (∃ v L, o = .returned v ∧ Q v s₂.heap L ∧ FrameEnd s o s₂ L kc ks) → P s₂ o) {pc : Nat} {Ls : Array Slot} (hret : meth.sig.returnType = none) (hlk : meth.locks = false)
    (hd : decode c.code pc = .ok (.return_, 1)) (hc : cells ≤ kc) (hs : slots ≤ ks) (hQ : Q none T.heap locs) : Go p.tables e below P (T.setTop (mkF m pc Ls [])) := by
  obtain ⟨fs, hr, hrun, hended, hW, hsame⟩ := X.leave (v := none) (fun _ => rfl) hlk
  exact ⟨_, _, X.returnOut hx hret hd hr, hrun, hended, hP _ _ ⟨_, _, rfl, hQ, ⟨_, rfl⟩, hW, hsame.mono hc hs⟩⟩
end Ends
/-! branches: what is compared, as whole numbers -/
def rel : ClassFile.Cond → Int → Int → Prop
  | .eq, a, b => a = b
  | .ne, a, b => ¬ a = b
  | .lt, a, b => a < b
  | .ge, a, b => b ≤ a
  | .gt, a, b => b < a
  | .le, a, b => a ≤ b
theorem icY {cd : ClassFile.Cond} {x y : Int32} (h : rel cd x.toInt y.toInt) : if_icmp.holds cd x y = true := by
  cases cd <;> simp only [rel] at h <;> simp [if_icmp.holds, Int32.lt_iff_toInt_lt, Int32.le_iff_toInt_le, ← Int32.toInt_inj] <;> omega
theorem icN {cd : ClassFile.Cond} {x y : Int32} (h : ¬ rel cd x.toInt y.toInt) : if_icmp.holds cd x y = false := by
  cases cd <;> simp only [rel] at h <;> simp [if_icmp.holds, Int32.lt_iff_toInt_lt, Int32.le_iff_toInt_le, ← Int32.toInt_inj] <;> omega
theorem ifY {cd : ClassFile.Cond} {x : Int32} (h : rel cd x.toInt 0) : ifCond.holds cd x = true := (if0 cd x).trans (icY h)
theorem ifN {cd : ClassFile.Cond} {x : Int32} (h : ¬ rel cd x.toInt 0) : ifCond.holds cd x = false := (if0 cd x).trans (icN h)
theorem lcmp_rel {cd : ClassFile.Cond} {x y : Int64} : rel cd (lcmpW x y).toInt 0 ↔ rel cd x.toInt y.toInt := by
  have h1 : x < y ↔ x.toInt < y.toInt := Int64.lt_iff_toInt_lt
  have h2 : y < x ↔ y.toInt < x.toInt := Int64.lt_iff_toInt_lt
  have h3 : x = y ↔ x.toInt = y.toInt := Int64.toInt_inj.symm
  have e1 : (1 : Int32).toInt = 1 := rfl
  have e2 : (-1 : Int32).toInt = -1 := rfl
  have e3 : (0 : Int32).toInt = 0 := rfl
  unfold lcmpW
  by_cases c1 : x > y
  · rw [if_pos c1, e1]; have := h2.mp c1; cases cd <;> simp only [rel] <;> omega
  · rw [if_neg c1]
    have n1 : ¬ y.toInt < x.toInt := fun q => c1 (h2.mpr q)
    by_cases c2 : x = y
    · rw [if_pos c2, e3]; have q := h3.mp c2; cases cd <;> simp only [rel] <;> first | omega | simp [q]
    · rw [if_neg c2, e2]
      have n2 : ¬ x.toInt = y.toInt := fun q => c2 (h3.mpr q)
      cases cd <;> simp only [rel] <;> omega
theorem lcY {cd : ClassFile.Cond} {x y : Int64} (h : rel cd x.toInt y.toInt) : ifCond.holds cd (lcmpW x y) = true := ifY (lcmp_rel.mpr h)
theorem lcN {cd : ClassFile.Cond} {x y : Int64} (h : ¬ rel cd x.toInt y.toInt) : ifCond.holds cd (lcmpW x y) = false := ifN fun q => h (lcmp_rel.mp q)
theorem cmpV_rel {cd : ClassFile.Cond} {op : CmpOp} {i j : Int} : rel cd (cmpValue (some (compare i j)) op).toInt 0 ↔ rel cd i j := by
  have e1 : (1 : Int32).toInt = 1 := rfl
  have e2 : (-1 : Int32).toInt = -1 := rfl
  have e3 : (0 : Int32).toInt = 0 := rfl
  cases h : compare i j with
  | lt => have := (FP.Core.compare_lt_iff i j).mp h; show rel cd (-1 : Int32).toInt 0 ↔ _; rw [e2]; cases cd <;> simp only [rel] <;> omega
  | eq => have := (FP.Core.compare_eq_iff i j).mp h; show rel cd (0 : Int32).toInt 0 ↔ _; rw [e3]; cases cd <;> simp only [rel] <;> first | omega | simp [this]
  | gt => have := (FP.Core.compare_gt_iff i j).mp h; show rel cd (1 : Int32).toInt 0 ↔ _; rw [e1]; cases cd <;> simp only [rel] <;> omega
theorem dcY {cd : ClassFile.Cond} {op : CmpOp} {r : Option Ordering} {i j : Int} (q : r = some (compare i j)) (h : rel cd i j) : ifCond.holds cd (cmpValue r op) = true := by subst q; exact ifY (cmpV_rel.mpr h)
theorem dcN {cd : ClassFile.Cond} {op : CmpOp} {r : Option Ordering} {i j : Int} (q : r = some (compare i j)) (h : ¬ rel cd i j) : ifCond.holds cd (cmpValue r op) = false := by subst q; exact ifN fun z => h (cmpV_rel.mp z)
end Jvm.Pilot.@@N@@.Own
namespace Jvm.Pilot.@@N@@.Own
open Jvm Jvm.FP Jvm.FP.Core
/-! ## doubles as whole numbers of 2^-1074: what rounding leaves -/
/-- a double's value in units of 2^-1074 -/
def zv (a : UInt64) : Int := zval b64 (val64 a)
/-- a is finite and lies between lo * 2^k and hi * 2^k units -/
def DB (k : Nat) (lo hi : Int) (a : UInt64) : Prop := DFin a ∧ lo * ((2 ^ k : Nat) : Int) ≤ zv a ∧ zv a ≤ hi * ((2 ^ k : Nat) : Int)
/-- a is finite and is i * 2^k units -/
abbrev DE (k : Nat) (i : Int) (a : UInt64) : Prop := DB k i i a
theorem DE.eq {k : Nat} {i : Int} {a : UInt64} (h : DE k i a) : zv a = i * ((2 ^ k : Nat) : Int) := Int.le_antisymm h.2.2 h.2.1
theorem DE.of {k : Nat} {i : Int} {a : UInt64} (hf : DFin a) (h : zv a = i * ((2 ^ k : Nat) : Int)) : DE k i a := ⟨hf, Int.le_of_eq h.symm, Int.le_of_eq h⟩
theorem tn32 {q : Int32} (h0 : 0 ≤ q.toInt) : (q.toBitVec.toNat : Int) = q.toInt := by
  have l := q.toBitVec.isLt
  have e : q.toInt = q.toBitVec.toInt := rfl
  rw [e] at h0 ⊢
  rw [BitVec.toInt_eq_toNat_cond] at h0 ⊢
  split at h0 <;> split <;> omega
theorem nmul {a b : Int} {A B : Nat} (ha : a.natAbs ≤ A) (hb : b.natAbs ≤ B) : (a * b).natAbs ≤ A * B := by rw [Int.natAbs_mul]; exact Nat.mul_le_mul ha hb
theorem nab {a : Int} {A : Nat} (h : -(A : Int) ≤ a ∧ a ≤ A) : a.natAbs ≤ A := by omega
theorem bmul {a b : Int} {A B : Nat} (ha : -(A : Int) ≤ a ∧ a ≤ A) (hb : -(B : Int) ≤ b ∧ b ≤ B) : -((A * B : Nat) : Int) ≤ a * b ∧ a * b ≤ ((A * B : Nat) : Int) := by
  have := nmul (nab ha) (nab hb)
  omega
theorem le_mul1 {a b : Int} (ha : 0 ≤ a) (hb : 1 ≤ b) : a ≤ a * b := by have := Int.mul_le_mul_of_nonneg_left hb ha; rwa [Int.mul_one] at this
theorem pw_pos (k : Nat) : (0 : Int) < ((2 ^ k : Nat) : Int) := Int.natCast_pos.mpr (Nat.two_pow_pos k)
theorem DB.nn {k : Nat} {lo hi : Int} {a : UInt64} (h : DB k lo hi a) : Jvm.Free.Fl.NoNaN64 a := Jvm.Free.Fl.noNaN64_no.mpr h.1.notNaN
theorem DB.ne {k : Nat} {lo hi : Int} {a : UInt64} (h : DB k lo hi a) : val64 a ≠ .nan := h.1.ne_nan
/-- a number of 53 digits is a double -/
theorem rep {n : Int} {k : Nat} (hn : n.natAbs ≤ 2 ^ 53) (hk : k ≤ 2044) : ∃ s c q, FP.Core.fits b64 (.fin s c q) ∧ zval b64 (.fin s c q) = n * ((2 ^ k : Nat) : Int) := by
  have key : ∀ (n : Int) (k : Nat), n.natAbs < 2 ^ 53 → k ≤ 2045 → ∃ s c q, FP.Core.fits b64 (.fin s c q) ∧ zval b64 (.fin s c q) = n * ((2 ^ k : Nat) : Int) := by
    intro n k hn hk
    have q1 : b64.qmin = -1074 := by decide
    have q2 : b64.qmax = 971 := by decide
    obtain ⟨c', q', h1, h2⟩ := round_exact good_b64 (decide (n < 0)) (c := n.natAbs) (q := b64.qmin + (k : Int)) (show n.natAbs < 2 ^ b64.p from hn) (by omega) (by omega)
    refine ⟨_, c', q', h1 ▸ round_fits good_b64 _, ?_⟩
    show signed (decide (n < 0)) (inUnits c' q' b64.qmin) = _
    rw [h2]
    unfold inUnits
    rw [signed_mul, show (b64.qmin + (k : Int) - b64.qmin).toNat = k by omega]
    congr 1
    unfold signed
    by_cases h : n < 0 <;> simp [h] <;> omega
  by_cases h : n.natAbs < 2 ^ 53
  · exact key n k h (by omega)
  · have e : n.natAbs = 2 ^ 53 := by omega
    have : ∃ m : Int, n = m * 2 ∧ m.natAbs < 2 ^ 53 := by
      rcases Int.natAbs_eq n with q | q
      · exact ⟨2 ^ 52, by rw [q, e]; decide, by decide⟩
      · exact ⟨-2 ^ 52, by rw [q, e]; decide, by decide⟩
    obtain ⟨m, rfl, hm⟩ := this
    obtain ⟨s, c, q, h1, h2⟩ := key m (k + 1) hm (by omega)
    refine ⟨s, c, q, h1, ?_⟩
    rw [h2, Nat.pow_succ, Int.natCast_mul, Int.mul_assoc]
    congr 1
    rw [Int.mul_comm]; rfl
/-- a number between two finite ones is finite -/
theorem fin_between {a : UInt64} {lo hi : Int} {k : Nat} (hl : lo.natAbs ≤ 2 ^ 53) (hh : hi.natAbs ≤ 2 ^ 53) (hk : k ≤ 2044) (hn : val64 a ≠ .nan) (h1 : lo * ((2 ^ k : Nat) : Int) ≤ zv a) (h2 : zv a ≤ hi * ((2 ^ k : Nat) : Int)) : DB k lo hi a := by
  refine ⟨?_, h1, h2⟩
  obtain ⟨s1, c1, q1, f1, e1⟩ := rep hl hk
  obtain ⟨s2, c2, q2, f2, e2⟩ := rep hh hk
  have t1 : zmag b64 (.fin s1 c1 q1) < b64.tails * 2 ^ (b64.exps - 2) := zmag_lt_top good_b64 f1
  have t2 : zmag b64 (.fin s2 c2 q2) < b64.tails * 2 ^ (b64.exps - 2) := zmag_lt_top good_b64 f2
  rw [← e1] at h1
  rw [← e2] at h2
  unfold zv at h1 h2
  cases hv : val64 a with
  | nan => exact absurd hv hn
  | fin s c q => exact ⟨s, c, q, hv⟩
  | inf s =>
    exfalso
    rw [hv] at h1 h2
    have z : zmag b64 (.inf s) = b64.tails * 2 ^ (b64.exps - 2) := rfl
    unfold zval at h1 h2
    rw [z] at h1 h2
    generalize b64.tails * 2 ^ (b64.exps - 2) = top at *
    generalize zmag b64 (.fin s1 c1 q1) = m1 at *
    generalize zmag b64 (.fin s2 c2 q2) = m2 at *
    simp only [sgn] at h1 h2
    cases s <;> cases s1 <;> cases s2 <;> simp only [signed, if_true, Bool.false_eq_true, if_false] at h1 h2 <;> omega
theorem qmin_sub : ((2 ^ (b64.qmin - b64.qmin).toNat : Nat) : Int) = 1 := by rw [Int.sub_self]; rfl
/-- what lies between two numbers of 53 digits is rounded to something between them -/
theorem round_between {s : Bool} {c : Nat} {q : Int} {lo hi : Int} {k : Nat} {a : UInt64} (ha : val64 a = round b64 (.fin s c q)) (hl : lo.natAbs ≤ 2 ^ 53) (hh : hi.natAbs ≤ 2 ^ 53) (hk : k ≤ 2044) {e0 : Int} (h0 : e0 ≤ b64.qmin) (h0e : e0 ≤ q)
    (h1 : lo * ((2 ^ k : Nat) : Int) * ((2 ^ (b64.qmin - e0).toNat : Nat) : Int) ≤ signed s (inUnits c q e0)) (h2 : signed s (inUnits c q e0) ≤ hi * ((2 ^ k : Nat) : Int) * ((2 ^ (b64.qmin - e0).toNat : Nat) : Int)) : DB k lo hi a := by
  obtain ⟨s1, c1, q1, f1, e1⟩ := rep hl hk
  obtain ⟨s2, c2, q2, f2, e2⟩ := rep hh hk
  have hn : val64 a ≠ .nan := by rw [ha]; exact roundRatio_ne_nan _ _ _ _ _
  refine fin_between hl hh hk hn ?_ ?_
  · unfold zv; rw [ha, ← e1]; exact zval_round_ge good_b64 f1 (by simp) h0 h0e (by rw [e1]; exact h1)
  · unfold zv; rw [ha, ← e2]; exact zval_round_le good_b64 f2 (by simp) h0 h0e (by rw [e2]; exact h2)
theorem add_b {a b : UInt64} {k : Nat} {l1 h1 l2 h2 lo hi : Int} (ha : DB k l1 h1 a) (hb : DB k l2 h2 b) (hlo : lo ≤ l1 + l2) (hhi : h1 + h2 ≤ hi) (hl : lo.natAbs ≤ 2 ^ 53) (hh : hi.natAbs ≤ 2 ^ 53) (hk : k ≤ 2044) : DB k lo hi (FP.dadd a b) := by
  obtain ⟨⟨s, c, q, va⟩, a1, a2⟩ := ha
  obtain ⟨⟨t, d, r, vb⟩, b1, b2⟩ := hb
  have hv := val64_dadd a b
  have fa := val64_fits a
  have fb := val64_fits b
  unfold zv at a1 a2 b1 b2
  rw [va] at hv fa a1 a2
  rw [vb] at hv fb b1 b2
  obtain ⟨sg, n, e, h3, h4, h5⟩ := sum_units fa fb
  rw [h3] at hv
  have hp := pw_pos k
  refine round_between hv hl hh hk (e0 := b64.qmin) (Int.le_refl _) h4 ?_ ?_
  · rw [h5, qmin_sub, Int.mul_one]
    have := Int.mul_le_mul_of_nonneg_right hlo (Int.le_of_lt hp)
    rw [Int.add_mul] at this
    omega
  · rw [h5, qmin_sub, Int.mul_one]
    have := Int.mul_le_mul_of_nonneg_right hhi (Int.le_of_lt hp)
    rw [Int.add_mul] at this
    omega
theorem zv_dneg {a : UInt64} : zv (FP.dneg a) = -zv a := by unfold zv; rw [FP.val64_dneg, zval_negate]
theorem neg_b {a : UInt64} {k : Nat} {lo hi : Int} (ha : DB k lo hi a) : DB k (-hi) (-lo) (FP.dneg a) := by
  refine ⟨?_, ?_, ?_⟩
  · obtain ⟨s, c, q, va⟩ := ha.1
    exact ⟨!s, c, q, by rw [FP.val64_dneg, va]; rfl⟩
  · rw [zv_dneg, Int.neg_mul]; have := ha.2.2; omega
  · rw [zv_dneg, Int.neg_mul]; have := ha.2.1; omega
theorem sub_b {a b : UInt64} {k : Nat} {l1 h1 l2 h2 lo hi : Int} (ha : DB k l1 h1 a) (hb : DB k l2 h2 b) (hlo : lo ≤ l1 - h2) (hhi : h1 - l2 ≤ hi) (hl : lo.natAbs ≤ 2 ^ 53) (hh : hi.natAbs ≤ 2 ^ 53) (hk : k ≤ 2044) : DB k lo hi (FP.dsub a b) := by
  have e : FP.dsub a b = FP.dadd a (FP.dneg b) := by
    rw [FP.dneg_core hb.1.notNaN]; exact dsub_eq a b
  rw [e]
  exact add_b ha (neg_b hb) (by omega) (by omega) hl hh hk
theorem pw_1074 : ((2 ^ (b64.qmin - 2 * b64.qmin).toNat : Nat) : Int) = ((2 ^ 1074 : Nat) : Int) := by
  rw [show (b64.qmin - 2 * b64.qmin).toNat = 1074 by decide]
/-- the exact product of the two lies between -/
theorem mul_z {a b : UInt64} {k : Nat} {lo hi : Int} (fa : DFin a) (fb : DFin b) (h1 : lo * ((2 ^ k : Nat) : Int) * ((2 ^ 1074 : Nat) : Int) ≤ zv a * zv b) (h2 : zv a * zv b ≤ hi * ((2 ^ k : Nat) : Int) * ((2 ^ 1074 : Nat) : Int)) (hl : lo.natAbs ≤ 2 ^ 53) (hh : hi.natAbs ≤ 2 ^ 53) (hk : k ≤ 2044) : DB k lo hi (FP.dmul a b) := by
  obtain ⟨s, c, q, va⟩ := fa
  obtain ⟨t, d, r, vb⟩ := fb
  have hv := val64_dmul a b
  have fa := val64_fits a
  have fb := val64_fits b
  unfold zv at h1 h2
  rw [va] at hv fa h1 h2
  rw [vb] at hv fb h1 h2
  obtain ⟨g1, g2, g3⟩ := product_units fa fb
  rw [g1] at hv
  have e : signed (s != t) (inUnits (c * d) (q + r) (2 * b64.qmin)) = zval b64 (.fin s c q) * zval b64 (.fin t d r) := by
    rw [g3, signed_xor]; rfl
  refine round_between hv hl hh hk (e0 := 2 * b64.qmin) (by decide) g2 ?_ ?_
  · rw [e, pw_1074]; exact h1
  · rw [e, pw_1074]; exact h2
theorem pw_add (a b : Nat) : ((2 ^ (a + b) : Nat) : Int) = ((2 ^ a : Nat) : Int) * ((2 ^ b : Nat) : Int) := by rw [Nat.pow_add, Int.natCast_mul]
theorem mul_e {a b : UInt64} {k k1 k2 : Nat} {i j n : Int} (ha : DE k1 i a) (hb : DE k2 j b) (hk : k1 + k2 = k + 1074) (hn : i * j = n) (hh : n.natAbs ≤ 2 ^ 53) (hk' : k ≤ 2044) : DE k n (FP.dmul a b) := by
  have e : zv a * zv b = n * ((2 ^ k : Nat) : Int) * ((2 ^ 1074 : Nat) : Int) := by
    rw [ha.eq, hb.eq, ← hn, Int.mul_assoc (i * j), ← pw_add, ← hk, pw_add]
    simp only [Int.mul_assoc, Int.mul_left_comm]
  exact mul_z ha.1 hb.1 (Int.le_of_eq e.symm) (Int.le_of_eq e) hh hh hk'
/-- a bounded one times a known one that isn't negative -/
theorem mul_b {a b : UInt64} {k k1 k2 : Nat} {l1 h1 j lo hi : Int} (ha : DB k1 l1 h1 a) (hb : DE k2 j b) (hj : 0 ≤ j) (hk : k1 + k2 = k + 1074) (hlo : lo ≤ l1 * j) (hhi : h1 * j ≤ hi) (hl : lo.natAbs ≤ 2 ^ 53) (hh : hi.natAbs ≤ 2 ^ 53) (hk' : k ≤ 2044) : DB k lo hi (FP.dmul a b) := by
  have p1 := pw_pos k1
  have p2 := pw_pos k2
  have hz : 0 ≤ zv b := by rw [hb.eq]; exact Int.mul_nonneg hj (Int.le_of_lt p2)
  have e : ∀ x : Int, x * j * ((2 ^ k : Nat) : Int) * ((2 ^ 1074 : Nat) : Int) = x * ((2 ^ k1 : Nat) : Int) * zv b := fun x => by
    rw [hb.eq, Int.mul_assoc (x * j), ← pw_add, ← hk, pw_add]
    simp only [Int.mul_assoc, Int.mul_left_comm]
  have up : ∀ {x y : Int}, x ≤ y → x * ((2 ^ k : Nat) : Int) * ((2 ^ 1074 : Nat) : Int) ≤ y * ((2 ^ k : Nat) : Int) * ((2 ^ 1074 : Nat) : Int) := fun h =>
    Int.mul_le_mul_of_nonneg_right (Int.mul_le_mul_of_nonneg_right h (Int.le_of_lt (pw_pos _))) (Int.le_of_lt (pw_pos _))
  refine mul_z ha.1 hb.1 ?_ ?_ hl hh hk'
  · refine Int.le_trans (up hlo) ?_
    rw [e]; exact Int.mul_le_mul_of_nonneg_right ha.2.1 hz
  · refine Int.le_trans ?_ (up hhi)
    rw [e]; exact Int.mul_le_mul_of_nonneg_right ha.2.2 hz
theorem pw3 {A B C D E : Nat} (c : Nat) (h : A + B = C + D + E) : c * 2 ^ A * 2 ^ B = c * 2 ^ C * 2 ^ D * 2 ^ E := by
  rw [Nat.mul_assoc, ← Nat.pow_add, h, Nat.pow_add, Nat.pow_add, ← Nat.mul_assoc, ← Nat.mul_assoc]
theorem ev_aux (V : Int) (n d y : Nat) : V * ((2 ^ n * d : Nat) : Int) * ((2 ^ y : Nat) : Int) = V * ((d * 2 ^ y : Nat) : Int) * ((2 ^ n : Nat) : Int) := by
  rw [Int.natCast_mul, Int.natCast_mul]
  generalize ((2 ^ n : Nat) : Int) = x
  generalize ((2 ^ y : Nat) : Int) = z
  simp only [Int.mul_assoc, Int.mul_comm, Int.mul_left_comm]
/-- the quotient, with signs -/
theorem ratio_le {s : Bool} {A B : Nat} {e e0 : Int} {V : Datum} (hB : 0 < B) (hV : FP.Core.fits b64 V) (hn : V ≠ .nan) (h0 : e0 ≤ b64.qmin) (h0e : e0 ≤ e)
    (h : signed s (inUnits A e e0) ≤ zval b64 V * ((2 ^ (b64.qmin - e0).toNat * B : Nat) : Int)) : zval b64 (roundRatio b64 s A B e) ≤ zval b64 V := by
  have hle := zmag_roundRatio_le good_b64 (s := s) (A := A) hB hV hn h0 h0e
  have hge := zmag_roundRatio_ge good_b64 (s := s) (A := A) hB hV h0 h0e
  rw [Nat.mul_assoc] at hle hge
  have hP : 0 < 2 ^ (b64.qmin - e0).toNat * B := Nat.mul_pos (Nat.two_pow_pos _) hB
  unfold zval at h ⊢
  rw [sgn_roundRatio]
  rw [← signed_mul] at h
  have hz : zmag b64 V * (2 ^ (b64.qmin - e0).toNat * B) = 0 → zmag b64 V = 0 := by
    intro h
    rcases Nat.mul_eq_zero.mp h with h | h <;> omega
  generalize zmag b64 V * (2 ^ (b64.qmin - e0).toNat * B) = vP at *
  generalize sgn V = t at *
  cases s <;> cases t <;> simp only [signed, if_true, Bool.false_eq_true, if_false] at h ⊢
  · have := hle (by omega); omega
  · have := hle (by omega); have := hz (by omega); omega
  · omega
  · have := hge (by omega); omega
theorem ratio_ge {s : Bool} {A B : Nat} {e e0 : Int} {V : Datum} (hB : 0 < B) (hV : FP.Core.fits b64 V) (hn : V ≠ .nan) (h0 : e0 ≤ b64.qmin) (h0e : e0 ≤ e)
    (h : zval b64 V * ((2 ^ (b64.qmin - e0).toNat * B : Nat) : Int) ≤ signed s (inUnits A e e0)) : zval b64 V ≤ zval b64 (roundRatio b64 s A B e) := by
  have h1 := ratio_le (s := !s) (A := A) (B := B) (e := e) (V := negate V) hB (negate_fits hV) (negate_ne_nan hn) h0 h0e (by
    rw [zval_negate, Int.neg_mul]
    have : signed (!s) (inUnits A e e0) = -signed s (inUnits A e e0) := by cases s <;> simp [signed]
    rw [this]; omega)
  rw [zval_negate, ← negate_roundRatio, zval_negate] at h1
  omega
/-- the quotient by a positive number: no NaN, and at the least, at the most, what is so when multiplied back -/
theorem div_zz {a b : UInt64} (fa : DFin a) (fb : DFin b) (hb : 0 < zv b) : val64 (FP.ddiv a b) ≠ .nan ∧
    (∀ {k : Nat} {lo : Int}, lo.natAbs ≤ 2 ^ 53 → k ≤ 2044 → lo * ((2 ^ k : Nat) : Int) * zv b ≤ zv a * ((2 ^ 1074 : Nat) : Int) → lo * ((2 ^ k : Nat) : Int) ≤ zv (FP.ddiv a b)) ∧
    (∀ {k : Nat} {hi : Int}, hi.natAbs ≤ 2 ^ 53 → k ≤ 2044 → zv a * ((2 ^ 1074 : Nat) : Int) ≤ hi * ((2 ^ k : Nat) : Int) * zv b → zv (FP.ddiv a b) ≤ hi * ((2 ^ k : Nat) : Int)) := by
  obtain ⟨s, c, q, va⟩ := fa
  obtain ⟨t, d, r, vb⟩ := fb
  have hv := val64_ddiv a b
  have fa := val64_fits a
  have fb := val64_fits b
  have zea : zv a = zval b64 (.fin s c q) := by unfold zv; rw [va]
  have zeb : zv b = zval b64 (.fin t d r) := by unfold zv; rw [vb]
  rw [zea, zeb]
  rw [zeb] at hb
  rw [va] at hv fa
  rw [vb] at hv fb
  have qn : b64.qmin = -1074 := by decide
  have qx : b64.qmax = 971 := by decide
  have fa2 := fa.2.1
  have fb2 := fb.2.1
  have fb3 := fb.2.2.1
  have zb : zval b64 (.fin t d r) = signed t (d * 2 ^ (r - b64.qmin).toNat) := rfl
  have za : zval b64 (.fin s c q) = signed s (c * 2 ^ (q - b64.qmin).toNat) := rfl
  have hd : 0 < d := by
    refine Nat.pos_of_ne_zero fun e => ?_
    rw [zb, e, Nat.zero_mul, signed_zero] at hb
    omega
  have ht : t = false := by
    cases t with
    | false => rfl
    | true => rw [zb] at hb; simp only [signed, if_true] at hb; omega
  subst ht
  have hq : quotient b64 (.fin s c q) (.fin false d r) = roundRatio b64 s c d (q - r) := by
    show (if d = 0 then _ else roundRatio b64 (s != false) c d (q - r)) = _
    rw [if_neg (by omega)]; cases s <;> rfl
  rw [hq] at hv
  have hn : val64 (Core.ddiv a b) ≠ .nan := by rw [hv]; exact roundRatio_ne_nan _ _ _ _ _
  -- both sides times 2^(r - qmin)
  have hP := pw_pos (r - b64.qmin).toNat
  have ex : signed s (inUnits c (q - r) (2 * b64.qmin)) * ((2 ^ (r - b64.qmin).toNat : Nat) : Int) = zval b64 (.fin s c q) * ((2 ^ 1074 : Nat) : Int) * ((2 ^ 1074 : Nat) : Int) := by
    rw [za, ← signed_mul, ← signed_mul, ← signed_mul]
    exact congrArg (signed s) (pw3 (A := (q - r - 2 * b64.qmin).toNat) (D := 1074) (E := 1074) c (by omega))
  have ev : ∀ V : Int, V * ((2 ^ (b64.qmin - 2 * b64.qmin).toNat * d : Nat) : Int) * ((2 ^ (r - b64.qmin).toNat : Nat) : Int) = V * zval b64 (.fin false d r) * ((2 ^ 1074 : Nat) : Int) := fun V => by
    rw [zb, show (b64.qmin - 2 * b64.qmin).toNat = 1074 by decide]
    exact ev_aux V 1074 d _
  have p1074 := pw_pos 1074
  refine ⟨hn, fun {k lo} hl hk h1 => ?_, fun {k hi} hh hk h2 => ?_⟩
  · obtain ⟨s1, c1, q1, f1, e1⟩ := rep hl hk
    unfold zv; rw [hv, ← e1]
    refine ratio_ge hd f1 (by simp) (e0 := 2 * b64.qmin) (by decide) (by omega) ?_
    refine Int.le_of_mul_le_mul_right ?_ hP
    rw [ev, ex, e1]
    exact Int.mul_le_mul_of_nonneg_right h1 (Int.le_of_lt p1074)
  · obtain ⟨s2, c2, q2, f2, e2⟩ := rep hh hk
    unfold zv; rw [hv, ← e2]
    refine ratio_le hd f2 (by simp) (e0 := 2 * b64.qmin) (by decide) (by omega) ?_
    refine Int.le_of_mul_le_mul_right ?_ hP
    rw [ev, ex, e2]
    exact Int.mul_le_mul_of_nonneg_right h2 (Int.le_of_lt p1074)
/-- between lo and hi -/
theorem div_z {a b : UInt64} {k : Nat} {lo hi : Int} (fa : DFin a) (fb : DFin b) (hb : 0 < zv b) (h1 : lo * ((2 ^ k : Nat) : Int) * zv b ≤ zv a * ((2 ^ 1074 : Nat) : Int)) (h2 : zv a * ((2 ^ 1074 : Nat) : Int) ≤ hi * ((2 ^ k : Nat) : Int) * zv b) (hl : lo.natAbs ≤ 2 ^ 53) (hh : hi.natAbs ≤ 2 ^ 53) (hk : k ≤ 2044) : DB k lo hi (FP.ddiv a b) := by
  obtain ⟨n, ge, le⟩ := div_zz fa fb hb
  exact fin_between hl hh hk n (ge hl hk h1) (le hh hk h2)
/-- the quotient of two known numbers, the second one positive -/
theorem div_b {a b : UInt64} {k k1 k2 : Nat} {i j lo hi : Int} (ha : DE k1 i a) (hb : DE k2 j b) (hj : 0 < j) (hk : k1 + 1074 = k + k2) (hlo : lo * j ≤ i) (hhi : i ≤ hi * j) (hl : lo.natAbs ≤ 2 ^ 53) (hh : hi.natAbs ≤ 2 ^ 53) (hk' : k ≤ 2044) : DB k lo hi (FP.ddiv a b) := by
  have p2 := pw_pos k2
  have e : ∀ x : Int, x * ((2 ^ k : Nat) : Int) * zv b = x * j * ((2 ^ (k1 + 1074) : Nat) : Int) := fun x => by
    rw [hb.eq, hk, pw_add]
    simp only [Int.mul_assoc, Int.mul_left_comm]
  have e2 : zv a * ((2 ^ 1074 : Nat) : Int) = i * ((2 ^ (k1 + 1074) : Nat) : Int) := by rw [ha.eq, pw_add, Int.mul_assoc]
  refine div_z ha.1 hb.1 (by rw [hb.eq]; exact Int.mul_pos hj p2) ?_ ?_ hl hh hk'
  · rw [e, e2]; exact Int.mul_le_mul_of_nonneg_right hlo (Int.le_of_lt (pw_pos _))
  · rw [e, e2]; exact Int.mul_le_mul_of_nonneg_right hhi (Int.le_of_lt (pw_pos _))
theorem div_e {a b : UInt64} {k k1 k2 : Nat} {i j n : Int} (ha : DE k1 i a) (hb : DE k2 j b) (hj : 0 < j) (hk : k1 + 1074 = k + k2) (hn : n * j = i) (hh : n.natAbs ≤ 2 ^ 53) (hk' : k ≤ 2044) : DE k n (FP.ddiv a b) :=
  div_b ha hb hj hk (Int.le_of_eq hn) (Int.le_of_eq hn.symm) hh hh hk'
theorem add_e {a b : UInt64} {k : Nat} {i j n : Int} (ha : DE k i a) (hb : DE k j b) (hn : i + j = n) (hh : n.natAbs ≤ 2 ^ 53) (hk : k ≤ 2044) : DE k n (FP.dadd a b) := add_b ha hb (Int.le_of_eq hn.symm) (Int.le_of_eq hn) hh hh hk
theorem sub_e {a b : UInt64} {k : Nat} {i j n : Int} (ha : DE k i a) (hb : DE k j b) (hn : i - j = n) (hh : n.natAbs ≤ 2 ^ 53) (hk : k ≤ 2044) : DE k n (FP.dsub a b) := sub_b ha hb (Int.le_of_eq hn.symm) (Int.le_of_eq hn) hh hh hk
theorem i2d_e (x : Int32) : DE 1074 x.toInt (FP.i2d x) := DE.of (Core.i2d_fin x) (DInt_zval (i2d_int x))
theorem l2d_e {x : Int64} (h : x.toInt.natAbs ≤ 2 ^ 53) : DE 1074 x.toInt (FP.l2d x) := DE.of (Core.l2d_fin x) (DInt_zval (l2d_int h))
theorem zero_e (k : Nat) : DE k 0 FP.dconst0 := DE.of ⟨_, _, _, rfl⟩ (by rw [Int.zero_mul]; exact zval64_zero)
/-- in smaller units -/
theorem DB.down {a : UInt64} {k : Nat} {lo hi : Int} (h : DB k lo hi a) {k' n : Nat} (hk : k = k' + n) : DB k' (lo * ((2 ^ n : Nat) : Int)) (hi * ((2 ^ n : Nat) : Int)) a := by
  subst hk
  refine ⟨h.1, ?_, ?_⟩
  · have := h.2.1; rw [Nat.add_comm, pw_add, ← Int.mul_assoc] at this; exact this
  · have := h.2.2; rw [Nat.add_comm, pw_add, ← Int.mul_assoc] at this; exact this
/-- the quotient from below alone -/
theorem div_ge {a b : UInt64} {k k1 k2 : Nat} {i j lo : Int} (ha : DE k1 i a) (hb : DE k2 j b) (hj : 0 < j) (hk : k1 + 1074 = k + k2) (hlo : lo * j ≤ i) (hl : lo.natAbs ≤ 2 ^ 53) (hk' : k ≤ 2044) : lo * ((2 ^ k : Nat) : Int) ≤ zv (FP.ddiv a b) := by
  have p2 := pw_pos k2
  have e : ∀ x : Int, x * ((2 ^ k : Nat) : Int) * zv b = x * j * ((2 ^ (k1 + 1074) : Nat) : Int) := fun x => by
    rw [hb.eq, hk, pw_add]
    simp only [Int.mul_assoc, Int.mul_left_comm]
  have e2 : zv a * ((2 ^ 1074 : Nat) : Int) = i * ((2 ^ (k1 + 1074) : Nat) : Int) := by rw [ha.eq, pw_add, Int.mul_assoc]
  refine (div_zz ha.1 hb.1 (by rw [hb.eq]; exact Int.mul_pos hj p2)).2.1 hl hk' ?_
  rw [e, e2]; exact Int.mul_le_mul_of_nonneg_right hlo (Int.le_of_lt (pw_pos _))
/-- in greater units -/
theorem DB.up {a : UInt64} {k : Nat} {lo hi : Int} {n : Nat} (h : DB k (lo * ((2 ^ n : Nat) : Int)) (hi * ((2 ^ n : Nat) : Int)) a) : DB (k + n) lo hi a := by
  refine ⟨h.1, ?_, ?_⟩
  · have := h.2.1; rw [Int.mul_assoc, ← pw_add, Nat.add_comm] at this; exact this
  · have := h.2.2; rw [Int.mul_assoc, ← pw_add, Nat.add_comm] at this; exact this
/-- the product of two known numbers, between two that lie on a grid 2^g times as coarse -/
theorem mul_g {a b : UInt64} {k k1 k2 g : Nat} {i j lo hi : Int} (ha : DE k1 i a) (hb : DE k2 j b) (hk : k1 + k2 + g = k + 1074) (hlo : lo * ((2 ^ g : Nat) : Int) ≤ i * j) (hhi : i * j ≤ hi * ((2 ^ g : Nat) : Int)) (hl : lo.natAbs ≤ 2 ^ 53) (hh : hi.natAbs ≤ 2 ^ 53) (hk' : k ≤ 2044) : DB k lo hi (FP.dmul a b) := by
  have e : zv a * zv b = i * j * ((2 ^ (k1 + k2) : Nat) : Int) := by
    rw [ha.eq, hb.eq, pw_add]
    simp only [Int.mul_assoc, Int.mul_left_comm]
  have e2 : ∀ x : Int, x * ((2 ^ k : Nat) : Int) * ((2 ^ 1074 : Nat) : Int) = x * ((2 ^ g : Nat) : Int) * ((2 ^ (k1 + k2) : Nat) : Int) := fun x => by
    rw [Int.mul_assoc, ← pw_add, ← hk, Nat.add_comm, pw_add, ← Int.mul_assoc]
  refine mul_z ha.1 hb.1 ?_ ?_ hl hh hk'
  · rw [e, e2]; exact Int.mul_le_mul_of_nonneg_right hlo (Int.le_of_lt (pw_pos _))
  · rw [e, e2]; exact Int.mul_le_mul_of_nonneg_right hhi (Int.le_of_lt (pw_pos _))
theorem DB.wide {a : UInt64} {k : Nat} {lo hi lo' hi' : Int} (h : DB k lo hi a) (h1 : lo' ≤ lo) (h2 : hi ≤ hi') : DB k lo' hi' a :=
  ⟨h.1, Int.le_trans (Int.mul_le_mul_of_nonneg_right h1 (Int.le_of_lt (pw_pos k))) h.2.1, Int.le_trans h.2.2 (Int.mul_le_mul_of_nonneg_right h2 (Int.le_of_lt (pw_pos k)))⟩
theorem DE.cmp {a b : UInt64} {k : Nat} {i j : Int} (ha : DE k i a) (hb : DE k j b) : FP.dcmp a b = some (compare i j) := by
  rw [show FP.dcmp a b = some (compare (zv a) (zv b)) from dcmp_zval ha.ne hb.ne, ha.eq, hb.eq, compare_mul_pos _ _ _ (pw_pos k)]
theorem DB.lt {a b : UInt64} {k : Nat} {l1 h1 l2 h2 : Int} (ha : DB k l1 h1 a) (hb : DB k l2 h2 b) (h : h1 < l2) : FP.dcmp a b = some .lt := by
  rw [show FP.dcmp a b = some (compare (zv a) (zv b)) from dcmp_zval ha.ne hb.ne]
  congr 1
  rw [compare_lt_iff]
  have := Int.mul_lt_mul_of_pos_right h (pw_pos k)
  have := ha.2.2; have := hb.2.1
  omega
theorem DB.gt {a b : UInt64} {k : Nat} {l1 h1 l2 h2 : Int} (ha : DB k l1 h1 a) (hb : DB k l2 h2 b) (h : h2 < l1) : FP.dcmp a b = some .gt := by
  rw [show FP.dcmp a b = some (compare (zv a) (zv b)) from dcmp_zval ha.ne hb.ne]
  congr 1
  rw [compare_gt_iff]
  have := Int.mul_lt_mul_of_pos_right h (pw_pos k)
  have := ha.2.1; have := hb.2.2
  omega
/-- two doubles of one value that isn't nought are one -/
theorem DE.uniq {a b : UInt64} {k : Nat} {i : Int} (ha : DE k i a) (hb : DE k i b) (hi : i ≠ 0) : a = b := by
  have h1 := dcmp_key ha.ne hb.ne
  rw [dcmp_zval ha.ne hb.ne] at h1
  have e : zval b64 (val64 a) = zval b64 (val64 b) := (ha.eq).trans hb.eq.symm
  have h2 := Option.some.inj h1
  rw [(compare_eq_iff _ _).mpr e] at h2
  have h3 := (compare_eq_iff _ _).mp h2.symm
  have nz : ∀ {c : UInt64}, DE k i c → dkey c ≠ 0 := fun {c} hc h0 => by
    have q := dcmp_key hc.ne (b := 0) (by rw [val64_zero]; simp)
    rw [dcmp_zval hc.ne (by rw [val64_zero]; simp), zval64_zero] at q
    have q2 := Option.some.inj q
    have z : dkey 0 = 0 := by decide
    rw [h0, z, (compare_eq_iff (0 : Int) 0).mpr rfl] at q2
    have q3 := (compare_eq_iff _ _).mp q2
    have q4 : zv c = 0 := q3
    rw [hc.eq] at q4
    rcases Int.mul_eq_zero.mp q4 with q5 | q5
    · exact hi q5
    · have := pw_pos k; omega
  have n1 := nz ha
  have n2 := nz hb
  unfold dkey at h3 n1 n2
  apply UInt64.toNat_inj.mp
  have l1 := a.toNat_lt; have l2 := b.toNat_lt
  split at h3 <;> split at h3 <;> simp_all <;> omega
end Jvm.Pilot.@@N@@.Own
namespace Jvm.Pilot.@@N@@.Own
open Jvm Jvm.ClassFile Sem Op Lib Jvm.Free Jvm.Stand Jvm.LawKit Jvm.RoadKit
theorem i2l_v {tb : Tables} [Ours tb] {e : Env} {below : List Frame} {T target : State} {m : MethodId} {c : Code} {g : JFrame} (h : At T m c below) (hx : tb.exec = Jvm.exec) (hg : g.method = m) {x : Int32} {v : Int64} {rest : List Value} (hd : decode c.code g.pc = .ok (.i2l, 1)) (hs : g.stack = .int x :: rest) (hv : x.toInt64 = v)
    (hr : Steps tb e below (T.setTop { g with pc := g.pc + 1, stack := .long v :: rest }) target) : Steps tb e below (T.setTop g) target := by subst hv; exact XS.i2l h hx hg hd hs hr
theorem iand_v {tb : Tables} [Ours tb] {e : Env} {below : List Frame} {T target : State} {m : MethodId} {c : Code} {g : JFrame} (h : At T m c below) (hx : tb.exec = Jvm.exec) (hg : g.method = m) {x : Int32} {y : Int32} {v : Int32} {rest : List Value} (hd : decode c.code g.pc = .ok (.iand, 1)) (hs : g.stack = .int y :: .int x :: rest) (hv : x &&& y = v)
    (hr : Steps tb e below (T.setTop { g with pc := g.pc + 1, stack := .int v :: rest }) target) : Steps tb e below (T.setTop g) target := by subst hv; exact XS.iand h hx hg hd hs hr
theorem iushr_v {tb : Tables} [Ours tb] {e : Env} {below : List Frame} {T target : State} {m : MethodId} {c : Code} {g : JFrame} (h : At T m c below) (hx : tb.exec = Jvm.exec) (hg : g.method = m) {x : Int32} {y : Int32} {v : Int32} {rest : List Value} (hd : decode c.code g.pc = .ok (.iushr, 1)) (hs : g.stack = .int y :: .int x :: rest) (hv : ((x.toUInt32 >>> (y &&& 31).toUInt32).toInt32) = v)
    (hr : Steps tb e below (T.setTop { g with pc := g.pc + 1, stack := .int v :: rest }) target) : Steps tb e below (T.setTop g) target := by subst hv; exact XS.iushr h hx hg hd hs hr
theorem lsub_v {tb : Tables} [Ours tb] {e : Env} {below : List Frame} {T target : State} {m : MethodId} {c : Code} {g : JFrame} (h : At T m c below) (hx : tb.exec = Jvm.exec) (hg : g.method = m) {x : Int64} {y : Int64} {v : Int64} {rest : List Value} (hd : decode c.code g.pc = .ok (.lsub, 1)) (hs : g.stack = .long y :: .long x :: rest) (hv : x - y = v)
    (hr : Steps tb e below (T.setTop { g with pc := g.pc + 1, stack := .long v :: rest }) target) : Steps tb e below (T.setTop g) target := by subst hv; exact XS.lsub h hx hg hd hs hr
theorem ladd_v {tb : Tables} [Ours tb] {e : Env} {below : List Frame} {T target : State} {m : MethodId} {c : Code} {g : JFrame} (h : At T m c below) (hx : tb.exec = Jvm.exec) (hg : g.method = m) {x : Int64} {y : Int64} {v : Int64} {rest : List Value} (hd : decode c.code g.pc = .ok (.ladd, 1)) (hs : g.stack = .long y :: .long x :: rest) (hv : x + y = v)
    (hr : Steps tb e below (T.setTop { g with pc := g.pc + 1, stack := .long v :: rest }) target) : Steps tb e below (T.setTop g) target := by subst hv; exact XS.ladd h hx hg hd hs hr
theorem lrem_v {tb : Tables} [Ours tb] {e : Env} {below : List Frame} {T target : State} {m : MethodId} {c : Code} {g : JFrame} (h : At T m c below) (hx : tb.exec = Jvm.exec) (hg : g.method = m) {x : Int64} {y : Int64} {v : Int64} {rest : List Value} (hd : decode c.code g.pc = .ok (.lrem, 1)) (hs : g.stack = .long y :: .long x :: rest) (hy : ¬ y = 0) (hv : x % y = v)
    (hr : Steps tb e below (T.setTop { g with pc := g.pc + 1, stack := .long v :: rest }) target) : Steps tb e below (T.setTop g) target := by subst hv; exact XS.lrem h hx hg hd hs hy (by rw [lrem_mod]; exact hr)
theorem lshl_v {tb : Tables} [Ours tb] {e : Env} {below : List Frame} {T target : State} {m : MethodId} {c : Code} {g : JFrame} (h : At T m c below) (hx : tb.exec = Jvm.exec) (hg : g.method = m) {x : Int64} {y : Int32} {v : Int64} {rest : List Value} (hd : decode c.code g.pc = .ok (.lshl, 1)) (hs : g.stack = .int y :: .long x :: rest) (hv : (x <<< (y &&& 0x3f).toInt64) = v)
    (hr : Steps tb e below (T.setTop { g with pc := g.pc + 1, stack := .long v :: rest }) target) : Steps tb e below (T.setTop g) target := by subst hv; exact XS.lshl h hx hg hd hs hr
end Jvm.Pilot.@@N@@.Own
namespace Jvm.Pilot.@@N@@.Own
open Jvm Jvm.FP Jvm.FP.Core
theorem one_k : DE 1073 2 FP.dconst1 := DE.of ⟨_, _, _, rfl⟩ (by decide +kernel)
theorem one_1040 : DE 1040 17179869184 FP.dconst1 := DE.of ⟨_, _, _, rfl⟩ (by decide +kernel)
theorem half_k : DE 1073 1 (4602678819172646912 : UInt64) := DE.of ⟨_, _, _, rfl⟩ (by decide +kernel)
theorem eps_p : DE 1053 2048 (4562146422526312448 : UInt64) := DE.of ⟨_, _, _, rfl⟩ (by decide +kernel)
theorem eps_n : DE 1053 (-2048) (13785518459381088256 : UInt64) := DE.of ⟨_, _, _, rfl⟩ (by decide +kernel)
/-- a true fraction of small numbers lies strictly between 0 and 1 -/
theorem frac {a b : UInt64} {i j : Int} (ha : DE 1073 i a) (hb : DE 1073 j b) (h1 : 0 < i) (h2 : i < j) (h3 : j ≤ 17179869184) : DB 1040 1 17179869183 (FP.ddiv a b) := by
  have ha' := ha.down (k' := 1039) (n := 34) rfl
  have e : ((2 ^ 34 : Nat) : Int) = 17179869184 := by decide
  rw [e] at ha'
  exact div_b (k := 1040) (k1 := 1039) (k2 := 1073) ha' hb (by omega) rfl (by omega) (by omega) (by decide) (by decide) (by decide)
theorem mul_bg {a b : UInt64} {k k1 k2 g : Nat} {l1 h1 j lo hi : Int} (ha : DB k1 l1 h1 a) (hb : DE k2 j b) (hj : 0 ≤ j) (hk : k1 + k2 + g = k + 1074) (hlo : lo * ((2 ^ g : Nat) : Int) ≤ l1 * j) (hhi : h1 * j ≤ hi * ((2 ^ g : Nat) : Int)) (hl : lo.natAbs ≤ 2 ^ 53) (hh : hi.natAbs ≤ 2 ^ 53) (hk' : k ≤ 2044) : DB k lo hi (FP.dmul a b) := by
  have e : ∀ x : Int, x * ((2 ^ k1 : Nat) : Int) * zv b = x * j * ((2 ^ (k1 + k2) : Nat) : Int) := fun x => by
    rw [hb.eq, pw_add]
    simp only [Int.mul_assoc, Int.mul_left_comm]
  have e2 : ∀ x : Int, x * ((2 ^ k : Nat) : Int) * ((2 ^ 1074 : Nat) : Int) = x * ((2 ^ g : Nat) : Int) * ((2 ^ (k1 + k2) : Nat) : Int) := fun x => by
    rw [Int.mul_assoc, ← pw_add, ← hk, Nat.add_comm, pw_add, ← Int.mul_assoc]
  have z0 : 0 ≤ zv b := by rw [hb.eq]; exact Int.mul_nonneg hj (Int.le_of_lt (pw_pos _))
  refine mul_z ha.1 hb.1 ?_ ?_ hl hh hk'
  · rw [e2]; exact Int.le_trans (Int.mul_le_mul_of_nonneg_right hlo (Int.le_of_lt (pw_pos _))) (by rw [← e]; exact Int.mul_le_mul_of_nonneg_right ha.2.1 z0)
  · rw [e2]; exact Int.le_trans (by rw [← e]; exact Int.mul_le_mul_of_nonneg_right ha.2.2 z0) (Int.mul_le_mul_of_nonneg_right hhi (Int.le_of_lt (pw_pos _)))
/-- quotient times divisor comes back within 2^-21 -/
theorem back {a b : UInt64} {i j : Int} (ha : DE 1073 i a) (hb : DE 1073 j b) (h1 : 0 < i) (h2 : i < j) (h3 : j ≤ 8589934592) : DB 1053 (i * 1048576 - 1) (i * 1048576 + 1) (FP.dmul (FP.ddiv a b) b) := by
  have q1 := Int.mul_ediv_add_emod (i * 9007199254740992) j
  have q2 := Int.emod_nonneg (i * 9007199254740992) (show j ≠ 0 by omega)
  have q3 := Int.emod_lt_of_pos (i * 9007199254740992) (show 0 < j by omega)
  obtain ⟨w, hw⟩ : ∃ w, i * 9007199254740992 / j = w := ⟨_, rfl⟩
  rw [hw, Int.mul_comm] at q1
  have w0 : 0 ≤ w := by rw [← hw]; exact Int.ediv_nonneg (by omega) (by omega)
  have w1 : w < 9007199254740992 := by rw [← hw]; exact Int.ediv_lt_of_lt_mul (by omega) (by omega)
  have ha' := ha.down (k' := 1020) (n := 53) rfl
  have e : ((2 ^ 53 : Nat) : Int) = 9007199254740992 := by decide
  rw [e] at ha'
  have e3 : (w + 1) * j = w * j + j := by rw [Int.add_mul, Int.one_mul]
  have hd := div_b (k := 1021) (k1 := 1020) (k2 := 1073) (lo := w) (hi := w + 1) ha' hb (by omega) rfl (by omega) (by omega) (by omega) (by omega) (by decide)
  have e4 : ((2 ^ 33 : Nat) : Int) = 8589934592 := by decide
  exact mul_bg (k := 1053) (k1 := 1021) (k2 := 1073) (g := 33) hd hb (by omega) rfl (by rw [e4]; omega) (by rw [e4]; omega) (by omega) (by omega) (by decide)
theorem pw_e (c : Nat) {K K' : Nat} (h : K + 1 = K') : 2 * 2 ^ c * 2 ^ K = 2 ^ (K' + c) := by
  subst h
  rw [Nat.pow_add, Nat.pow_add, Nat.pow_one]
  ac_rfl
/-- by a power of two it comes back whole -/
theorem back2 {a b : UInt64} {i : Int} {c : Nat} (ha : DE 1073 i a) (hb : DE 1073 ((2 * 2 ^ c : Nat) : Int) b) (hc : c ≤ 31) (hi : i.natAbs ≤ 2 ^ 53) : DE 1073 i (FP.dmul (FP.ddiv a b) b) := by
  have hb' : DE (1074 + c) 1 b := by
    refine DE.of hb.1 ?_
    rw [hb.eq, Int.one_mul, ← Int.natCast_mul, pw_e c (show 1073 + 1 = 1074 from rfl)]
  have hd := div_e (k := 1073 - c) (n := i) ha hb' (by decide) (by omega) (Int.mul_one _) hi (by omega)
  exact mul_e hd hb' (by omega) (Int.mul_one _) hi (by decide)
theorem p2le (c : Nat) (h : c ≤ 31) : 1 ≤ 2 ^ c ∧ 2 ^ c ≤ 2147483648 := ⟨Nat.two_pow_pos c, Nat.pow_le_pow_right (by decide) h⟩
end Jvm.Pilot.@@N@@.Own
namespace Jvm.Pilot.@@N@@
open Jvm Jvm.ClassFile Sem Op Lib Jvm.Free Jvm.Stand Jvm.LawKit Jvm.RoadKit Bundle Jvm.Pilot.@@N@@.Jvm.D Jvm.Pilot.@@N@@.Own
theorem pd_0 : parseMethodDescriptor "()V" = some ⟨[], none⟩ := by decide +kernel
theorem pd_1 : parseMethodDescriptor "(Ljava/lang/String;DD)V" = some ⟨[(.object "java/lang/String"), .double, .double], none⟩ := by decide +kernel
theorem pd_2 : parseMethodDescriptor "(D)D" = some ⟨[.double], some .double⟩ := by decide +kernel
theorem d1_0 : decode jdk_30_method_1_code 0 = .ok (.aload_n 0, 1) := by decide +kernel
theorem d1_1 : decode jdk_30_method_1_code 1 = .ok (.invokespecial 1, 3) := by decide +kernel
theorem d1_4 : decode jdk_30_method_1_code 4 = .ok (.return_, 1) := by decide +kernel
theorem pn_1 : plainName "java/lang/Record" = true := by first | (simp [plainName, overriddenIn]; done) | decide +kernel
theorem ef_1 (m : MethodId) (x0 : Addr) : entryFrame m #[(.ref x0)] 1 = mkF m 0 #[.val (.ref x0)] [] := by first | (simp [entryFrame, mkF, argsToLocals, Value.category]; done) | rfl
def Q1 (Z : State) (a : Addr) (h0 : Heap) (n0 : Nat) (v : Option Value) (h : Heap) (L : List Loc) : Prop := v = none ∧ Fr n0 L ∧ h = h0
set_option maxRecDepth 65536 in
set_option maxHeartbeats 40000000 in
theorem rm1 (l : Launch) (Z : State) (a0 : Array Value) (hw : ∀ d ∈ tables_1, d.before a0 Z = true) (ws : List Jvm.Cond) (a : Addr) (h0 : Heap) (n0 : Nat) (Z0 : n0 ≤ h0.size) :
    MetFree l (⟨"java/lang/Record", "<init>", "()V"⟩ : MethodName) (head1 (Jvm.Cond.code (⟨"java/lang/Record", "<init>", "()V"⟩ : MethodName) jdk_30_method_1_code 1 none :: ws) ({ frames := 1, cells := 0, slots := 0, locals := 12 } : Room)) (fun a_ U => a_ = #[(.ref a)] ∧ Z.Warmed39 U.vm ∧ U.heap = h0) (fun _ _ _ _ _ => True) (fun _ U o U' => ∃ v L, o = .returned v ∧ Q1 Z a h0 n0 v U'.heap L ∧ FrameEnd U o U' L (({ frames := 1, cells := 0, slots := 0, locals := 12 } : Room)).cells (({ frames := 1, cells := 0, slots := 0, locals := 12 } : Room)).slots) := by
  refine MetFree.of_bodySF (plainFor_of_name pn_1) hisR ?_
  intro p e s m args below meth c s₁ Bd hml0 hP0 hK
  obtain ⟨rfl, hZ, hh⟩ := hP0
  have hx := Bd.exec
  have hby := Bd.bytes
  have hml : c.maxLocals = 1 := hml0
  have hown : s.vm.findClass "java/lang/Record" = some m.cls := findClass_of_methodNamed Bd.named
  have hnm := (name_of_methodNamed Bd.named Bd.method).1
  have X0 : Stand p l e ({ frames := 1, cells := 0, slots := 0, locals := 12 } : Room) s m #[(.ref a)] below meth c s₁ [] 0 0 := Stand.of_body Bd
  have e0 : s₁.heap = h0 := by rw [← hh, Bd.state]; rfl
  have N0 := Fr.nil n0
  have hlk : meth.locks = false := BodyLoose.notSynchronized Bd
  refine Go.start (P₀ := fun s₂ o => ∃ v L, o = .returned v ∧ Q1 Z a h0 n0 v s₂.heap L ∧ FrameEnd s o s₂ L (({ frames := 1, cells := 0, slots := 0, locals := 12 } : Room)).cells (({ frames := 1, cells := 0, slots := 0, locals := 12 } : Room)).slots) (congrArg s₁.setTop (ef_1 m a)) ?_
  intro P hP
  show Go p.tables e below P (s₁.setTop (mkF m 0 #[.val (.ref a)] []))
  refine Go.step (fun t k => XS.aloadN X0.here hx rfl (hb hby d1_0) rfl rfl k) ?_
  show Go p.tables e below P (s₁.setTop (mkF m 1 #[.val (.ref a)] [(.ref a)]))
  obtain ⟨T_1, X_1, e_1, st_1⟩ := initO X0 hx hZ hown (hw _ (List.mem_of_getElem? (i := 19) rfl)) (hw _ (List.mem_of_getElem? (i := 20) rfl)) (hw _ (List.mem_of_getElem? (i := 21) rfl)) e0 (g := (mkF m 1 #[.val (.ref a)] [(.ref a)])) rfl (by rw [hml]; rfl) rfl (hb hby d1_1) (by decide) (W := 0) (by show 2 * 0 + _ ≤ _; exact Nat.le_of_eq rfl) (by decide)
  refine Go.step (fun t k => st_1 t k) ?_
  show Go p.tables e below P (T_1.setTop (mkF m 4 #[.val (.ref a)] []))
  exact voidGo X_1 hx hP Bd.returns hlk (hb hby d1_4) (by decide) (by decide) (by rw [e_1]; exact ⟨rfl, N0, rfl⟩)
theorem d4_0 : decode prog_16_method_1_code 0 = .ok (.aload_n 0, 1) := by decide +kernel
theorem d4_1 : decode prog_16_method_1_code 1 = .ok (.invokespecial 1, 3) := by decide +kernel
theorem d4_4 : decode prog_16_method_1_code 4 = .ok (.aload_n 0, 1) := by decide +kernel
theorem d4_5 : decode prog_16_method_1_code 5 = .ok (.aload_n 1, 1) := by decide +kernel
theorem d4_6 : decode prog_16_method_1_code 6 = .ok (.putfield 7, 3) := by decide +kernel
theorem d4_9 : decode prog_16_method_1_code 9 = .ok (.aload_n 0, 1) := by decide +kernel
theorem d4_10 : decode prog_16_method_1_code 10 = .ok (.dload_n 2, 1) := by decide +kernel
theorem d4_11 : decode prog_16_method_1_code 11 = .ok (.putfield 13, 3) := by decide +kernel
theorem d4_14 : decode prog_16_method_1_code 14 = .ok (.aload_n 0, 1) := by decide +kernel
theorem d4_15 : decode prog_16_method_1_code 15 = .ok (.dload 4, 2) := by decide +kernel
theorem d4_17 : decode prog_16_method_1_code 17 = .ok (.putfield 17, 3) := by decide +kernel
theorem d4_20 : decode prog_16_method_1_code 20 = .ok (.return_, 1) := by decide +kernel
theorem pn_4 : plainName "com/example/orabona/orabona/model/FuzzySet$RightShoulder" = true := by first | (simp [plainName, overriddenIn]; done) | decide +kernel
theorem ef_4 (m : MethodId) (x0 : Addr) (x1 : Addr) (x2 : UInt64) (x3 : UInt64) : entryFrame m #[(.ref x0), (.ref x1), (.double x2), (.double x3)] 6 = mkF m 0 #[.val (.ref x0), .val (.ref x1), .val (.double x2), .second, .val (.double x3), .second] [] := by first | (simp [entryFrame, mkF, argsToLocals, Value.category]; done) | rfl
def Q4 (Z : State) (a : Addr) (nm1 : Addr) (ba : UInt64) (bb : UInt64) (h0 : Heap) (n0 : Nat) (v : Option Value) (h : Heap) (L : List Loc) : Prop := v = none ∧ Fr n0 L ∧ Keep h0 h [a] ∧ Exa Z h a "com/example/orabona/orabona/model/FuzzySet$RightShoulder" ∧ Fld Z h a "com/example/orabona/orabona/model/FuzzySet$RightShoulder" "name" "Ljava/lang/String;" (.ref nm1) ∧ Fld Z h a "com/example/orabona/orabona/model/FuzzySet$RightShoulder" "a" "D" (.double ba) ∧ Fld Z h a "com/example/orabona/orabona/model/FuzzySet$RightShoulder" "b" "D" (.double bb)
set_option maxRecDepth 65536 in
set_option maxHeartbeats 40000000 in
theorem rm4 (l : Launch) (Z : State) (a0 : Array Value) (hw : ∀ d ∈ tables_1, d.before a0 Z = true) (ws : List Jvm.Cond) (a : Addr) (nm1 : Addr) (ba : UInt64) (bb : UInt64) (h0 : Heap) (n0 : Nat) (Z0 : n0 ≤ h0.size) (E_a : Exa Z h0 a "com/example/orabona/orabona/model/FuzzySet$RightShoulder") (F0 : Fld Z h0 a "com/example/orabona/orabona/model/FuzzySet$RightShoulder" "name" "Ljava/lang/String;" .null) (F1 : Fld Z h0 a "com/example/orabona/orabona/model/FuzzySet$RightShoulder" "a" "D" (.double (0 : UInt64))) (F2 : Fld Z h0 a "com/example/orabona/orabona/model/FuzzySet$RightShoulder" "b" "D" (.double (0 : UInt64))) (g_a : n0 ≤ a) :
    MetFree l (⟨"com/example/orabona/orabona/model/FuzzySet$RightShoulder", "<init>", "(Ljava/lang/String;DD)V"⟩ : MethodName) (head1 (Jvm.Cond.code (⟨"com/example/orabona/orabona/model/FuzzySet$RightShoulder", "<init>", "(Ljava/lang/String;DD)V"⟩ : MethodName) prog_16_method_1_code 6 none :: ws) ({ frames := 2, cells := 0, slots := 0, locals := 24 } : Room)) (fun a_ U => a_ = #[(.ref a), (.ref nm1), (.double ba), (.double bb)] ∧ Z.Warmed39 U.vm ∧ U.heap = h0) (fun _ _ _ _ _ => True) (fun _ U o U' => ∃ v L, o = .returned v ∧ Q4 Z a nm1 ba bb h0 n0 v U'.heap L ∧ FrameEnd U o U' L (({ frames := 2, cells := 0, slots := 0, locals := 24 } : Room)).cells (({ frames := 2, cells := 0, slots := 0, locals := 24 } : Room)).slots) := by
  refine MetFree.of_bodySF (plainFor_of_name pn_4) hisR ?_
  intro p e s m args below meth c s₁ Bd hml0 hP0 hK
  obtain ⟨rfl, hZ, hh⟩ := hP0
  have hx := Bd.exec
  have hby := Bd.bytes
  have hml : c.maxLocals = 6 := hml0
  have hown : s.vm.findClass "com/example/orabona/orabona/model/FuzzySet$RightShoulder" = some m.cls := findClass_of_methodNamed Bd.named
  have hnm := (name_of_methodNamed Bd.named Bd.method).1
  have X0 : Stand p l e ({ frames := 2, cells := 0, slots := 0, locals := 24 } : Room) s m #[(.ref a), (.ref nm1), (.double ba), (.double bb)] below meth c s₁ [] 0 0 := Stand.of_body Bd
  have e0 : s₁.heap = h0 := by rw [← hh, Bd.state]; rfl
  have N0 := Fr.nil n0
  have hlk : meth.locks = false := BodyLoose.notSynchronized Bd
  refine Go.start (P₀ := fun s₂ o => ∃ v L, o = .returned v ∧ Q4 Z a nm1 ba bb h0 n0 v s₂.heap L ∧ FrameEnd s o s₂ L (({ frames := 2, cells := 0, slots := 0, locals := 24 } : Room)).cells (({ frames := 2, cells := 0, slots := 0, locals := 24 } : Room)).slots) (congrArg s₁.setTop (ef_4 m a nm1 ba bb)) ?_
  intro P hP
  show Go p.tables e below P (s₁.setTop (mkF m 0 #[.val (.ref a), .val (.ref nm1), .val (.double ba), .second, .val (.double bb), .second] []))
  refine Go.step (fun t k => XS.aloadN X0.here hx rfl (hb hby d4_0) rfl rfl k) ?_
  show Go p.tables e below P (s₁.setTop (mkF m 1 #[.val (.ref a), .val (.ref nm1), .val (.double ba), .second, .val (.double bb), .second] [(.ref a)]))
  obtain ⟨_, _, ⟨T_1, L_1, k_1, n_1⟩, -, X_1, ⟨Lc_1, hQ_1, l_1, y_1, z_1⟩, st_1⟩ := X0.specialBack hx (y := (⟨"java/lang/Record", "<init>", "()V"⟩ : MethodName)) rfl hown (mvT hZ (hw _ (List.mem_of_getElem? (i := 14) rfl))) (mvT hZ (hw _ (List.mem_of_getElem? (i := 15) rfl))) (mvT hZ (hw _ (List.mem_of_getElem? (i := 18) rfl))) (by decide) (backOf (W := 0) (rm1 l Z a0 hw [] a h0 n0 Z0 ) hZ (hw _ (List.mem_of_getElem? (i := 18) rfl)) (hw _ (List.mem_of_getElem? (i := 17) rfl)) (by decide) (by decide)) (g := (mkF m 1 #[.val (.ref a), .val (.ref nm1), .val (.double ba), .second, .val (.double bb), .second] [(.ref a)])) rfl (by rw [hml]; rfl) (Steps.refl _) (a := a) (argsL := []) (rest := []) (lenOf pd_0 rfl) rfl (by show 2 * 0 + _ ≤ _; exact Nat.le_of_eq rfl) (hb hby d4_1) (fun _ _ => ⟨rfl, e0, (by decide : 0 + 0 ≤ _), (by decide : 0 + 0 ≤ _)⟩)
  dsimp only [Pt.U, Pt.locs, Pt.cells, Pt.slots] at X_1 l_1 y_1 z_1 st_1 hQ_1
  subst l_1 y_1 z_1
  obtain ⟨rfl, N_1q, eh_1⟩ := hQ_1
  have N_1 := Fr.app N0 N_1q
  refine Go.tr st_1 ?_
  show Go p.tables e below P (T_1.setTop (mkF m 4 #[.val (.ref a), .val (.ref nm1), .val (.double ba), .second, .val (.double bb), .second] []))
  refine Go.step (fun t k => XS.aloadN X_1.here hx rfl (hb hby d4_4) rfl rfl k) ?_
  show Go p.tables e below P (T_1.setTop (mkF m 5 #[.val (.ref a), .val (.ref nm1), .val (.double ba), .second, .val (.double bb), .second] [(.ref a)]))
  refine Go.step (fun t k => XS.aloadN X_1.here hx rfl (hb hby d4_5) rfl rfl k) ?_
  show Go p.tables e below P (T_1.setTop (mkF m 6 #[.val (.ref a), .val (.ref nm1), .val (.double ba), .second, .val (.double bb), .second] [(.ref nm1), (.ref a)]))
  obtain ⟨T_2, h_2, X_2, e_2, W_2, st_2⟩ := putF X_1 hx hZ hown (host := "") (Or.inl (hw _ (List.mem_of_getElem? (i := 22) rfl))) Via.refl eh_1 F0 E_a (Or.inr ⟨(hw _ (List.mem_of_getElem? (i := 23) rfl)), rfl, hnm⟩) (hw _ (List.mem_of_getElem? (i := 1) rfl)) (ty := (.object "java/lang/String")) (by decide) rfl rfl (g := (mkF m 6 #[.val (.ref a), .val (.ref nm1), .val (.double ba), .second, .val (.double bb), .second] [(.ref nm1), (.ref a)])) rfl rfl (hb hby d4_6)
  have Fw_2 := F0.same W_2
  have N_2 := Fr.snoc X_2 N_1 g_a
  have K_2 : Keep h0 h_2 [a] := (Keep.refl h0 [a]).wr W_2 (Or.inl (List.mem_of_getElem? (i := 0) rfl))
  have Z_2 : n0 ≤ h_2.size := Nat.le_trans Z0 (Keep.of_wr W_2).1
  refine Go.step (fun t k => st_2 t k) ?_
  show Go p.tables e below P (T_2.setTop (mkF m 9 #[.val (.ref a), .val (.ref nm1), .val (.double ba), .second, .val (.double bb), .second] []))
  refine Go.step (fun t k => XS.aloadN X_2.here hx rfl (hb hby d4_9) rfl rfl k) ?_
  show Go p.tables e below P (T_2.setTop (mkF m 10 #[.val (.ref a), .val (.ref nm1), .val (.double ba), .second, .val (.double bb), .second] [(.ref a)]))
  refine Go.step (fun t k => XS.dloadN X_2.here hx rfl (hb hby d4_10) rfl  k) ?_
  show Go p.tables e below P (T_2.setTop (mkF m 11 #[.val (.ref a), .val (.ref nm1), .val (.double ba), .second, .val (.double bb), .second] [(.double ba), (.ref a)]))
  obtain ⟨T_3, h_3, X_3, e_3, W_3, st_3⟩ := putF X_2 hx hZ hown (host := "") (Or.inl (hw _ (List.mem_of_getElem? (i := 24) rfl))) Via.refl e_2 (F1.other W_2 (Or.inr (slot_ne (Or.inr (hw _ (List.mem_of_getElem? (i := 25) rfl))) (Or.inr (hw _ (List.mem_of_getElem? (i := 23) rfl))) (by decide) (t := .double) (t' := (.object "java/lang/String")) (by decide) (by decide)))) (E_a.wr W_2) (Or.inr ⟨(hw _ (List.mem_of_getElem? (i := 25) rfl)), rfl, hnm⟩) (hw _ (List.mem_of_getElem? (i := 1) rfl)) (ty := .double) (by decide) rfl rfl (g := (mkF m 11 #[.val (.ref a), .val (.ref nm1), .val (.double ba), .second, .val (.double bb), .second] [(.double ba), (.ref a)])) rfl rfl (hb hby d4_11)
  have Fw_3 := (F1.other W_2 (Or.inr (slot_ne (Or.inr (hw _ (List.mem_of_getElem? (i := 25) rfl))) (Or.inr (hw _ (List.mem_of_getElem? (i := 23) rfl))) (by decide) (t := .double) (t' := (.object "java/lang/String")) (by decide) (by decide)))).same W_3
  have N_3 := Fr.snoc X_3 N_2 g_a
  have K_3 : Keep h0 h_3 [a] := K_2.wr W_3 (Or.inl (List.mem_of_getElem? (i := 0) rfl))
  have Z_3 : n0 ≤ h_3.size := Nat.le_trans Z_2 (Keep.of_wr W_3).1
  refine Go.step (fun t k => st_3 t k) ?_
  show Go p.tables e below P (T_3.setTop (mkF m 14 #[.val (.ref a), .val (.ref nm1), .val (.double ba), .second, .val (.double bb), .second] []))
  refine Go.step (fun t k => XS.aloadN X_3.here hx rfl (hb hby d4_14) rfl rfl k) ?_
  show Go p.tables e below P (T_3.setTop (mkF m 15 #[.val (.ref a), .val (.ref nm1), .val (.double ba), .second, .val (.double bb), .second] [(.ref a)]))
  refine Go.step (fun t k => XS.dload X_3.here hx rfl (hb hby d4_15) rfl  k) ?_
  show Go p.tables e below P (T_3.setTop (mkF m 17 #[.val (.ref a), .val (.ref nm1), .val (.double ba), .second, .val (.double bb), .second] [(.double bb), (.ref a)]))
  obtain ⟨T_4, h_4, X_4, e_4, W_4, st_4⟩ := putF X_3 hx hZ hown (host := "") (Or.inl (hw _ (List.mem_of_getElem? (i := 26) rfl))) Via.refl e_3 ((F2.other W_2 (Or.inr (slot_ne (Or.inr (hw _ (List.mem_of_getElem? (i := 27) rfl))) (Or.inr (hw _ (List.mem_of_getElem? (i := 23) rfl))) (by decide) (t := .double) (t' := (.object "java/lang/String")) (by decide) (by decide)))).other W_3 (Or.inr (slot_ne (Or.inr (hw _ (List.mem_of_getElem? (i := 27) rfl))) (Or.inr (hw _ (List.mem_of_getElem? (i := 25) rfl))) (by decide) (t := .double) (t' := .double) (by decide) (by decide)))) ((E_a.wr W_2).wr W_3) (Or.inr ⟨(hw _ (List.mem_of_getElem? (i := 27) rfl)), rfl, hnm⟩) (hw _ (List.mem_of_getElem? (i := 1) rfl)) (ty := .double) (by decide) rfl rfl (g := (mkF m 17 #[.val (.ref a), .val (.ref nm1), .val (.double ba), .second, .val (.double bb), .second] [(.double bb), (.ref a)])) rfl rfl (hb hby d4_17)
  have Fw_4 := ((F2.other W_2 (Or.inr (slot_ne (Or.inr (hw _ (List.mem_of_getElem? (i := 27) rfl))) (Or.inr (hw _ (List.mem_of_getElem? (i := 23) rfl))) (by decide) (t := .double) (t' := (.object "java/lang/String")) (by decide) (by decide)))).other W_3 (Or.inr (slot_ne (Or.inr (hw _ (List.mem_of_getElem? (i := 27) rfl))) (Or.inr (hw _ (List.mem_of_getElem? (i := 25) rfl))) (by decide) (t := .double) (t' := .double) (by decide) (by decide)))).same W_4
  have N_4 := Fr.snoc X_4 N_3 g_a
  have K_4 : Keep h0 h_4 [a] := K_3.wr W_4 (Or.inl (List.mem_of_getElem? (i := 0) rfl))
  have Z_4 : n0 ≤ h_4.size := Nat.le_trans Z_3 (Keep.of_wr W_4).1
  refine Go.step (fun t k => st_4 t k) ?_
  show Go p.tables e below P (T_4.setTop (mkF m 20 #[.val (.ref a), .val (.ref nm1), .val (.double ba), .second, .val (.double bb), .second] []))
  exact voidGo X_4 hx hP Bd.returns hlk (hb hby d4_20) (by decide) (by decide) (by rw [e_4]; exact ⟨rfl, N_4, K_4, (((E_a.wr W_2).wr W_3).wr W_4), ((Fw_2.other W_3 (Or.inr (slot_ne (Or.inr (hw _ (List.mem_of_getElem? (i := 23) rfl))) (Or.inr (hw _ (List.mem_of_getElem? (i := 25) rfl))) (by decide) (t := (.object "java/lang/String")) (t' := .double) (by decide) (by decide)))).other W_4 (Or.inr (slot_ne (Or.inr (hw _ (List.mem_of_getElem? (i := 23) rfl))) (Or.inr (hw _ (List.mem_of_getElem? (i := 27) rfl))) (by decide) (t := (.object "java/lang/String")) (t' := .double) (by decide) (by decide)))), (Fw_3.other W_4 (Or.inr (slot_ne (Or.inr (hw _ (List.mem_of_getElem? (i := 25) rfl))) (Or.inr (hw _ (List.mem_of_getElem? (i := 27) rfl))) (by decide) (t := .double) (t' := .double) (by decide) (by decide)))), Fw_4⟩)
theorem d5_0 : decode prog_16_method_2_code 0 = .ok (.dload_n 1, 1) := by decide +kernel
theorem d5_1 : decode prog_16_method_2_code 1 = .ok (.aload_n 0, 1) := by decide +kernel
theorem d5_2 : decode prog_16_method_2_code 2 = .ok (.getfield 13, 3) := by decide +kernel
theorem d5_5 : decode prog_16_method_2_code 5 = .ok (.dcmp .g, 1) := by decide +kernel
theorem d5_6 : decode prog_16_method_2_code 6 = .ok (.ifCond .gt 5, 3) := by decide +kernel
theorem d5_9 : decode prog_16_method_2_code 9 = .ok (.dconst 0, 1) := by decide +kernel
theorem d5_10 : decode prog_16_method_2_code 10 = .ok (.dreturn, 1) := by decide +kernel
theorem d5_11 : decode prog_16_method_2_code 11 = .ok (.dload_n 1, 1) := by decide +kernel
theorem d5_12 : decode prog_16_method_2_code 12 = .ok (.aload_n 0, 1) := by decide +kernel
theorem d5_13 : decode prog_16_method_2_code 13 = .ok (.getfield 17, 3) := by decide +kernel
theorem d5_16 : decode prog_16_method_2_code 16 = .ok (.dcmp .l, 1) := by decide +kernel
theorem d5_17 : decode prog_16_method_2_code 17 = .ok (.ifCond .lt 7, 3) := by decide +kernel
theorem d5_20 : decode prog_16_method_2_code 20 = .ok (.dconst 1, 1) := by decide +kernel
theorem d5_21 : decode prog_16_method_2_code 21 = .ok (.goto 19, 3) := by decide +kernel
theorem d5_24 : decode prog_16_method_2_code 24 = .ok (.dload_n 1, 1) := by decide +kernel
theorem d5_25 : decode prog_16_method_2_code 25 = .ok (.aload_n 0, 1) := by decide +kernel
theorem d5_26 : decode prog_16_method_2_code 26 = .ok (.getfield 13, 3) := by decide +kernel
theorem d5_29 : decode prog_16_method_2_code 29 = .ok (.dsub, 1) := by decide +kernel
theorem d5_30 : decode prog_16_method_2_code 30 = .ok (.aload_n 0, 1) := by decide +kernel
theorem d5_31 : decode prog_16_method_2_code 31 = .ok (.getfield 17, 3) := by decide +kernel
theorem d5_34 : decode prog_16_method_2_code 34 = .ok (.aload_n 0, 1) := by decide +kernel
theorem d5_35 : decode prog_16_method_2_code 35 = .ok (.getfield 13, 3) := by decide +kernel
theorem d5_38 : decode prog_16_method_2_code 38 = .ok (.dsub, 1) := by decide +kernel
theorem d5_39 : decode prog_16_method_2_code 39 = .ok (.ddiv, 1) := by decide +kernel
theorem d5_40 : decode prog_16_method_2_code 40 = .ok (.dreturn, 1) := by decide +kernel
theorem pn_5 : plainName "com/example/orabona/orabona/model/FuzzySet$RightShoulder" = true := by first | (simp [plainName, overriddenIn]; done) | decide +kernel
theorem ef_5 (m : MethodId) (x0 : Addr) (x1 : UInt64) : entryFrame m #[(.ref x0), (.double x1)] 3 = mkF m 0 #[.val (.ref x0), .val (.double x1), .second] [] := by first | (simp [entryFrame, mkF, argsToLocals, Value.category]; done) | rfl
def Q5 (Z : State) (a : Addr) (xd : UInt64) (da : UInt64) (db : UInt64) (ia : Int) (ib : Int) (ix : Int) (h0 : Heap) (n0 : Nat) (v : Option Value) (h : Heap) (L : List Loc) : Prop := ∃ r : UInt64, v = some (.double r) ∧ ((ix ≤ ia ∧ r = FP.dconst0) ∨ (ia < ix ∧ ib ≤ ix ∧ r = FP.dconst1) ∨ (ia < ix ∧ ix < ib ∧ r = FP.ddiv (FP.dsub xd da) (FP.dsub db da))) ∧ Fr n0 L ∧ h = h0
set_option maxRecDepth 65536 in
set_option maxHeartbeats 40000000 in
theorem rm5 (l : Launch) (Z : State) (a0 : Array Value) (hw : ∀ d ∈ tables_1, d.before a0 Z = true) (ws : List Jvm.Cond) (a : Addr) (xd : UInt64) (da : UInt64) (db : UInt64) (ia : Int) (ib : Int) (ix : Int) (h0 : Heap) (n0 : Nat) (Z0 : n0 ≤ h0.size) (F0 : Fld Z h0 a "com/example/orabona/orabona/model/FuzzySet$RightShoulder" "a" "D" (.double da)) (F1 : Fld Z h0 a "com/example/orabona/orabona/model/FuzzySet$RightShoulder" "b" "D" (.double db)) (qia : DE 1073 ia da) (qib : DE 1073 ib db) (qix : DE 1073 ix xd) (bia : -17179869184 ≤ ia ∧ ia ≤ 17179869184) (bib : -17179869184 ≤ ib ∧ ib ≤ 17179869184) (bix : -17179869184 ≤ ix ∧ ix ≤ 17179869184) (bab : ib - ia ≤ 8589934592) :
    MetFree l (⟨"com/example/orabona/orabona/model/FuzzySet$RightShoulder", "degree", "(D)D"⟩ : MethodName) (head1 (Jvm.Cond.code (⟨"com/example/orabona/orabona/model/FuzzySet$RightShoulder", "degree", "(D)D"⟩ : MethodName) prog_16_method_2_code 3 (some .double) :: ws) ({ frames := 0, cells := 0, slots := 0, locals := 0 } : Room)) (fun a_ U => a_ = #[(.ref a), (.double xd)] ∧ Z.Warmed39 U.vm ∧ U.heap = h0) (fun _ _ _ _ _ => True) (fun _ U o U' => ∃ v L, o = .returned v ∧ Q5 Z a xd da db ia ib ix h0 n0 v U'.heap L ∧ FrameEnd U o U' L (({ frames := 0, cells := 0, slots := 0, locals := 0 } : Room)).cells (({ frames := 0, cells := 0, slots := 0, locals := 0 } : Room)).slots) := by
  refine MetFree.of_bodySF (plainFor_of_name pn_5) hisR ?_
  intro p e s m args below meth c s₁ Bd hml0 hP0 hK
  obtain ⟨rfl, hZ, hh⟩ := hP0
  have hx := Bd.exec
  have hby := Bd.bytes
  have hml : c.maxLocals = 3 := hml0
  have hown : s.vm.findClass "com/example/orabona/orabona/model/FuzzySet$RightShoulder" = some m.cls := findClass_of_methodNamed Bd.named
  have hnm := (name_of_methodNamed Bd.named Bd.method).1
  have X0 : Stand p l e ({ frames := 0, cells := 0, slots := 0, locals := 0 } : Room) s m #[(.ref a), (.double xd)] below meth c s₁ [] 0 0 := Stand.of_body Bd
  have e0 : s₁.heap = h0 := by rw [← hh, Bd.state]; rfl
  have N0 := Fr.nil n0
  have hlk : meth.locks = false := BodyLoose.notSynchronized Bd
  refine Go.start (P₀ := fun s₂ o => ∃ v L, o = .returned v ∧ Q5 Z a xd da db ia ib ix h0 n0 v s₂.heap L ∧ FrameEnd s o s₂ L (({ frames := 0, cells := 0, slots := 0, locals := 0 } : Room)).cells (({ frames := 0, cells := 0, slots := 0, locals := 0 } : Room)).slots) (congrArg s₁.setTop (ef_5 m a xd)) ?_
  intro P hP
  show Go p.tables e below P (s₁.setTop (mkF m 0 #[.val (.ref a), .val (.double xd), .second] []))
  refine Go.step (fun t k => XS.dloadN X0.here hx rfl (hb hby d5_0) rfl  k) ?_
  show Go p.tables e below P (s₁.setTop (mkF m 1 #[.val (.ref a), .val (.double xd), .second] [(.double xd)]))
  refine Go.step (fun t k => XS.aloadN X0.here hx rfl (hb hby d5_1) rfl rfl k) ?_
  show Go p.tables e below P (s₁.setTop (mkF m 2 #[.val (.ref a), .val (.double xd), .second] [(.ref a), (.double xd)]))
  obtain ⟨T_1, X_1, e_1, st_1⟩ := getF X0 hx hZ hown (host := "") (Or.inl (hw _ (List.mem_of_getElem? (i := 24) rfl))) Via.refl e0 F0 (g := (mkF m 2 #[.val (.ref a), .val (.double xd), .second] [(.ref a), (.double xd)])) rfl rfl (hb hby d5_2)
  refine Go.step (fun t k => st_1 t k) ?_
  show Go p.tables e below P (T_1.setTop (mkF m 5 #[.val (.ref a), .val (.double xd), .second] [(.double da), (.double xd)]))
  refine Go.step (fun t k => XS.dcmpS X_1.here hx rfl (hb hby d5_5) rfl rfl k) ?_
  show Go p.tables e below P (T_1.setTop (mkF m 6 #[.val (.ref a), .val (.double xd), .second] [(.int (cmpValue (FP.dcmp xd da) .g))]))
  by_cases hc6 : ia < ix
  · refine Go.step (fun t k => XS.ifYes X_1.here hx rfl (pc0 := 6) (pc' := 11) rfl (hb hby d5_6) rfl (dcY (cd := .gt) (DE.cmp qix qia) hc6) (by decide) (by decide) k) ?_
    show Go p.tables e below P (T_1.setTop (mkF m 11 #[.val (.ref a), .val (.double xd), .second] []))
    refine Go.step (fun t k => XS.dloadN X_1.here hx rfl (hb hby d5_11) rfl  k) ?_
    show Go p.tables e below P (T_1.setTop (mkF m 12 #[.val (.ref a), .val (.double xd), .second] [(.double xd)]))
    refine Go.step (fun t k => XS.aloadN X_1.here hx rfl (hb hby d5_12) rfl rfl k) ?_
    show Go p.tables e below P (T_1.setTop (mkF m 13 #[.val (.ref a), .val (.double xd), .second] [(.ref a), (.double xd)]))
    obtain ⟨T_2, X_2, e_2, st_2⟩ := getF X_1 hx hZ hown (host := "") (Or.inl (hw _ (List.mem_of_getElem? (i := 26) rfl))) Via.refl e_1 F1 (g := (mkF m 13 #[.val (.ref a), .val (.double xd), .second] [(.ref a), (.double xd)])) rfl rfl (hb hby d5_13)
    refine Go.step (fun t k => st_2 t k) ?_
    show Go p.tables e below P (T_2.setTop (mkF m 16 #[.val (.ref a), .val (.double xd), .second] [(.double db), (.double xd)]))
    refine Go.step (fun t k => XS.dcmpS X_2.here hx rfl (hb hby d5_16) rfl rfl k) ?_
    show Go p.tables e below P (T_2.setTop (mkF m 17 #[.val (.ref a), .val (.double xd), .second] [(.int (cmpValue (FP.dcmp xd db) .l))]))
    by_cases hc17 : ix < ib
    · refine Go.step (fun t k => XS.ifYes X_2.here hx rfl (pc0 := 17) (pc' := 24) rfl (hb hby d5_17) rfl (dcY (cd := .lt) (DE.cmp qix qib) hc17) (by decide) (by decide) k) ?_
      show Go p.tables e below P (T_2.setTop (mkF m 24 #[.val (.ref a), .val (.double xd), .second] []))
      refine Go.step (fun t k => XS.dloadN X_2.here hx rfl (hb hby d5_24) rfl  k) ?_
      show Go p.tables e below P (T_2.setTop (mkF m 25 #[.val (.ref a), .val (.double xd), .second] [(.double xd)]))
      refine Go.step (fun t k => XS.aloadN X_2.here hx rfl (hb hby d5_25) rfl rfl k) ?_
      show Go p.tables e below P (T_2.setTop (mkF m 26 #[.val (.ref a), .val (.double xd), .second] [(.ref a), (.double xd)]))
      obtain ⟨T_3, X_3, e_3, st_3⟩ := getF X_2 hx hZ hown (host := "") (Or.inl (hw _ (List.mem_of_getElem? (i := 24) rfl))) Via.refl e_2 F0 (g := (mkF m 26 #[.val (.ref a), .val (.double xd), .second] [(.ref a), (.double xd)])) rfl rfl (hb hby d5_26)
      refine Go.step (fun t k => st_3 t k) ?_
      show Go p.tables e below P (T_3.setTop (mkF m 29 #[.val (.ref a), .val (.double xd), .second] [(.double da), (.double xd)]))
      obtain ⟨d29, hd29⟩ : ∃ z : UInt64, FP.dsub xd da = z := ⟨_, rfl⟩
      have q29 := sub_e (k := 1073) qix qia rfl (by omega) (by decide)
      rw [hd29] at q29
      refine Go.step (fun t k => XS.dsubS X_3.here hx rfl (hb hby d5_29) rfl (hd29 ▸ q29.nn) hd29 k) ?_
      show Go p.tables e below P (T_3.setTop (mkF m 30 #[.val (.ref a), .val (.double xd), .second] [(.double d29)]))
      refine Go.step (fun t k => XS.aloadN X_3.here hx rfl (hb hby d5_30) rfl rfl k) ?_
      show Go p.tables e below P (T_3.setTop (mkF m 31 #[.val (.ref a), .val (.double xd), .second] [(.ref a), (.double d29)]))
      obtain ⟨T_4, X_4, e_4, st_4⟩ := getF X_3 hx hZ hown (host := "") (Or.inl (hw _ (List.mem_of_getElem? (i := 26) rfl))) Via.refl e_3 F1 (g := (mkF m 31 #[.val (.ref a), .val (.double xd), .second] [(.ref a), (.double d29)])) rfl rfl (hb hby d5_31)
      refine Go.step (fun t k => st_4 t k) ?_
      show Go p.tables e below P (T_4.setTop (mkF m 34 #[.val (.ref a), .val (.double xd), .second] [(.double db), (.double d29)]))
      refine Go.step (fun t k => XS.aloadN X_4.here hx rfl (hb hby d5_34) rfl rfl k) ?_
      show Go p.tables e below P (T_4.setTop (mkF m 35 #[.val (.ref a), .val (.double xd), .second] [(.ref a), (.double db), (.double d29)]))
      obtain ⟨T_5, X_5, e_5, st_5⟩ := getF X_4 hx hZ hown (host := "") (Or.inl (hw _ (List.mem_of_getElem? (i := 24) rfl))) Via.refl e_4 F0 (g := (mkF m 35 #[.val (.ref a), .val (.double xd), .second] [(.ref a), (.double db), (.double d29)])) rfl rfl (hb hby d5_35)
      refine Go.step (fun t k => st_5 t k) ?_
      show Go p.tables e below P (T_5.setTop (mkF m 38 #[.val (.ref a), .val (.double xd), .second] [(.double da), (.double db), (.double d29)]))
      obtain ⟨d38, hd38⟩ : ∃ z : UInt64, FP.dsub db da = z := ⟨_, rfl⟩
      have q38 := sub_e (k := 1073) qib qia rfl (by omega) (by decide)
      rw [hd38] at q38
      refine Go.step (fun t k => XS.dsubS X_5.here hx rfl (hb hby d5_38) rfl (hd38 ▸ q38.nn) hd38 k) ?_
      show Go p.tables e below P (T_5.setTop (mkF m 39 #[.val (.ref a), .val (.double xd), .second] [(.double d38), (.double d29)]))
      obtain ⟨qt, hqt⟩ : ∃ z : UInt64, FP.ddiv d29 d38 = z := ⟨_, rfl⟩
      refine Go.step (fun t k => XS.ddivS X_5.here hx rfl (hb hby d5_39) rfl (frac q29 q38 (by omega) (by omega) (by omega)).nn hqt k) ?_
      show Go p.tables e below P (T_5.setTop (mkF m 40 #[.val (.ref a), .val (.double xd), .second] [(.double qt)]))
      exact retGo X_5 hx hP Bd.returns hlk rfl (Or.inr (Or.inr (Or.inl ⟨rfl, rfl, _, rfl⟩))) (hb hby d5_40) (by decide) (by decide) (by rw [e_5]; exact ⟨qt, rfl, Or.inr (Or.inr ⟨by omega, by omega, by rw [hd29, hd38, hqt]⟩), N0, rfl⟩)
    · refine Go.step (fun t k => XS.ifNo X_2.here hx rfl (hb hby d5_17) rfl (dcN (cd := .lt) (DE.cmp qix qib) hc17) k) ?_
      show Go p.tables e below P (T_2.setTop (mkF m 20 #[.val (.ref a), .val (.double xd), .second] []))
      refine Go.step (fun t k => XS.dconst1 X_2.here hx rfl (hb hby d5_20) rfl k) ?_
      show Go p.tables e below P (T_2.setTop (mkF m 21 #[.val (.ref a), .val (.double xd), .second] [(.double FP.dconst1)]))
      refine Go.step (fun t k => XS.goto X_2.here hx rfl (pc0 := 21) (pc' := 40) rfl (hb hby d5_21) (by decide) (by decide) k) ?_
      show Go p.tables e below P (T_2.setTop (mkF m 40 #[.val (.ref a), .val (.double xd), .second] [(.double FP.dconst1)]))
      exact retGo X_2 hx hP Bd.returns hlk rfl (Or.inr (Or.inr (Or.inl ⟨rfl, rfl, _, rfl⟩))) (hb hby d5_40) (by decide) (by decide) (by rw [e_2]; exact ⟨FP.dconst1, rfl, Or.inr (Or.inl ⟨by omega, by omega, rfl⟩), N0, rfl⟩)
  · refine Go.step (fun t k => XS.ifNo X_1.here hx rfl (hb hby d5_6) rfl (dcN (cd := .gt) (DE.cmp qix qia) hc6) k) ?_
    show Go p.tables e below P (T_1.setTop (mkF m 9 #[.val (.ref a), .val (.double xd), .second] []))
    refine Go.step (fun t k => XS.dconst0 X_1.here hx rfl (hb hby d5_9) rfl k) ?_
    show Go p.tables e below P (T_1.setTop (mkF m 10 #[.val (.ref a), .val (.double xd), .second] [(.double FP.dconst0)]))
    exact retGo X_1 hx hP Bd.returns hlk rfl (Or.inr (Or.inr (Or.inl ⟨rfl, rfl, _, rfl⟩))) (hb hby d5_10) (by decide) (by decide) (by rw [e_1]; exact ⟨FP.dconst0, rfl, Or.inl ⟨by omega, rfl⟩, N0, rfl⟩)
theorem pn_0 : plainName "com/example/orabona/orabona/model/RightShoulderDegreePinLaw" = true := by first | (simp [plainName, overriddenIn]; done) | decide +kernel
theorem ef_0 (m : MethodId) (x0 : Int32) (x1 : Int32) (x2 : Int32) (x3 : Int32) : entryFrame m #[(.int x0), (.int x1), (.int x2), (.int x3)] maxLocals = mkF m 0 #[.val (.int x0), .val (.int x1), .val (.int x2), .val (.int x3), .unset, .unset, .unset, .unset, .unset, .unset, .unset, .unset, .unset, .unset, .unset, .unset, .unset, .unset, .unset, .unset, .unset, .unset, .unset, .unset, .unset, .unset, .unset, .unset, .unset] [] := by first | (simp [entryFrame, mkF, argsToLocals, Value.category, maxLocals]; done) | rfl
def Q0 (Z : State) (p1 : Int32) (p2 : Int32) (p3 : Int32) (p4 : Int32) (h0 : Heap) (n0 : Nat) (v : Option Value) (h : Heap) (L : List Loc) : Prop := v = some (.int 1) ∧ Fr n0 L
set_option maxRecDepth 65536 in
set_option maxHeartbeats 40000000 in
theorem rm0 (l : Launch) (Z : State) (a0 : Array Value) (hw : ∀ d ∈ tables_1, d.before a0 Z = true) (ws : List Jvm.Cond) (p1 : Int32) (p2 : Int32) (p3 : Int32) (p4 : Int32) (h0 : Heap) (n0 : Nat) (Z0 : n0 ≤ h0.size) :
    MetFree l x (head1 (Jvm.Cond.code x code maxLocals ret :: ws) room_1) (fun a_ U => a_ = #[(.int p1), (.int p2), (.int p3), (.int p4)] ∧ Z.Warmed39 U.vm ∧ U.heap = h0) (fun _ _ _ _ _ => True) (fun _ U o U' => ∃ v L, o = .returned v ∧ Q0 Z p1 p2 p3 p4 h0 n0 v U'.heap L ∧ ReturnedEndW U o U' L 16 1152) := by
  refine MetFree.of_bodySF (plainFor_of_name pn_0) hisR ?_
  intro p e s m args below meth c s₁ Bd hml0 hP0 hK
  obtain ⟨rfl, hZ, hh⟩ := hP0
  have hx := Bd.exec
  have hby := Bd.bytes
  have hml : c.maxLocals = 29 := hml0
  have hown : s.vm.findClass "com/example/orabona/orabona/model/RightShoulderDegreePinLaw" = some m.cls := findClass_of_methodNamed Bd.named
  have hnm := (name_of_methodNamed Bd.named Bd.method).1
  have X0 : Stand p l e room_1 s m #[(.int p1), (.int p2), (.int p3), (.int p4)] below meth c s₁ [] 0 0 := Stand.of_body Bd
  have e0 : s₁.heap = h0 := by rw [← hh, Bd.state]; rfl
  have N0 := Fr.nil n0
  have hlk : meth.locks = false := BodyLoose.notSynchronized Bd
  refine Go.start (P₀ := fun s₂ o => ∃ v L, o = .returned v ∧ Q0 Z p1 p2 p3 p4 h0 n0 v s₂.heap L ∧ ReturnedEndW s o s₂ L 16 1152) (congrArg s₁.setTop (ef_0 m p1 p2 p3 p4)) ?_
  intro P hP
  show Go p.tables e below P (s₁.setTop (mkF m 0 #[.val (.int p1), .val (.int p2), .val (.int p3), .val (.int p4), .unset, .unset, .unset, .unset, .unset, .unset, .unset, .unset, .unset, .unset, .unset, .unset, .unset, .unset, .unset, .unset, .unset, .unset, .unset, .unset, .unset, .unset, .unset, .unset, .unset] []))
  refine Go.step (fun t k => XS.iloadN X0.here hx rfl (hb hby at_0) rfl  k) ?_
  show Go p.tables e below P (s₁.setTop (mkF m 1 #[.val (.int p1), .val (.int p2), .val (.int p3), .val (.int p4), .unset, .unset, .unset, .unset, .unset, .unset, .unset, .unset, .unset, .unset, .unset, .unset, .unset, .unset, .unset, .unset, .unset, .unset, .unset, .unset, .unset, .unset, .unset, .unset, .unset] [(.int p1)]))
  obtain ⟨j1, hj1⟩ : ∃ z : Int64, p1.toInt64 = z := ⟨_, rfl⟩
  refine Go.step (fun t k => i2l_v X0.here hx rfl (hb hby at_1) rfl hj1 k) ?_
  show Go p.tables e below P (s₁.setTop (mkF m 2 #[.val (.int p1), .val (.int p2), .val (.int p3), .val (.int p4), .unset, .unset, .unset, .unset, .unset, .unset, .unset, .unset, .unset, .unset, .unset, .unset, .unset, .unset, .unset, .unset, .unset, .unset, .unset, .unset, .unset, .unset, .unset, .unset, .unset] [(.long j1)]))
  have f1 := c_i2l p1; rw [hj1] at f1
  have g1 := rng32 p1
  have g2 := rng32 p2
  have g3 := rng32 p3
  have e1 : (1 : Int64).toInt = 1 := rfl
  refine Go.step (fun t k => XS.lstore X0.here hx rfl (hb hby at_2) rfl (l' := #[.val (.int p1), .val (.int p2), .val (.int p3), .val (.int p4), .val (.long j1), .second, .unset, .unset, .unset, .unset, .unset, .unset, .unset, .unset, .unset, .unset, .unset, .unset, .unset, .unset, .unset, .unset, .unset, .unset, .unset, .unset, .unset, .unset, .unset]) rfl k) ?_
  show Go p.tables e below P (s₁.setTop (mkF m 4 #[.val (.int p1), .val (.int p2), .val (.int p3), .val (.int p4), .val (.long j1), .second, .unset, .unset, .unset, .unset, .unset, .unset, .unset, .unset, .unset, .unset, .unset, .unset, .unset, .unset, .unset, .unset, .unset, .unset, .unset, .unset, .unset, .unset, .unset] []))
  refine Go.step (fun t k => XS.iloadN X0.here hx rfl (hb hby at_4) rfl  k) ?_
  show Go p.tables e below P (s₁.setTop (mkF m 5 #[.val (.int p1), .val (.int p2), .val (.int p3), .val (.int p4), .val (.long j1), .second, .unset, .unset, .unset, .unset, .unset, .unset, .unset, .unset, .unset, .unset, .unset, .unset, .unset, .unset, .unset, .unset, .unset, .unset, .unset, .unset, .unset, .unset, .unset] [(.int p4)]))
  refine Go.step (fun t k => XS.iconst X0.here hx rfl (hb hby at_5) k) ?_
  show Go p.tables e below P (s₁.setTop (mkF m 6 #[.val (.int p1), .val (.int p2), .val (.int p3), .val (.int p4), .val (.long j1), .second, .unset, .unset, .unset, .unset, .unset, .unset, .unset, .unset, .unset, .unset, .unset, .unset, .unset, .unset, .unset, .unset, .unset, .unset, .unset, .unset, .unset, .unset, .unset] [(.int (1 : Int32)), (.int p4)]))
  obtain ⟨i6, hi6⟩ : ∃ z : Int32, p4 &&& (1 : Int32) = z := ⟨_, rfl⟩
  refine Go.step (fun t k => iand_v X0.here hx rfl (hb hby at_6) rfl  hi6 k) ?_
  show Go p.tables e below P (s₁.setTop (mkF m 7 #[.val (.int p1), .val (.int p2), .val (.int p3), .val (.int p4), .val (.long j1), .second, .unset, .unset, .unset, .unset, .unset, .unset, .unset, .unset, .unset, .unset, .unset, .unset, .unset, .unset, .unset, .unset, .unset, .unset, .unset, .unset, .unset, .unset, .unset] [(.int i6)]))
  have J15 : ∀ (pw : Int32), True → Go p.tables e below P (s₁.setTop (mkF m 15 #[.val (.int p1), .val (.int p2), .val (.int p3), .val (.int p4), .val (.long j1), .second, .unset, .unset, .unset, .unset, .unset, .unset, .unset, .unset, .unset, .unset, .unset, .unset, .unset, .unset, .unset, .unset, .unset, .unset, .unset, .unset, .unset, .unset, .unset] [(.int pw)])) := by
    intro pw _
    show Go p.tables e below P (s₁.setTop (mkF m 15 #[.val (.int p1), .val (.int p2), .val (.int p3), .val (.int p4), .val (.long j1), .second, .unset, .unset, .unset, .unset, .unset, .unset, .unset, .unset, .unset, .unset, .unset, .unset, .unset, .unset, .unset, .unset, .unset, .unset, .unset, .unset, .unset, .unset, .unset] [(.int pw)]))
    refine Go.step (fun t k => XS.istore X0.here hx rfl (hb hby at_15) rfl (l' := #[.val (.int p1), .val (.int p2), .val (.int p3), .val (.int p4), .val (.long j1), .second, .val (.int pw), .unset, .unset, .unset, .unset, .unset, .unset, .unset, .unset, .unset, .unset, .unset, .unset, .unset, .unset, .unset, .unset, .unset, .unset, .unset, .unset, .unset, .unset]) rfl k) ?_
    show Go p.tables e below P (s₁.setTop (mkF m 17 #[.val (.int p1), .val (.int p2), .val (.int p3), .val (.int p4), .val (.long j1), .second, .val (.int pw), .unset, .unset, .unset, .unset, .unset, .unset, .unset, .unset, .unset, .unset, .unset, .unset, .unset, .unset, .unset, .unset, .unset, .unset, .unset, .unset, .unset, .unset] []))
    refine Go.step (fun t k => XS.iloadN X0.here hx rfl (hb hby at_17) rfl  k) ?_
    show Go p.tables e below P (s₁.setTop (mkF m 18 #[.val (.int p1), .val (.int p2), .val (.int p3), .val (.int p4), .val (.long j1), .second, .val (.int pw), .unset, .unset, .unset, .unset, .unset, .unset, .unset, .unset, .unset, .unset, .unset, .unset, .unset, .unset, .unset, .unset, .unset, .unset, .unset, .unset, .unset, .unset] [(.int p4)]))
    refine Go.step (fun t k => XS.iconst X0.here hx rfl (hb hby at_18) k) ?_
    show Go p.tables e below P (s₁.setTop (mkF m 19 #[.val (.int p1), .val (.int p2), .val (.int p3), .val (.int p4), .val (.long j1), .second, .val (.int pw), .unset, .unset, .unset, .unset, .unset, .unset, .unset, .unset, .unset, .unset, .unset, .unset, .unset, .unset, .unset, .unset, .unset, .unset, .unset, .unset, .unset, .unset] [(.int (1 : Int32)), (.int p4)]))
    obtain ⟨i19, hi19⟩ : ∃ z : Int32, ((p4.toUInt32 >>> ((1 : Int32) &&& 31).toUInt32).toInt32) = z := ⟨_, rfl⟩
    refine Go.step (fun t k => iushr_v X0.here hx rfl (hb hby at_19) rfl  hi19 k) ?_
    show Go p.tables e below P (s₁.setTop (mkF m 20 #[.val (.int p1), .val (.int p2), .val (.int p3), .val (.int p4), .val (.long j1), .second, .val (.int pw), .unset, .unset, .unset, .unset, .unset, .unset, .unset, .unset, .unset, .unset, .unset, .unset, .unset, .unset, .unset, .unset, .unset, .unset, .unset, .unset, .unset, .unset] [(.int i19)]))
    refine Go.step (fun t k => XS.bipush X0.here hx rfl (hb hby at_20) k) ?_
    show Go p.tables e below P (s₁.setTop (mkF m 22 #[.val (.int p1), .val (.int p2), .val (.int p3), .val (.int p4), .val (.long j1), .second, .val (.int pw), .unset, .unset, .unset, .unset, .unset, .unset, .unset, .unset, .unset, .unset, .unset, .unset, .unset, .unset, .unset, .unset, .unset, .unset, .unset, .unset, .unset, .unset] [(.int (31 : Int32)), (.int i19)]))
    obtain ⟨i22, hi22⟩ : ∃ z : Int32, i19 &&& (31 : Int32) = z := ⟨_, rfl⟩
    refine Go.step (fun t k => iand_v X0.here hx rfl (hb hby at_22) rfl  hi22 k) ?_
    show Go p.tables e below P (s₁.setTop (mkF m 23 #[.val (.int p1), .val (.int p2), .val (.int p3), .val (.int p4), .val (.long j1), .second, .val (.int pw), .unset, .unset, .unset, .unset, .unset, .unset, .unset, .unset, .unset, .unset, .unset, .unset, .unset, .unset, .unset, .unset, .unset, .unset, .unset, .unset, .unset, .unset] [(.int i22)]))
    refine Go.step (fun t k => XS.istore X0.here hx rfl (hb hby at_23) rfl (l' := #[.val (.int p1), .val (.int p2), .val (.int p3), .val (.int p4), .val (.long j1), .second, .val (.int pw), .val (.int i22), .unset, .unset, .unset, .unset, .unset, .unset, .unset, .unset, .unset, .unset, .unset, .unset, .unset, .unset, .unset, .unset, .unset, .unset, .unset, .unset, .unset]) rfl k) ?_
    show Go p.tables e below P (s₁.setTop (mkF m 25 #[.val (.int p1), .val (.int p2), .val (.int p3), .val (.int p4), .val (.long j1), .second, .val (.int pw), .val (.int i22), .unset, .unset, .unset, .unset, .unset, .unset, .unset, .unset, .unset, .unset, .unset, .unset, .unset, .unset, .unset, .unset, .unset, .unset, .unset, .unset, .unset] []))
    have f19 := c_iushr p4 (1 : Int32) 1 rfl (by decide); rw [hi19] at f19
    have f22 := c_mask i19 (31 : Int32) 5 (by decide) rfl; rw [hi22] at f22
    have b22 : 0 ≤ i22.toInt ∧ i22.toInt ≤ 31 := by omega
    have J42 : ∀ (jb : Int64), ((-2147483648 ≤ jb.toInt ∧ jb.toInt ≤ 4294967295) ∧ jb.toInt - j1.toInt ≤ 4294967295 ∧ (¬ pw.toInt = 0 → ∃ cc : Nat, cc ≤ 31 ∧ jb.toInt - j1.toInt = ((2 ^ cc : Nat) : Int))) → Go p.tables e below P (s₁.setTop (mkF m 42 #[.val (.int p1), .val (.int p2), .val (.int p3), .val (.int p4), .val (.long j1), .second, .val (.int pw), .val (.int i22), .unset, .unset, .unset, .unset, .unset, .unset, .unset, .unset, .unset, .unset, .unset, .unset, .unset, .unset, .unset, .unset, .unset, .unset, .unset, .unset, .unset] [(.long jb)])) := by
      intro jb hb_
      show Go p.tables e below P (s₁.setTop (mkF m 42 #[.val (.int p1), .val (.int p2), .val (.int p3), .val (.int p4), .val (.long j1), .second, .val (.int pw), .val (.int i22), .unset, .unset, .unset, .unset, .unset, .unset, .unset, .unset, .unset, .unset, .unset, .unset, .unset, .unset, .unset, .unset, .unset, .unset, .unset, .unset, .unset] [(.long jb)]))
      obtain ⟨bjb, bab, hpw⟩ := hb_
      refine Go.step (fun t k => XS.lstore X0.here hx rfl (hb hby at_42) rfl (l' := #[.val (.int p1), .val (.int p2), .val (.int p3), .val (.int p4), .val (.long j1), .second, .val (.int pw), .val (.int i22), .val (.long jb), .second, .unset, .unset, .unset, .unset, .unset, .unset, .unset, .unset, .unset, .unset, .unset, .unset, .unset, .unset, .unset, .unset, .unset, .unset, .unset]) rfl k) ?_
      show Go p.tables e below P (s₁.setTop (mkF m 44 #[.val (.int p1), .val (.int p2), .val (.int p3), .val (.int p4), .val (.long j1), .second, .val (.int pw), .val (.int i22), .val (.long jb), .second, .unset, .unset, .unset, .unset, .unset, .unset, .unset, .unset, .unset, .unset, .unset, .unset, .unset, .unset, .unset, .unset, .unset, .unset, .unset] []))
      refine Go.step (fun t k => XS.iloadN X0.here hx rfl (hb hby at_44) rfl  k) ?_
      show Go p.tables e below P (s₁.setTop (mkF m 45 #[.val (.int p1), .val (.int p2), .val (.int p3), .val (.int p4), .val (.long j1), .second, .val (.int pw), .val (.int i22), .val (.long jb), .second, .unset, .unset, .unset, .unset, .unset, .unset, .unset, .unset, .unset, .unset, .unset, .unset, .unset, .unset, .unset, .unset, .unset, .unset, .unset] [(.int p4)]))
      refine Go.step (fun t k => XS.bipush X0.here hx rfl (hb hby at_45) k) ?_
      show Go p.tables e below P (s₁.setTop (mkF m 47 #[.val (.int p1), .val (.int p2), .val (.int p3), .val (.int p4), .val (.long j1), .second, .val (.int pw), .val (.int i22), .val (.long jb), .second, .unset, .unset, .unset, .unset, .unset, .unset, .unset, .unset, .unset, .unset, .unset, .unset, .unset, .unset, .unset, .unset, .unset, .unset, .unset] [(.int (64 : Int32)), (.int p4)]))
      obtain ⟨i47, hi47⟩ : ∃ z : Int32, p4 &&& (64 : Int32) = z := ⟨_, rfl⟩
      refine Go.step (fun t k => iand_v X0.here hx rfl (hb hby at_47) rfl  hi47 k) ?_
      show Go p.tables e below P (s₁.setTop (mkF m 48 #[.val (.int p1), .val (.int p2), .val (.int p3), .val (.int p4), .val (.long j1), .second, .val (.int pw), .val (.int i22), .val (.long jb), .second, .unset, .unset, .unset, .unset, .unset, .unset, .unset, .unset, .unset, .unset, .unset, .unset, .unset, .unset, .unset, .unset, .unset, .unset, .unset] [(.int i47)]))
      have J56 : ∀ (ie : Int32), True → Go p.tables e below P (s₁.setTop (mkF m 56 #[.val (.int p1), .val (.int p2), .val (.int p3), .val (.int p4), .val (.long j1), .second, .val (.int pw), .val (.int i22), .val (.long jb), .second, .unset, .unset, .unset, .unset, .unset, .unset, .unset, .unset, .unset, .unset, .unset, .unset, .unset, .unset, .unset, .unset, .unset, .unset, .unset] [(.int ie)])) := by
        intro ie _
        show Go p.tables e below P (s₁.setTop (mkF m 56 #[.val (.int p1), .val (.int p2), .val (.int p3), .val (.int p4), .val (.long j1), .second, .val (.int pw), .val (.int i22), .val (.long jb), .second, .unset, .unset, .unset, .unset, .unset, .unset, .unset, .unset, .unset, .unset, .unset, .unset, .unset, .unset, .unset, .unset, .unset, .unset, .unset] [(.int ie)]))
        refine Go.step (fun t k => XS.istore X0.here hx rfl (hb hby at_56) rfl (l' := #[.val (.int p1), .val (.int p2), .val (.int p3), .val (.int p4), .val (.long j1), .second, .val (.int pw), .val (.int i22), .val (.long jb), .second, .val (.int ie), .unset, .unset, .unset, .unset, .unset, .unset, .unset, .unset, .unset, .unset, .unset, .unset, .unset, .unset, .unset, .unset, .unset, .unset]) rfl k) ?_
        show Go p.tables e below P (s₁.setTop (mkF m 58 #[.val (.int p1), .val (.int p2), .val (.int p3), .val (.int p4), .val (.long j1), .second, .val (.int pw), .val (.int i22), .val (.long jb), .second, .val (.int ie), .unset, .unset, .unset, .unset, .unset, .unset, .unset, .unset, .unset, .unset, .unset, .unset, .unset, .unset, .unset, .unset, .unset, .unset] []))
        refine Go.step (fun t k => XS.iloadN X0.here hx rfl (hb hby at_58) rfl  k) ?_
        show Go p.tables e below P (s₁.setTop (mkF m 59 #[.val (.int p1), .val (.int p2), .val (.int p3), .val (.int p4), .val (.long j1), .second, .val (.int pw), .val (.int i22), .val (.long jb), .second, .val (.int ie), .unset, .unset, .unset, .unset, .unset, .unset, .unset, .unset, .unset, .unset, .unset, .unset, .unset, .unset, .unset, .unset, .unset, .unset] [(.int p4)]))
        refine Go.step (fun t k => XS.sipush X0.here hx rfl (hb hby at_59) k) ?_
        show Go p.tables e below P (s₁.setTop (mkF m 62 #[.val (.int p1), .val (.int p2), .val (.int p3), .val (.int p4), .val (.long j1), .second, .val (.int pw), .val (.int i22), .val (.long jb), .second, .val (.int ie), .unset, .unset, .unset, .unset, .unset, .unset, .unset, .unset, .unset, .unset, .unset, .unset, .unset, .unset, .unset, .unset, .unset, .unset] [(.int (128 : Int32)), (.int p4)]))
        obtain ⟨i62, hi62⟩ : ∃ z : Int32, p4 &&& (128 : Int32) = z := ⟨_, rfl⟩
        refine Go.step (fun t k => iand_v X0.here hx rfl (hb hby at_62) rfl  hi62 k) ?_
        show Go p.tables e below P (s₁.setTop (mkF m 63 #[.val (.int p1), .val (.int p2), .val (.int p3), .val (.int p4), .val (.long j1), .second, .val (.int pw), .val (.int i22), .val (.long jb), .second, .val (.int ie), .unset, .unset, .unset, .unset, .unset, .unset, .unset, .unset, .unset, .unset, .unset, .unset, .unset, .unset, .unset, .unset, .unset, .unset] [(.int i62)]))
        have J71 : ∀ (ih : Int32), True → Go p.tables e below P (s₁.setTop (mkF m 71 #[.val (.int p1), .val (.int p2), .val (.int p3), .val (.int p4), .val (.long j1), .second, .val (.int pw), .val (.int i22), .val (.long jb), .second, .val (.int ie), .unset, .unset, .unset, .unset, .unset, .unset, .unset, .unset, .unset, .unset, .unset, .unset, .unset, .unset, .unset, .unset, .unset, .unset] [(.int ih)])) := by
          intro ih _
          show Go p.tables e below P (s₁.setTop (mkF m 71 #[.val (.int p1), .val (.int p2), .val (.int p3), .val (.int p4), .val (.long j1), .second, .val (.int pw), .val (.int i22), .val (.long jb), .second, .val (.int ie), .unset, .unset, .unset, .unset, .unset, .unset, .unset, .unset, .unset, .unset, .unset, .unset, .unset, .unset, .unset, .unset, .unset, .unset] [(.int ih)]))
          refine Go.step (fun t k => XS.istore X0.here hx rfl (hb hby at_71) rfl (l' := #[.val (.int p1), .val (.int p2), .val (.int p3), .val (.int p4), .val (.long j1), .second, .val (.int pw), .val (.int i22), .val (.long jb), .second, .val (.int ie), .val (.int ih), .unset, .unset, .unset, .unset, .unset, .unset, .unset, .unset, .unset, .unset, .unset, .unset, .unset, .unset, .unset, .unset, .unset]) rfl k) ?_
          show Go p.tables e below P (s₁.setTop (mkF m 73 #[.val (.int p1), .val (.int p2), .val (.int p3), .val (.int p4), .val (.long j1), .second, .val (.int pw), .val (.int i22), .val (.long jb), .second, .val (.int ie), .val (.int ih), .unset, .unset, .unset, .unset, .unset, .unset, .unset, .unset, .unset, .unset, .unset, .unset, .unset, .unset, .unset, .unset, .unset] []))
          have J111 : ∀ (jx : Int64), (-2147483648 ≤ jx.toInt ∧ jx.toInt ≤ 4294967295) → Go p.tables e below P (s₁.setTop (mkF m 111 #[.val (.int p1), .val (.int p2), .val (.int p3), .val (.int p4), .val (.long j1), .second, .val (.int pw), .val (.int i22), .val (.long jb), .second, .val (.int ie), .val (.int ih), .val (.long jx), .second, .unset, .unset, .unset, .unset, .unset, .unset, .unset, .unset, .unset, .unset, .unset, .unset, .unset, .unset, .unset] [])) := by
            intro jx hx_
            show Go p.tables e below P (s₁.setTop (mkF m 111 #[.val (.int p1), .val (.int p2), .val (.int p3), .val (.int p4), .val (.long j1), .second, .val (.int pw), .val (.int i22), .val (.long jb), .second, .val (.int ie), .val (.int ih), .val (.long jx), .second, .unset, .unset, .unset, .unset, .unset, .unset, .unset, .unset, .unset, .unset, .unset, .unset, .unset, .unset, .unset] []))
            obtain bjx := hx_
            refine Go.step (fun t k => XS.lload X0.here hx rfl (hb hby at_111) rfl  k) ?_
            show Go p.tables e below P (s₁.setTop (mkF m 113 #[.val (.int p1), .val (.int p2), .val (.int p3), .val (.int p4), .val (.long j1), .second, .val (.int pw), .val (.int i22), .val (.long jb), .second, .val (.int ie), .val (.int ih), .val (.long jx), .second, .unset, .unset, .unset, .unset, .unset, .unset, .unset, .unset, .unset, .unset, .unset, .unset, .unset, .unset, .unset] [(.long j1)]))
            obtain ⟨d113, hd113⟩ : ∃ z : UInt64, FP.l2d j1 = z := ⟨_, rfl⟩
            refine Go.step (fun t k => XS.l2dS X0.here hx rfl (hb hby at_113) rfl hd113 k) ?_
            show Go p.tables e below P (s₁.setTop (mkF m 114 #[.val (.int p1), .val (.int p2), .val (.int p3), .val (.int p4), .val (.long j1), .second, .val (.int pw), .val (.int i22), .val (.long jb), .second, .val (.int ie), .val (.int ih), .val (.long jx), .second, .unset, .unset, .unset, .unset, .unset, .unset, .unset, .unset, .unset, .unset, .unset, .unset, .unset, .unset, .unset] [(.double d113)]))
            have qja := (l2d_e (x := j1) (by omega)).down (k' := 1073) (n := 1) rfl; rw [hd113, show ((2 ^ 1 : Nat) : Int) = 2 by decide] at qja
            refine Go.step (fun t k => XS.dstore X0.here hx rfl (hb hby at_114) rfl (l' := #[.val (.int p1), .val (.int p2), .val (.int p3), .val (.int p4), .val (.long j1), .second, .val (.int pw), .val (.int i22), .val (.long jb), .second, .val (.int ie), .val (.int ih), .val (.long jx), .second, .val (.double d113), .second, .unset, .unset, .unset, .unset, .unset, .unset, .unset, .unset, .unset, .unset, .unset, .unset, .unset]) rfl k) ?_
            show Go p.tables e below P (s₁.setTop (mkF m 116 #[.val (.int p1), .val (.int p2), .val (.int p3), .val (.int p4), .val (.long j1), .second, .val (.int pw), .val (.int i22), .val (.long jb), .second, .val (.int ie), .val (.int ih), .val (.long jx), .second, .val (.double d113), .second, .unset, .unset, .unset, .unset, .unset, .unset, .unset, .unset, .unset, .unset, .unset, .unset, .unset] []))
            refine Go.step (fun t k => XS.lload X0.here hx rfl (hb hby at_116) rfl  k) ?_
            show Go p.tables e below P (s₁.setTop (mkF m 118 #[.val (.int p1), .val (.int p2), .val (.int p3), .val (.int p4), .val (.long j1), .second, .val (.int pw), .val (.int i22), .val (.long jb), .second, .val (.int ie), .val (.int ih), .val (.long jx), .second, .val (.double d113), .second, .unset, .unset, .unset, .unset, .unset, .unset, .unset, .unset, .unset, .unset, .unset, .unset, .unset] [(.long jb)]))
            obtain ⟨d118, hd118⟩ : ∃ z : UInt64, FP.l2d jb = z := ⟨_, rfl⟩
            refine Go.step (fun t k => XS.l2dS X0.here hx rfl (hb hby at_118) rfl hd118 k) ?_
            show Go p.tables e below P (s₁.setTop (mkF m 119 #[.val (.int p1), .val (.int p2), .val (.int p3), .val (.int p4), .val (.long j1), .second, .val (.int pw), .val (.int i22), .val (.long jb), .second, .val (.int ie), .val (.int ih), .val (.long jx), .second, .val (.double d113), .second, .unset, .unset, .unset, .unset, .unset, .unset, .unset, .unset, .unset, .unset, .unset, .unset, .unset] [(.double d118)]))
            have qjb := (l2d_e (x := jb) (by omega)).down (k' := 1073) (n := 1) rfl; rw [hd118, show ((2 ^ 1 : Nat) : Int) = 2 by decide] at qjb
            refine Go.step (fun t k => XS.dstore X0.here hx rfl (hb hby at_119) rfl (l' := #[.val (.int p1), .val (.int p2), .val (.int p3), .val (.int p4), .val (.long j1), .second, .val (.int pw), .val (.int i22), .val (.long jb), .second, .val (.int ie), .val (.int ih), .val (.long jx), .second, .val (.double d113), .second, .val (.double d118), .second, .unset, .unset, .unset, .unset, .unset, .unset, .unset, .unset, .unset, .unset, .unset]) rfl k) ?_
            show Go p.tables e below P (s₁.setTop (mkF m 121 #[.val (.int p1), .val (.int p2), .val (.int p3), .val (.int p4), .val (.long j1), .second, .val (.int pw), .val (.int i22), .val (.long jb), .second, .val (.int ie), .val (.int ih), .val (.long jx), .second, .val (.double d113), .second, .val (.double d118), .second, .unset, .unset, .unset, .unset, .unset, .unset, .unset, .unset, .unset, .unset, .unset] []))
            refine Go.step (fun t k => XS.lload X0.here hx rfl (hb hby at_121) rfl  k) ?_
            show Go p.tables e below P (s₁.setTop (mkF m 123 #[.val (.int p1), .val (.int p2), .val (.int p3), .val (.int p4), .val (.long j1), .second, .val (.int pw), .val (.int i22), .val (.long jb), .second, .val (.int ie), .val (.int ih), .val (.long jx), .second, .val (.double d113), .second, .val (.double d118), .second, .unset, .unset, .unset, .unset, .unset, .unset, .unset, .unset, .unset, .unset, .unset] [(.long jx)]))
            obtain ⟨d123, hd123⟩ : ∃ z : UInt64, FP.l2d jx = z := ⟨_, rfl⟩
            refine Go.step (fun t k => XS.l2dS X0.here hx rfl (hb hby at_123) rfl hd123 k) ?_
            show Go p.tables e below P (s₁.setTop (mkF m 124 #[.val (.int p1), .val (.int p2), .val (.int p3), .val (.int p4), .val (.long j1), .second, .val (.int pw), .val (.int i22), .val (.long jb), .second, .val (.int ie), .val (.int ih), .val (.long jx), .second, .val (.double d113), .second, .val (.double d118), .second, .unset, .unset, .unset, .unset, .unset, .unset, .unset, .unset, .unset, .unset, .unset] [(.double d123)]))
            have qjx := (l2d_e (x := jx) (by omega)).down (k' := 1073) (n := 1) rfl; rw [hd123, show ((2 ^ 1 : Nat) : Int) = 2 by decide] at qjx
            refine Go.step (fun t k => XS.iload X0.here hx rfl (hb hby at_124) rfl  k) ?_
            show Go p.tables e below P (s₁.setTop (mkF m 126 #[.val (.int p1), .val (.int p2), .val (.int p3), .val (.int p4), .val (.long j1), .second, .val (.int pw), .val (.int i22), .val (.long jb), .second, .val (.int ie), .val (.int ih), .val (.long jx), .second, .val (.double d113), .second, .val (.double d118), .second, .unset, .unset, .unset, .unset, .unset, .unset, .unset, .unset, .unset, .unset, .unset] [(.int ih), (.double d123)]))
            have J136 : ∀ (hf : UInt64) (hh : Int), (DE 1073 hh hf ∧ (0 ≤ hh ∧ hh ≤ 1)) → Go p.tables e below P (s₁.setTop (mkF m 136 #[.val (.int p1), .val (.int p2), .val (.int p3), .val (.int p4), .val (.long j1), .second, .val (.int pw), .val (.int i22), .val (.long jb), .second, .val (.int ie), .val (.int ih), .val (.long jx), .second, .val (.double d113), .second, .val (.double d118), .second, .unset, .unset, .unset, .unset, .unset, .unset, .unset, .unset, .unset, .unset, .unset] [(.double hf), (.double d123)])) := by
              intro hf hh hk_
              show Go p.tables e below P (s₁.setTop (mkF m 136 #[.val (.int p1), .val (.int p2), .val (.int p3), .val (.int p4), .val (.long j1), .second, .val (.int pw), .val (.int i22), .val (.long jb), .second, .val (.int ie), .val (.int ih), .val (.long jx), .second, .val (.double d113), .second, .val (.double d118), .second, .unset, .unset, .unset, .unset, .unset, .unset, .unset, .unset, .unset, .unset, .unset] [(.double hf), (.double d123)]))
              obtain ⟨qh, bh⟩ := hk_
              obtain ⟨dx, hdx⟩ : ∃ z : UInt64, FP.dadd d123 hf = z := ⟨_, rfl⟩
              have qx := add_e (k := 1073) qjx qh rfl (by omega) (by decide)
              rw [hdx] at qx
              refine Go.step (fun t k => XS.daddS X0.here hx rfl (hb hby at_136) rfl (hdx ▸ qx.nn) hdx k) ?_
              show Go p.tables e below P (s₁.setTop (mkF m 137 #[.val (.int p1), .val (.int p2), .val (.int p3), .val (.int p4), .val (.long j1), .second, .val (.int pw), .val (.int i22), .val (.long jb), .second, .val (.int ie), .val (.int ih), .val (.long jx), .second, .val (.double d113), .second, .val (.double d118), .second, .unset, .unset, .unset, .unset, .unset, .unset, .unset, .unset, .unset, .unset, .unset] [(.double dx)]))
              refine Go.step (fun t k => XS.dstore X0.here hx rfl (hb hby at_137) rfl (l' := #[.val (.int p1), .val (.int p2), .val (.int p3), .val (.int p4), .val (.long j1), .second, .val (.int pw), .val (.int i22), .val (.long jb), .second, .val (.int ie), .val (.int ih), .val (.long jx), .second, .val (.double d113), .second, .val (.double d118), .second, .val (.double dx), .second, .unset, .unset, .unset, .unset, .unset, .unset, .unset, .unset, .unset]) rfl k) ?_
              show Go p.tables e below P (s₁.setTop (mkF m 139 #[.val (.int p1), .val (.int p2), .val (.int p3), .val (.int p4), .val (.long j1), .second, .val (.int pw), .val (.int i22), .val (.long jb), .second, .val (.int ie), .val (.int ih), .val (.long jx), .second, .val (.double d113), .second, .val (.double d118), .second, .val (.double dx), .second, .unset, .unset, .unset, .unset, .unset, .unset, .unset, .unset, .unset] []))
              obtain ⟨T_1, h_1, X_1, e_1, E_1, A_1, D_1, -, st_1⟩ := newO X0 hx hZ hown (hw _ (List.mem_of_getElem? (i := 0) rfl)) (hw _ (List.mem_of_getElem? (i := 1) rfl)) (hw _ (List.mem_of_getElem? (i := 2) rfl)) e0 (g := (mkF m 139 #[.val (.int p1), .val (.int p2), .val (.int p3), .val (.int p4), .val (.long j1), .second, .val (.int pw), .val (.int i22), .val (.long jb), .second, .val (.int ie), .val (.int ih), .val (.long jx), .second, .val (.double d113), .second, .val (.double d118), .second, .val (.double dx), .second, .unset, .unset, .unset, .unset, .unset, .unset, .unset, .unset, .unset] [])) rfl (hb hby at_139) (by decide) (by decide)
              obtain ⟨b_1, g_1⟩ : ∃ z, z = h0.size := ⟨_, rfl⟩
              rw [← g_1] at A_1 D_1 st_1
              have g_b_1 : n0 ≤ b_1 := Nat.le_trans Z0 (Nat.le_of_eq g_1.symm)
              have sz_b_1 : h0.size ≤ b_1 := Nat.le_trans (Keep.refl h0 []).1 (Nat.le_of_eq g_1.symm)
              have F_name_b_1 : Fld Z h_1 b_1 "com/example/orabona/orabona/model/FuzzySet$RightShoulder" "name" "Ljava/lang/String;" .null := D_1 (Or.inr (hw _ (List.mem_of_getElem? (i := 23) rfl))) (ty := (.object "java/lang/String")) (by decide)
              have F_a_b_1 : Fld Z h_1 b_1 "com/example/orabona/orabona/model/FuzzySet$RightShoulder" "a" "D" (.double (0 : UInt64)) := D_1 (Or.inr (hw _ (List.mem_of_getElem? (i := 25) rfl))) (ty := .double) (by decide)
              have F_b_b_1 : Fld Z h_1 b_1 "com/example/orabona/orabona/model/FuzzySet$RightShoulder" "b" "D" (.double (0 : UInt64)) := D_1 (Or.inr (hw _ (List.mem_of_getElem? (i := 27) rfl))) (ty := .double) (by decide)
              have K_1 : Keep h0 h_1 [] := (Keep.refl h0 []).ext E_1
              have Z_1 : n0 ≤ h_1.size := Nat.le_trans Z0 E_1.1
              refine Go.step (fun t k => st_1 t k) ?_
              show Go p.tables e below P (T_1.setTop (mkF m 142 #[.val (.int p1), .val (.int p2), .val (.int p3), .val (.int p4), .val (.long j1), .second, .val (.int pw), .val (.int i22), .val (.long jb), .second, .val (.int ie), .val (.int ih), .val (.long jx), .second, .val (.double d113), .second, .val (.double d118), .second, .val (.double dx), .second, .unset, .unset, .unset, .unset, .unset, .unset, .unset, .unset, .unset] [(.ref b_1)]))
              refine Go.step (fun t k => XS.dup X_1.here hx rfl (hb hby at_142) rfl rfl k) ?_
              show Go p.tables e below P (T_1.setTop (mkF m 143 #[.val (.int p1), .val (.int p2), .val (.int p3), .val (.int p4), .val (.long j1), .second, .val (.int pw), .val (.int i22), .val (.long jb), .second, .val (.int ie), .val (.int ih), .val (.long jx), .second, .val (.double d113), .second, .val (.double d118), .second, .val (.double dx), .second, .unset, .unset, .unset, .unset, .unset, .unset, .unset, .unset, .unset] [(.ref b_1), (.ref b_1)]))
              have wS_2 : ∀ d ∈ Bundle.stringAtoms, d.before a0 Z = true := by
                intro d hd
                simp only [Bundle.stringAtoms, List.mem_cons, List.not_mem_nil, or_false] at hd
                rcases hd with rfl | rfl | rfl | rfl | rfl | rfl | rfl
                · exact (hw _ (List.mem_of_getElem? (i := 4) rfl))
                · exact (hw _ (List.mem_of_getElem? (i := 5) rfl))
                · exact (hw _ (List.mem_of_getElem? (i := 6) rfl))
                · exact (hw _ (List.mem_of_getElem? (i := 7) rfl))
                · exact (hw _ (List.mem_of_getElem? (i := 8) rfl))
                · exact (hw _ (List.mem_of_getElem? (i := 9) rfl))
                · exact (hw _ (List.mem_of_getElem? (i := 10) rfl))
              obtain ⟨b_2, T_2, h_2, kk_2, X_2, e_2, E_2, hS, hk_2, hZ, hown, st_2⟩ := ldcS (s := s) (vm0 := s.vm) X_1 hx hZ hown (hw _ (List.mem_of_getElem? (i := 3) rfl)) wS_2 e_1 ((State.WarmedH.refl s).since _) K_1.1 (g := (mkF m 143 #[.val (.int p1), .val (.int p2), .val (.int p3), .val (.int p4), .val (.long j1), .second, .val (.int pw), .val (.int i22), .val (.long jb), .second, .val (.int ie), .val (.int ih), .val (.long jx), .second, .val (.double d113), .second, .val (.double d118), .second, .val (.double dx), .second, .unset, .unset, .unset, .unset, .unset, .unset, .unset, .unset, .unset] [(.ref b_1), (.ref b_1)])) rfl (hb hby at_143) (n := 4) (by decide) (by decide) (by decide) (by decide)
              have K_2 : Keep h0 h_2 [] := K_1.ext E_2
              have Z_2 : n0 ≤ h_2.size := Nat.le_trans Z_1 E_2.1
              refine Go.step (fun t k => st_2 t k) ?_
              show Go p.tables e below P (T_2.setTop (mkF m 145 #[.val (.int p1), .val (.int p2), .val (.int p3), .val (.int p4), .val (.long j1), .second, .val (.int pw), .val (.int i22), .val (.long jb), .second, .val (.int ie), .val (.int ih), .val (.long jx), .second, .val (.double d113), .second, .val (.double d118), .second, .val (.double dx), .second, .unset, .unset, .unset, .unset, .unset, .unset, .unset, .unset, .unset] [(.ref b_2), (.ref b_1), (.ref b_1)]))
              refine Go.step (fun t k => XS.dload X_2.here hx rfl (hb hby at_145) rfl  k) ?_
              show Go p.tables e below P (T_2.setTop (mkF m 147 #[.val (.int p1), .val (.int p2), .val (.int p3), .val (.int p4), .val (.long j1), .second, .val (.int pw), .val (.int i22), .val (.long jb), .second, .val (.int ie), .val (.int ih), .val (.long jx), .second, .val (.double d113), .second, .val (.double d118), .second, .val (.double dx), .second, .unset, .unset, .unset, .unset, .unset, .unset, .unset, .unset, .unset] [(.double d113), (.ref b_2), (.ref b_1), (.ref b_1)]))
              refine Go.step (fun t k => XS.dload X_2.here hx rfl (hb hby at_147) rfl  k) ?_
              show Go p.tables e below P (T_2.setTop (mkF m 149 #[.val (.int p1), .val (.int p2), .val (.int p3), .val (.int p4), .val (.long j1), .second, .val (.int pw), .val (.int i22), .val (.long jb), .second, .val (.int ie), .val (.int ih), .val (.long jx), .second, .val (.double d113), .second, .val (.double d118), .second, .val (.double dx), .second, .unset, .unset, .unset, .unset, .unset, .unset, .unset, .unset, .unset] [(.double d118), (.double d113), (.ref b_2), (.ref b_1), (.ref b_1)]))
              obtain ⟨_, _, ⟨T_3, L_3, k_3, n_3⟩, -, X_3, ⟨Lc_3, hQ_3, l_3, y_3, z_3⟩, st_3⟩ := X_2.specialBack hx (y := (⟨"com/example/orabona/orabona/model/FuzzySet$RightShoulder", "<init>", "(Ljava/lang/String;DD)V"⟩ : MethodName)) rfl hown (mvT hZ (hw _ (List.mem_of_getElem? (i := 11) rfl))) (mvT hZ (hw _ (List.mem_of_getElem? (i := 12) rfl))) (mvT hZ (hw _ (List.mem_of_getElem? (i := 13) rfl))) (by decide) (backOf (W := 1) (rm4 l Z a0 hw [] b_1 b_2 d113 d118 h_2 n0 Z_2 (A_1.ext E_2) (F_name_b_1.ext E_2) (F_a_b_1.ext E_2) (F_b_b_1.ext E_2) g_b_1 ) hZ (hw _ (List.mem_of_getElem? (i := 13) rfl)) (hw _ (List.mem_of_getElem? (i := 2) rfl)) (by decide) (by decide)) (g := (mkF m 149 #[.val (.int p1), .val (.int p2), .val (.int p3), .val (.int p4), .val (.long j1), .second, .val (.int pw), .val (.int i22), .val (.long jb), .second, .val (.int ie), .val (.int ih), .val (.long jx), .second, .val (.double d113), .second, .val (.double d118), .second, .val (.double dx), .second, .unset, .unset, .unset, .unset, .unset, .unset, .unset, .unset, .unset] [(.double d118), (.double d113), (.ref b_2), (.ref b_1), (.ref b_1)])) rfl (by rw [hml]; rfl) (Steps.refl _) (a := b_1) (argsL := [(.ref b_2), (.double d113), (.double d118)]) (rest := [(.ref b_1)]) (lenOf pd_1 rfl) rfl (by show 2 * 0 + _ ≤ _; exact Nat.le_of_eq rfl) (hb hby at_149) (fun _ _ => ⟨rfl, e_2, (by decide : 3 + 0 ≤ _), (by decide : 11 + 0 ≤ _)⟩)
              dsimp only [Pt.U, Pt.locs, Pt.cells, Pt.slots] at X_3 l_3 y_3 z_3 st_3 hQ_3
              subst l_3 y_3 z_3
              obtain ⟨rfl, N_3q, Kc_3, Ee_3, Ff_name__3, Ff_a__3, Ff_b__3⟩ := hQ_3
              have N_3 := Fr.app N0 N_3q
              have K_3 : Keep h0 T_3.heap [] := K_2.trans Kc_3 (allS (Or.inr sz_b_1) all0)
              have Z_3 : n0 ≤ T_3.heap.size := Nat.le_trans Z_2 Kc_3.1
              refine Go.tr st_3 ?_
              show Go p.tables e below P (T_3.setTop (mkF m 152 #[.val (.int p1), .val (.int p2), .val (.int p3), .val (.int p4), .val (.long j1), .second, .val (.int pw), .val (.int i22), .val (.long jb), .second, .val (.int ie), .val (.int ih), .val (.long jx), .second, .val (.double d113), .second, .val (.double d118), .second, .val (.double dx), .second, .unset, .unset, .unset, .unset, .unset, .unset, .unset, .unset, .unset] [(.ref b_1)]))
              obtain ⟨xx, hxx⟩ : ∃ z, jx.toInt * 2 + hh = z := ⟨_, rfl⟩
              rw [hxx] at qx
              refine Go.step (fun t k => XS.astore X_3.here hx rfl (hb hby at_152) rfl rfl (l' := #[.val (.int p1), .val (.int p2), .val (.int p3), .val (.int p4), .val (.long j1), .second, .val (.int pw), .val (.int i22), .val (.long jb), .second, .val (.int ie), .val (.int ih), .val (.long jx), .second, .val (.double d113), .second, .val (.double d118), .second, .val (.double dx), .second, .val (.ref b_1), .unset, .unset, .unset, .unset, .unset, .unset, .unset, .unset]) rfl k) ?_
              show Go p.tables e below P (T_3.setTop (mkF m 154 #[.val (.int p1), .val (.int p2), .val (.int p3), .val (.int p4), .val (.long j1), .second, .val (.int pw), .val (.int i22), .val (.long jb), .second, .val (.int ie), .val (.int ih), .val (.long jx), .second, .val (.double d113), .second, .val (.double d118), .second, .val (.double dx), .second, .val (.ref b_1), .unset, .unset, .unset, .unset, .unset, .unset, .unset, .unset] []))
              refine Go.step (fun t k => XS.aload X_3.here hx rfl (hb hby at_154) rfl rfl k) ?_
              show Go p.tables e below P (T_3.setTop (mkF m 156 #[.val (.int p1), .val (.int p2), .val (.int p3), .val (.int p4), .val (.long j1), .second, .val (.int pw), .val (.int i22), .val (.long jb), .second, .val (.int ie), .val (.int ih), .val (.long jx), .second, .val (.double d113), .second, .val (.double d118), .second, .val (.double dx), .second, .val (.ref b_1), .unset, .unset, .unset, .unset, .unset, .unset, .unset, .unset] [(.ref b_1)]))
              refine Go.step (fun t k => XS.dload X_3.here hx rfl (hb hby at_156) rfl  k) ?_
              show Go p.tables e below P (T_3.setTop (mkF m 158 #[.val (.int p1), .val (.int p2), .val (.int p3), .val (.int p4), .val (.long j1), .second, .val (.int pw), .val (.int i22), .val (.long jb), .second, .val (.int ie), .val (.int ih), .val (.long jx), .second, .val (.double d113), .second, .val (.double d118), .second, .val (.double dx), .second, .val (.ref b_1), .unset, .unset, .unset, .unset, .unset, .unset, .unset, .unset] [(.double dx), (.ref b_1)]))
              obtain ⟨cq_4, kq_4, q_4a, q_4b, q_4c⟩ := isOf hZ rfl ((A_1.ext E_2).keep Kc_3)
              obtain ⟨_, _, ⟨T_4, L_4, k_4, n_4⟩, -, X_4, ⟨Lc_4, hQ_4, l_4, y_4, z_4⟩, st_4⟩ := X_3.virtualBack hx (y := (⟨"com/example/orabona/orabona/model/FuzzySet$RightShoulder", "degree", "(D)D"⟩ : MethodName)) (z := (⟨"com/example/orabona/orabona/model/FuzzySet$RightShoulder", "degree", "(D)D"⟩ : MethodName)) hown (mvT hZ (hw _ (List.mem_of_getElem? (i := 28) rfl))) (mvT hZ (hw _ (List.mem_of_getElem? (i := 29) rfl))) (notFace_of_selects (args := #[]) (mvT hZ (hw _ (List.mem_of_getElem? (i := 31) rfl)))) (mvT hZ (hw _ (List.mem_of_getElem? (i := 31) rfl))) (mvT hZ (hw _ (List.mem_of_getElem? (i := 30) rfl))) (by decide) (backOf (W := 0) (rm5 l Z a0 hw [] b_1 dx d113 d118 (j1.toInt * 2) (jb.toInt * 2) xx T_3.heap n0 Z_3 Ff_a__3 Ff_b__3 qja qjb qx (by omega) (by omega) (by omega) (by omega)) hZ (hw _ (List.mem_of_getElem? (i := 32) rfl)) (hw _ (List.mem_of_getElem? (i := 2) rfl)) (by decide) (by decide)) q_4a q_4c (g := (mkF m 158 #[.val (.int p1), .val (.int p2), .val (.int p3), .val (.int p4), .val (.long j1), .second, .val (.int pw), .val (.int i22), .val (.long jb), .second, .val (.int ie), .val (.int ih), .val (.long jx), .second, .val (.double d113), .second, .val (.double d118), .second, .val (.double dx), .second, .val (.ref b_1), .unset, .unset, .unset, .unset, .unset, .unset, .unset, .unset] [(.double dx), (.ref b_1)])) rfl (by rw [hml]; rfl) (Steps.refl _) (argsL := [(.double dx)]) (rest := []) (lenOf pd_2 rfl) rfl (by show 2 * 0 + _ ≤ _; exact Nat.le_of_eq rfl) (hb hby at_158) (fun _ _ => ⟨rfl, rfl, (by decide : 3 + 0 ≤ _), (by decide : 11 + 0 ≤ _)⟩)
              dsimp only [Pt.U, Pt.locs, Pt.cells, Pt.slots] at X_4 l_4 y_4 z_4 st_4 hQ_4
              subst l_4 y_4 z_4
              obtain ⟨dg, rfl, hdg, N_4q, eh_4⟩ := hQ_4
              have N_4 := Fr.app N_3 N_4q
              refine Go.tr st_4 ?_
              show Go p.tables e below P (T_4.setTop (mkF m 161 #[.val (.int p1), .val (.int p2), .val (.int p3), .val (.int p4), .val (.long j1), .second, .val (.int pw), .val (.int i22), .val (.long jb), .second, .val (.int ie), .val (.int ih), .val (.long jx), .second, .val (.double d113), .second, .val (.double d118), .second, .val (.double dx), .second, .val (.ref b_1), .unset, .unset, .unset, .unset, .unset, .unset, .unset, .unset] [(.double dg)]))
              refine Go.step (fun t k => XS.dstore X_4.here hx rfl (hb hby at_161) rfl (l' := #[.val (.int p1), .val (.int p2), .val (.int p3), .val (.int p4), .val (.long j1), .second, .val (.int pw), .val (.int i22), .val (.long jb), .second, .val (.int ie), .val (.int ih), .val (.long jx), .second, .val (.double d113), .second, .val (.double d118), .second, .val (.double dx), .second, .val (.ref b_1), .val (.double dg), .second, .unset, .unset, .unset, .unset, .unset, .unset]) rfl k) ?_
              show Go p.tables e below P (T_4.setTop (mkF m 163 #[.val (.int p1), .val (.int p2), .val (.int p3), .val (.int p4), .val (.long j1), .second, .val (.int pw), .val (.int i22), .val (.long jb), .second, .val (.int ie), .val (.int ih), .val (.long jx), .second, .val (.double d113), .second, .val (.double d118), .second, .val (.double dx), .second, .val (.ref b_1), .val (.double dg), .second, .unset, .unset, .unset, .unset, .unset, .unset] []))
              refine Go.step (fun t k => XS.dload X_4.here hx rfl (hb hby at_163) rfl  k) ?_
              show Go p.tables e below P (T_4.setTop (mkF m 165 #[.val (.int p1), .val (.int p2), .val (.int p3), .val (.int p4), .val (.long j1), .second, .val (.int pw), .val (.int i22), .val (.long jb), .second, .val (.int ie), .val (.int ih), .val (.long jx), .second, .val (.double d113), .second, .val (.double d118), .second, .val (.double dx), .second, .val (.ref b_1), .val (.double dg), .second, .unset, .unset, .unset, .unset, .unset, .unset] [(.double dx)]))
              refine Go.step (fun t k => XS.dload X_4.here hx rfl (hb hby at_165) rfl  k) ?_
              show Go p.tables e below P (T_4.setTop (mkF m 167 #[.val (.int p1), .val (.int p2), .val (.int p3), .val (.int p4), .val (.long j1), .second, .val (.int pw), .val (.int i22), .val (.long jb), .second, .val (.int ie), .val (.int ih), .val (.long jx), .second, .val (.double d113), .second, .val (.double d118), .second, .val (.double dx), .second, .val (.ref b_1), .val (.double dg), .second, .unset, .unset, .unset, .unset, .unset, .unset] [(.double d113), (.double dx)]))
              refine Go.step (fun t k => XS.dcmpS X_4.here hx rfl (hb hby at_167) rfl rfl k) ?_
              show Go p.tables e below P (T_4.setTop (mkF m 168 #[.val (.int p1), .val (.int p2), .val (.int p3), .val (.int p4), .val (.long j1), .second, .val (.int pw), .val (.int i22), .val (.long jb), .second, .val (.int ie), .val (.int ih), .val (.long jx), .second, .val (.double d113), .second, .val (.double d118), .second, .val (.double dx), .second, .val (.ref b_1), .val (.double dg), .second, .unset, .unset, .unset, .unset, .unset, .unset] [(.int (cmpValue (FP.dcmp dx d113) .g))]))
              by_cases hc168 : (j1.toInt * 2) < xx
              · refine Go.step (fun t k => XS.ifYes X_4.here hx rfl (pc0 := 168) (pc' := 184) rfl (hb hby at_168) rfl (dcY (cd := .gt) (DE.cmp qx qja) hc168) (by decide) (by decide) k) ?_
                show Go p.tables e below P (T_4.setTop (mkF m 184 #[.val (.int p1), .val (.int p2), .val (.int p3), .val (.int p4), .val (.long j1), .second, .val (.int pw), .val (.int i22), .val (.long jb), .second, .val (.int ie), .val (.int ih), .val (.long jx), .second, .val (.double d113), .second, .val (.double d118), .second, .val (.double dx), .second, .val (.ref b_1), .val (.double dg), .second, .unset, .unset, .unset, .unset, .unset, .unset] []))
                refine Go.step (fun t k => XS.dload X_4.here hx rfl (hb hby at_184) rfl  k) ?_
                show Go p.tables e below P (T_4.setTop (mkF m 186 #[.val (.int p1), .val (.int p2), .val (.int p3), .val (.int p4), .val (.long j1), .second, .val (.int pw), .val (.int i22), .val (.long jb), .second, .val (.int ie), .val (.int ih), .val (.long jx), .second, .val (.double d113), .second, .val (.double d118), .second, .val (.double dx), .second, .val (.ref b_1), .val (.double dg), .second, .unset, .unset, .unset, .unset, .unset, .unset] [(.double dx)]))
                refine Go.step (fun t k => XS.dload X_4.here hx rfl (hb hby at_186) rfl  k) ?_
                show Go p.tables e below P (T_4.setTop (mkF m 188 #[.val (.int p1), .val (.int p2), .val (.int p3), .val (.int p4), .val (.long j1), .second, .val (.int pw), .val (.int i22), .val (.long jb), .second, .val (.int ie), .val (.int ih), .val (.long jx), .second, .val (.double d113), .second, .val (.double d118), .second, .val (.double dx), .second, .val (.ref b_1), .val (.double dg), .second, .unset, .unset, .unset, .unset, .unset, .unset] [(.double d118), (.double dx)]))
                refine Go.step (fun t k => XS.dcmpS X_4.here hx rfl (hb hby at_188) rfl rfl k) ?_
                show Go p.tables e below P (T_4.setTop (mkF m 189 #[.val (.int p1), .val (.int p2), .val (.int p3), .val (.int p4), .val (.long j1), .second, .val (.int pw), .val (.int i22), .val (.long jb), .second, .val (.int ie), .val (.int ih), .val (.long jx), .second, .val (.double d113), .second, .val (.double d118), .second, .val (.double dx), .second, .val (.ref b_1), .val (.double dg), .second, .unset, .unset, .unset, .unset, .unset, .unset] [(.int (cmpValue (FP.dcmp dx d118) .l))]))
                by_cases hc189 : xx < (jb.toInt * 2)
                · refine Go.step (fun t k => XS.ifYes X_4.here hx rfl (pc0 := 189) (pc' := 205) rfl (hb hby at_189) rfl (dcY (cd := .lt) (DE.cmp qx qjb) hc189) (by decide) (by decide) k) ?_
                  show Go p.tables e below P (T_4.setTop (mkF m 205 #[.val (.int p1), .val (.int p2), .val (.int p3), .val (.int p4), .val (.long j1), .second, .val (.int pw), .val (.int i22), .val (.long jb), .second, .val (.int ie), .val (.int ih), .val (.long jx), .second, .val (.double d113), .second, .val (.double d118), .second, .val (.double dx), .second, .val (.ref b_1), .val (.double dg), .second, .unset, .unset, .unset, .unset, .unset, .unset] []))
                  have hq1 : dg = FP.ddiv (FP.dsub dx d113) (FP.dsub d118 d113) := by rcases hdg with ⟨h, _⟩ | ⟨_, h, _⟩ | ⟨_, _, h⟩; omega; omega; exact h
                  have Q1 := sub_e (k := 1073) qx qja rfl (by omega) (by decide)
                  have Q2 := sub_e (k := 1073) qjb qja rfl (by omega) (by decide)
                  have fr := frac Q1 Q2 (by omega) (by omega) (by omega)
                  rw [← hq1] at fr
                  refine Go.step (fun t k => XS.dconst0 X_4.here hx rfl (hb hby at_205) rfl k) ?_
                  show Go p.tables e below P (T_4.setTop (mkF m 206 #[.val (.int p1), .val (.int p2), .val (.int p3), .val (.int p4), .val (.long j1), .second, .val (.int pw), .val (.int i22), .val (.long jb), .second, .val (.int ie), .val (.int ih), .val (.long jx), .second, .val (.double d113), .second, .val (.double d118), .second, .val (.double dx), .second, .val (.ref b_1), .val (.double dg), .second, .unset, .unset, .unset, .unset, .unset, .unset] [(.double FP.dconst0)]))
                  refine Go.step (fun t k => XS.dload X_4.here hx rfl (hb hby at_206) rfl  k) ?_
                  show Go p.tables e below P (T_4.setTop (mkF m 208 #[.val (.int p1), .val (.int p2), .val (.int p3), .val (.int p4), .val (.long j1), .second, .val (.int pw), .val (.int i22), .val (.long jb), .second, .val (.int ie), .val (.int ih), .val (.long jx), .second, .val (.double d113), .second, .val (.double d118), .second, .val (.double dx), .second, .val (.ref b_1), .val (.double dg), .second, .unset, .unset, .unset, .unset, .unset, .unset] [(.double dg), (.double FP.dconst0)]))
                  refine Go.step (fun t k => XS.dcmpS X_4.here hx rfl (hb hby at_208) rfl rfl k) ?_
                  show Go p.tables e below P (T_4.setTop (mkF m 209 #[.val (.int p1), .val (.int p2), .val (.int p3), .val (.int p4), .val (.long j1), .second, .val (.int pw), .val (.int i22), .val (.long jb), .second, .val (.int ie), .val (.int ih), .val (.long jx), .second, .val (.double d113), .second, .val (.double d118), .second, .val (.double dx), .second, .val (.ref b_1), .val (.double dg), .second, .unset, .unset, .unset, .unset, .unset, .unset] [(.int (cmpValue (FP.dcmp FP.dconst0 dg) .g))]))
                  refine Go.step (fun t k => XS.ifNo X_4.here hx rfl (hb hby at_209) rfl (dcN (cd := .ge) (((zero_e 1040).lt fr (by decide)).trans (rfl : _ = some (compare (0 : Int) 1))) (by decide : ¬ ((1 : Int) ≤ (0 : Int)))) k) ?_
                  show Go p.tables e below P (T_4.setTop (mkF m 212 #[.val (.int p1), .val (.int p2), .val (.int p3), .val (.int p4), .val (.long j1), .second, .val (.int pw), .val (.int i22), .val (.long jb), .second, .val (.int ie), .val (.int ih), .val (.long jx), .second, .val (.double d113), .second, .val (.double d118), .second, .val (.double dx), .second, .val (.ref b_1), .val (.double dg), .second, .unset, .unset, .unset, .unset, .unset, .unset] []))
                  refine Go.step (fun t k => XS.dload X_4.here hx rfl (hb hby at_212) rfl  k) ?_
                  show Go p.tables e below P (T_4.setTop (mkF m 214 #[.val (.int p1), .val (.int p2), .val (.int p3), .val (.int p4), .val (.long j1), .second, .val (.int pw), .val (.int i22), .val (.long jb), .second, .val (.int ie), .val (.int ih), .val (.long jx), .second, .val (.double d113), .second, .val (.double d118), .second, .val (.double dx), .second, .val (.ref b_1), .val (.double dg), .second, .unset, .unset, .unset, .unset, .unset, .unset] [(.double dg)]))
                  refine Go.step (fun t k => XS.dconst1 X_4.here hx rfl (hb hby at_214) rfl k) ?_
                  show Go p.tables e below P (T_4.setTop (mkF m 215 #[.val (.int p1), .val (.int p2), .val (.int p3), .val (.int p4), .val (.long j1), .second, .val (.int pw), .val (.int i22), .val (.long jb), .second, .val (.int ie), .val (.int ih), .val (.long jx), .second, .val (.double d113), .second, .val (.double d118), .second, .val (.double dx), .second, .val (.ref b_1), .val (.double dg), .second, .unset, .unset, .unset, .unset, .unset, .unset] [(.double FP.dconst1), (.double dg)]))
                  refine Go.step (fun t k => XS.dcmpS X_4.here hx rfl (hb hby at_215) rfl rfl k) ?_
                  show Go p.tables e below P (T_4.setTop (mkF m 216 #[.val (.int p1), .val (.int p2), .val (.int p3), .val (.int p4), .val (.long j1), .second, .val (.int pw), .val (.int i22), .val (.long jb), .second, .val (.int ie), .val (.int ih), .val (.long jx), .second, .val (.double d113), .second, .val (.double d118), .second, .val (.double dx), .second, .val (.ref b_1), .val (.double dg), .second, .unset, .unset, .unset, .unset, .unset, .unset] [(.int (cmpValue (FP.dcmp dg FP.dconst1) .g))]))
                  refine Go.step (fun t k => XS.ifYes X_4.here hx rfl (pc0 := 216) (pc' := 221) rfl (hb hby at_216) rfl (dcY (cd := .lt) ((fr.lt one_1040 (by decide)).trans (rfl : _ = some (compare (0 : Int) 1))) (by decide : (0 : Int) < (1 : Int))) (by decide) (by decide) k) ?_
                  show Go p.tables e below P (T_4.setTop (mkF m 221 #[.val (.int p1), .val (.int p2), .val (.int p3), .val (.int p4), .val (.long j1), .second, .val (.int pw), .val (.int i22), .val (.long jb), .second, .val (.int ie), .val (.int ih), .val (.long jx), .second, .val (.double d113), .second, .val (.double d118), .second, .val (.double dx), .second, .val (.ref b_1), .val (.double dg), .second, .unset, .unset, .unset, .unset, .unset, .unset] []))
                  refine Go.step (fun t k => XS.dload X_4.here hx rfl (hb hby at_221) rfl  k) ?_
                  show Go p.tables e below P (T_4.setTop (mkF m 223 #[.val (.int p1), .val (.int p2), .val (.int p3), .val (.int p4), .val (.long j1), .second, .val (.int pw), .val (.int i22), .val (.long jb), .second, .val (.int ie), .val (.int ih), .val (.long jx), .second, .val (.double d113), .second, .val (.double d118), .second, .val (.double dx), .second, .val (.ref b_1), .val (.double dg), .second, .unset, .unset, .unset, .unset, .unset, .unset] [(.double dx)]))
                  refine Go.step (fun t k => XS.dload X_4.here hx rfl (hb hby at_223) rfl  k) ?_
                  show Go p.tables e below P (T_4.setTop (mkF m 225 #[.val (.int p1), .val (.int p2), .val (.int p3), .val (.int p4), .val (.long j1), .second, .val (.int pw), .val (.int i22), .val (.long jb), .second, .val (.int ie), .val (.int ih), .val (.long jx), .second, .val (.double d113), .second, .val (.double d118), .second, .val (.double dx), .second, .val (.ref b_1), .val (.double dg), .second, .unset, .unset, .unset, .unset, .unset, .unset] [(.double d113), (.double dx)]))
                  obtain ⟨dn, hdn⟩ : ∃ z : UInt64, FP.dsub dx d113 = z := ⟨_, rfl⟩
                  refine Go.step (fun t k => XS.dsubS X_4.here hx rfl (hb hby at_225) rfl Q1.nn hdn k) ?_
                  show Go p.tables e below P (T_4.setTop (mkF m 226 #[.val (.int p1), .val (.int p2), .val (.int p3), .val (.int p4), .val (.long j1), .second, .val (.int pw), .val (.int i22), .val (.long jb), .second, .val (.int ie), .val (.int ih), .val (.long jx), .second, .val (.double d113), .second, .val (.double d118), .second, .val (.double dx), .second, .val (.ref b_1), .val (.double dg), .second, .unset, .unset, .unset, .unset, .unset, .unset] [(.double dn)]))
                  refine Go.step (fun t k => XS.dstore X_4.here hx rfl (hb hby at_226) rfl (l' := #[.val (.int p1), .val (.int p2), .val (.int p3), .val (.int p4), .val (.long j1), .second, .val (.int pw), .val (.int i22), .val (.long jb), .second, .val (.int ie), .val (.int ih), .val (.long jx), .second, .val (.double d113), .second, .val (.double d118), .second, .val (.double dx), .second, .val (.ref b_1), .val (.double dg), .second, .val (.double dn), .second, .unset, .unset, .unset, .unset]) rfl k) ?_
                  show Go p.tables e below P (T_4.setTop (mkF m 228 #[.val (.int p1), .val (.int p2), .val (.int p3), .val (.int p4), .val (.long j1), .second, .val (.int pw), .val (.int i22), .val (.long jb), .second, .val (.int ie), .val (.int ih), .val (.long jx), .second, .val (.double d113), .second, .val (.double d118), .second, .val (.double dx), .second, .val (.ref b_1), .val (.double dg), .second, .val (.double dn), .second, .unset, .unset, .unset, .unset] []))
                  refine Go.step (fun t k => XS.dload X_4.here hx rfl (hb hby at_228) rfl  k) ?_
                  show Go p.tables e below P (T_4.setTop (mkF m 230 #[.val (.int p1), .val (.int p2), .val (.int p3), .val (.int p4), .val (.long j1), .second, .val (.int pw), .val (.int i22), .val (.long jb), .second, .val (.int ie), .val (.int ih), .val (.long jx), .second, .val (.double d113), .second, .val (.double d118), .second, .val (.double dx), .second, .val (.ref b_1), .val (.double dg), .second, .val (.double dn), .second, .unset, .unset, .unset, .unset] [(.double d118)]))
                  refine Go.step (fun t k => XS.dload X_4.here hx rfl (hb hby at_230) rfl  k) ?_
                  show Go p.tables e below P (T_4.setTop (mkF m 232 #[.val (.int p1), .val (.int p2), .val (.int p3), .val (.int p4), .val (.long j1), .second, .val (.int pw), .val (.int i22), .val (.long jb), .second, .val (.int ie), .val (.int ih), .val (.long jx), .second, .val (.double d113), .second, .val (.double d118), .second, .val (.double dx), .second, .val (.ref b_1), .val (.double dg), .second, .val (.double dn), .second, .unset, .unset, .unset, .unset] [(.double d113), (.double d118)]))
                  obtain ⟨dd, hdd⟩ : ∃ z : UInt64, FP.dsub d118 d113 = z := ⟨_, rfl⟩
                  refine Go.step (fun t k => XS.dsubS X_4.here hx rfl (hb hby at_232) rfl Q2.nn hdd k) ?_
                  show Go p.tables e below P (T_4.setTop (mkF m 233 #[.val (.int p1), .val (.int p2), .val (.int p3), .val (.int p4), .val (.long j1), .second, .val (.int pw), .val (.int i22), .val (.long jb), .second, .val (.int ie), .val (.int ih), .val (.long jx), .second, .val (.double d113), .second, .val (.double d118), .second, .val (.double dx), .second, .val (.ref b_1), .val (.double dg), .second, .val (.double dn), .second, .unset, .unset, .unset, .unset] [(.double dd)]))
                  rw [hdn] at Q1 hq1
                  rw [hdd] at Q2 hq1
                  skip
                  have BK := back Q1 Q2 (by omega) (by omega) (by omega)
                  rw [← hq1] at BK
                  refine Go.step (fun t k => XS.dstore X_4.here hx rfl (hb hby at_233) rfl (l' := #[.val (.int p1), .val (.int p2), .val (.int p3), .val (.int p4), .val (.long j1), .second, .val (.int pw), .val (.int i22), .val (.long jb), .second, .val (.int ie), .val (.int ih), .val (.long jx), .second, .val (.double d113), .second, .val (.double d118), .second, .val (.double dx), .second, .val (.ref b_1), .val (.double dg), .second, .val (.double dn), .second, .val (.double dd), .second, .unset, .unset]) rfl k) ?_
                  show Go p.tables e below P (T_4.setTop (mkF m 235 #[.val (.int p1), .val (.int p2), .val (.int p3), .val (.int p4), .val (.long j1), .second, .val (.int pw), .val (.int i22), .val (.long jb), .second, .val (.int ie), .val (.int ih), .val (.long jx), .second, .val (.double d113), .second, .val (.double d118), .second, .val (.double dx), .second, .val (.ref b_1), .val (.double dg), .second, .val (.double dn), .second, .val (.double dd), .second, .unset, .unset] []))
                  refine Go.step (fun t k => XS.dload X_4.here hx rfl (hb hby at_235) rfl  k) ?_
                  show Go p.tables e below P (T_4.setTop (mkF m 237 #[.val (.int p1), .val (.int p2), .val (.int p3), .val (.int p4), .val (.long j1), .second, .val (.int pw), .val (.int i22), .val (.long jb), .second, .val (.int ie), .val (.int ih), .val (.long jx), .second, .val (.double d113), .second, .val (.double d118), .second, .val (.double dx), .second, .val (.ref b_1), .val (.double dg), .second, .val (.double dn), .second, .val (.double dd), .second, .unset, .unset] [(.double dg)]))
                  refine Go.step (fun t k => XS.dload X_4.here hx rfl (hb hby at_237) rfl  k) ?_
                  show Go p.tables e below P (T_4.setTop (mkF m 239 #[.val (.int p1), .val (.int p2), .val (.int p3), .val (.int p4), .val (.long j1), .second, .val (.int pw), .val (.int i22), .val (.long jb), .second, .val (.int ie), .val (.int ih), .val (.long jx), .second, .val (.double d113), .second, .val (.double d118), .second, .val (.double dx), .second, .val (.ref b_1), .val (.double dg), .second, .val (.double dn), .second, .val (.double dd), .second, .unset, .unset] [(.double dd), (.double dg)]))
                  obtain ⟨dm, hdm⟩ : ∃ z : UInt64, FP.dmul dg dd = z := ⟨_, rfl⟩
                  refine Go.step (fun t k => XS.dmulS X_4.here hx rfl (hb hby at_239) rfl BK.nn hdm k) ?_
                  show Go p.tables e below P (T_4.setTop (mkF m 240 #[.val (.int p1), .val (.int p2), .val (.int p3), .val (.int p4), .val (.long j1), .second, .val (.int pw), .val (.int i22), .val (.long jb), .second, .val (.int ie), .val (.int ih), .val (.long jx), .second, .val (.double d113), .second, .val (.double d118), .second, .val (.double dx), .second, .val (.ref b_1), .val (.double dg), .second, .val (.double dn), .second, .val (.double dd), .second, .unset, .unset] [(.double dm)]))
                  rw [hdm] at BK
                  have Q1' := Q1.down (k' := 1053) (n := 20) rfl
                  rw [show ((2 ^ 20 : Nat) : Int) = 1048576 by decide] at Q1'
                  have ER := sub_b (k := 1053) (lo := -1) (hi := 1) BK Q1' (by omega) (by omega) (by decide) (by decide) (by decide)
                  refine Go.step (fun t k => XS.dload X_4.here hx rfl (hb hby at_240) rfl  k) ?_
                  show Go p.tables e below P (T_4.setTop (mkF m 242 #[.val (.int p1), .val (.int p2), .val (.int p3), .val (.int p4), .val (.long j1), .second, .val (.int pw), .val (.int i22), .val (.long jb), .second, .val (.int ie), .val (.int ih), .val (.long jx), .second, .val (.double d113), .second, .val (.double d118), .second, .val (.double dx), .second, .val (.ref b_1), .val (.double dg), .second, .val (.double dn), .second, .val (.double dd), .second, .unset, .unset] [(.double dn), (.double dm)]))
                  obtain ⟨er, her⟩ : ∃ z : UInt64, FP.dsub dm dn = z := ⟨_, rfl⟩
                  refine Go.step (fun t k => XS.dsubS X_4.here hx rfl (hb hby at_242) rfl ER.nn her k) ?_
                  show Go p.tables e below P (T_4.setTop (mkF m 243 #[.val (.int p1), .val (.int p2), .val (.int p3), .val (.int p4), .val (.long j1), .second, .val (.int pw), .val (.int i22), .val (.long jb), .second, .val (.int ie), .val (.int ih), .val (.long jx), .second, .val (.double d113), .second, .val (.double d118), .second, .val (.double dx), .second, .val (.ref b_1), .val (.double dg), .second, .val (.double dn), .second, .val (.double dd), .second, .unset, .unset] [(.double er)]))
                  rw [her] at ER
                  refine Go.step (fun t k => XS.dstore X_4.here hx rfl (hb hby at_243) rfl (l' := #[.val (.int p1), .val (.int p2), .val (.int p3), .val (.int p4), .val (.long j1), .second, .val (.int pw), .val (.int i22), .val (.long jb), .second, .val (.int ie), .val (.int ih), .val (.long jx), .second, .val (.double d113), .second, .val (.double d118), .second, .val (.double dx), .second, .val (.ref b_1), .val (.double dg), .second, .val (.double dn), .second, .val (.double dd), .second, .val (.double er), .second]) rfl k) ?_
                  show Go p.tables e below P (T_4.setTop (mkF m 245 #[.val (.int p1), .val (.int p2), .val (.int p3), .val (.int p4), .val (.long j1), .second, .val (.int pw), .val (.int i22), .val (.long jb), .second, .val (.int ie), .val (.int ih), .val (.long jx), .second, .val (.double d113), .second, .val (.double d118), .second, .val (.double dx), .second, .val (.ref b_1), .val (.double dg), .second, .val (.double dn), .second, .val (.double dd), .second, .val (.double er), .second] []))
                  refine Go.step (fun t k => XS.iload X_4.here hx rfl (hb hby at_245) rfl  k) ?_
                  show Go p.tables e below P (T_4.setTop (mkF m 247 #[.val (.int p1), .val (.int p2), .val (.int p3), .val (.int p4), .val (.long j1), .second, .val (.int pw), .val (.int i22), .val (.long jb), .second, .val (.int ie), .val (.int ih), .val (.long jx), .second, .val (.double d113), .second, .val (.double d118), .second, .val (.double dx), .second, .val (.ref b_1), .val (.double dg), .second, .val (.double dn), .second, .val (.double dd), .second, .val (.double er), .second] [(.int pw)]))
                  by_cases hc247 : pw.toInt = 0
                  · refine Go.step (fun t k => XS.ifYes X_4.here hx rfl (pc0 := 247) (pc' := 263) rfl (hb hby at_247) rfl (ifY (cd := .eq) hc247) (by decide) (by decide) k) ?_
                    show Go p.tables e below P (T_4.setTop (mkF m 263 #[.val (.int p1), .val (.int p2), .val (.int p3), .val (.int p4), .val (.long j1), .second, .val (.int pw), .val (.int i22), .val (.long jb), .second, .val (.int ie), .val (.int ih), .val (.long jx), .second, .val (.double d113), .second, .val (.double d118), .second, .val (.double dx), .second, .val (.ref b_1), .val (.double dg), .second, .val (.double dn), .second, .val (.double dd), .second, .val (.double er), .second] []))
                    refine Go.step (fun t k => X_4.ldc2DoubleC hx hown (mvT hZ (hw _ (List.mem_of_getElem? (i := 33) rfl))) (g := (mkF m 263 #[.val (.int p1), .val (.int p2), .val (.int p3), .val (.int p4), .val (.long j1), .second, .val (.int pw), .val (.int i22), .val (.long jb), .second, .val (.int ie), .val (.int ih), .val (.long jx), .second, .val (.double d113), .second, .val (.double d118), .second, .val (.double dx), .second, .val (.ref b_1), .val (.double dg), .second, .val (.double dn), .second, .val (.double dd), .second, .val (.double er), .second] [])) rfl (hb hby at_263) t k) ?_
                    show Go p.tables e below P (T_4.setTop (mkF m 266 #[.val (.int p1), .val (.int p2), .val (.int p3), .val (.int p4), .val (.long j1), .second, .val (.int pw), .val (.int i22), .val (.long jb), .second, .val (.int ie), .val (.int ih), .val (.long jx), .second, .val (.double d113), .second, .val (.double d118), .second, .val (.double dx), .second, .val (.ref b_1), .val (.double dg), .second, .val (.double dn), .second, .val (.double dd), .second, .val (.double er), .second] [(.double (13785518459381088256 : UInt64))]))
                    refine Go.step (fun t k => XS.dload X_4.here hx rfl (hb hby at_266) rfl  k) ?_
                    show Go p.tables e below P (T_4.setTop (mkF m 268 #[.val (.int p1), .val (.int p2), .val (.int p3), .val (.int p4), .val (.long j1), .second, .val (.int pw), .val (.int i22), .val (.long jb), .second, .val (.int ie), .val (.int ih), .val (.long jx), .second, .val (.double d113), .second, .val (.double d118), .second, .val (.double dx), .second, .val (.ref b_1), .val (.double dg), .second, .val (.double dn), .second, .val (.double dd), .second, .val (.double er), .second] [(.double er), (.double (13785518459381088256 : UInt64))]))
                    refine Go.step (fun t k => XS.dcmpS X_4.here hx rfl (hb hby at_268) rfl rfl k) ?_
                    show Go p.tables e below P (T_4.setTop (mkF m 269 #[.val (.int p1), .val (.int p2), .val (.int p3), .val (.int p4), .val (.long j1), .second, .val (.int pw), .val (.int i22), .val (.long jb), .second, .val (.int ie), .val (.int ih), .val (.long jx), .second, .val (.double d113), .second, .val (.double d118), .second, .val (.double dx), .second, .val (.ref b_1), .val (.double dg), .second, .val (.double dn), .second, .val (.double dd), .second, .val (.double er), .second] [(.int (cmpValue (FP.dcmp (13785518459381088256 : UInt64) er) .g))]))
                    refine Go.step (fun t k => XS.ifNo X_4.here hx rfl (hb hby at_269) rfl (dcN (cd := .ge) ((eps_n.lt ER (by decide)).trans (rfl : _ = some (compare (0 : Int) 1))) (by decide : ¬ ((1 : Int) ≤ (0 : Int)))) k) ?_
                    show Go p.tables e below P (T_4.setTop (mkF m 272 #[.val (.int p1), .val (.int p2), .val (.int p3), .val (.int p4), .val (.long j1), .second, .val (.int pw), .val (.int i22), .val (.long jb), .second, .val (.int ie), .val (.int ih), .val (.long jx), .second, .val (.double d113), .second, .val (.double d118), .second, .val (.double dx), .second, .val (.ref b_1), .val (.double dg), .second, .val (.double dn), .second, .val (.double dd), .second, .val (.double er), .second] []))
                    refine Go.step (fun t k => XS.dload X_4.here hx rfl (hb hby at_272) rfl  k) ?_
                    show Go p.tables e below P (T_4.setTop (mkF m 274 #[.val (.int p1), .val (.int p2), .val (.int p3), .val (.int p4), .val (.long j1), .second, .val (.int pw), .val (.int i22), .val (.long jb), .second, .val (.int ie), .val (.int ih), .val (.long jx), .second, .val (.double d113), .second, .val (.double d118), .second, .val (.double dx), .second, .val (.ref b_1), .val (.double dg), .second, .val (.double dn), .second, .val (.double dd), .second, .val (.double er), .second] [(.double er)]))
                    refine Go.step (fun t k => X_4.ldc2DoubleC hx hown (mvT hZ (hw _ (List.mem_of_getElem? (i := 34) rfl))) (g := (mkF m 274 #[.val (.int p1), .val (.int p2), .val (.int p3), .val (.int p4), .val (.long j1), .second, .val (.int pw), .val (.int i22), .val (.long jb), .second, .val (.int ie), .val (.int ih), .val (.long jx), .second, .val (.double d113), .second, .val (.double d118), .second, .val (.double dx), .second, .val (.ref b_1), .val (.double dg), .second, .val (.double dn), .second, .val (.double dd), .second, .val (.double er), .second] [(.double er)])) rfl (hb hby at_274) t k) ?_
                    show Go p.tables e below P (T_4.setTop (mkF m 277 #[.val (.int p1), .val (.int p2), .val (.int p3), .val (.int p4), .val (.long j1), .second, .val (.int pw), .val (.int i22), .val (.long jb), .second, .val (.int ie), .val (.int ih), .val (.long jx), .second, .val (.double d113), .second, .val (.double d118), .second, .val (.double dx), .second, .val (.ref b_1), .val (.double dg), .second, .val (.double dn), .second, .val (.double dd), .second, .val (.double er), .second] [(.double (4562146422526312448 : UInt64)), (.double er)]))
                    refine Go.step (fun t k => XS.dcmpS X_4.here hx rfl (hb hby at_277) rfl rfl k) ?_
                    show Go p.tables e below P (T_4.setTop (mkF m 278 #[.val (.int p1), .val (.int p2), .val (.int p3), .val (.int p4), .val (.long j1), .second, .val (.int pw), .val (.int i22), .val (.long jb), .second, .val (.int ie), .val (.int ih), .val (.long jx), .second, .val (.double d113), .second, .val (.double d118), .second, .val (.double dx), .second, .val (.ref b_1), .val (.double dg), .second, .val (.double dn), .second, .val (.double dd), .second, .val (.double er), .second] [(.int (cmpValue (FP.dcmp er (4562146422526312448 : UInt64)) .g))]))
                    refine Go.step (fun t k => XS.ifNo X_4.here hx rfl (hb hby at_278) rfl (dcN (cd := .ge) ((ER.lt eps_p (by decide)).trans (rfl : _ = some (compare (0 : Int) 1))) (by decide : ¬ ((1 : Int) ≤ (0 : Int)))) k) ?_
                    show Go p.tables e below P (T_4.setTop (mkF m 281 #[.val (.int p1), .val (.int p2), .val (.int p3), .val (.int p4), .val (.long j1), .second, .val (.int pw), .val (.int i22), .val (.long jb), .second, .val (.int ie), .val (.int ih), .val (.long jx), .second, .val (.double d113), .second, .val (.double d118), .second, .val (.double dx), .second, .val (.ref b_1), .val (.double dg), .second, .val (.double dn), .second, .val (.double dd), .second, .val (.double er), .second] []))
                    refine Go.step (fun t k => XS.iconst X_4.here hx rfl (hb hby at_281) k) ?_
                    show Go p.tables e below P (T_4.setTop (mkF m 282 #[.val (.int p1), .val (.int p2), .val (.int p3), .val (.int p4), .val (.long j1), .second, .val (.int pw), .val (.int i22), .val (.long jb), .second, .val (.int ie), .val (.int ih), .val (.long jx), .second, .val (.double d113), .second, .val (.double d118), .second, .val (.double dx), .second, .val (.ref b_1), .val (.double dg), .second, .val (.double dn), .second, .val (.double dd), .second, .val (.double er), .second] [(.int (1 : Int32))]))
                    refine Go.step (fun t k => XS.goto X_4.here hx rfl (pc0 := 282) (pc' := 286) rfl (hb hby at_282) (by decide) (by decide) k) ?_
                    show Go p.tables e below P (T_4.setTop (mkF m 286 #[.val (.int p1), .val (.int p2), .val (.int p3), .val (.int p4), .val (.long j1), .second, .val (.int pw), .val (.int i22), .val (.long jb), .second, .val (.int ie), .val (.int ih), .val (.long jx), .second, .val (.double d113), .second, .val (.double d118), .second, .val (.double dx), .second, .val (.ref b_1), .val (.double dg), .second, .val (.double dn), .second, .val (.double dd), .second, .val (.double er), .second] [(.int (1 : Int32))]))
                    exact retGoW X_4 hx hS (by rw [eh_4]; exact (Nat.le_trans hk_2 Kc_3.1)) hP Bd.returns hlk rfl (Or.inl ⟨rfl, Or.inr (Or.inl rfl), _, rfl⟩) (hb hby at_286) (by decide) (by decide) (by rw [eh_4]; exact ⟨rfl, N_4⟩)
                  · refine Go.step (fun t k => XS.ifNo X_4.here hx rfl (hb hby at_247) rfl (ifN (cd := .eq) hc247) k) ?_
                    show Go p.tables e below P (T_4.setTop (mkF m 250 #[.val (.int p1), .val (.int p2), .val (.int p3), .val (.int p4), .val (.long j1), .second, .val (.int pw), .val (.int i22), .val (.long jb), .second, .val (.int ie), .val (.int ih), .val (.long jx), .second, .val (.double d113), .second, .val (.double d118), .second, .val (.double dx), .second, .val (.ref b_1), .val (.double dg), .second, .val (.double dn), .second, .val (.double dd), .second, .val (.double er), .second] []))
                    obtain ⟨cc, hcc, hb2⟩ := hpw (by omega)
                    have Q3 : DE 1073 ((2 * 2 ^ cc : Nat) : Int) dd := by have e := hb2; rw [show jb.toInt * 2 - j1.toInt * 2 = ((2 * 2 ^ cc : Nat) : Int) by omega] at Q2; exact Q2
                    have B2 := back2 Q1 Q3 hcc (by omega)
                    rw [← hq1, hdm] at B2
                    have Z2 := sub_e (k := 1073) B2 Q1 (n := 0) (by omega) (by decide) (by decide)
                    rw [her] at Z2
                    refine Go.step (fun t k => XS.dload X_4.here hx rfl (hb hby at_250) rfl  k) ?_
                    show Go p.tables e below P (T_4.setTop (mkF m 252 #[.val (.int p1), .val (.int p2), .val (.int p3), .val (.int p4), .val (.long j1), .second, .val (.int pw), .val (.int i22), .val (.long jb), .second, .val (.int ie), .val (.int ih), .val (.long jx), .second, .val (.double d113), .second, .val (.double d118), .second, .val (.double dx), .second, .val (.ref b_1), .val (.double dg), .second, .val (.double dn), .second, .val (.double dd), .second, .val (.double er), .second] [(.double er)]))
                    refine Go.step (fun t k => XS.dconst0 X_4.here hx rfl (hb hby at_252) rfl k) ?_
                    show Go p.tables e below P (T_4.setTop (mkF m 253 #[.val (.int p1), .val (.int p2), .val (.int p3), .val (.int p4), .val (.long j1), .second, .val (.int pw), .val (.int i22), .val (.long jb), .second, .val (.int ie), .val (.int ih), .val (.long jx), .second, .val (.double d113), .second, .val (.double d118), .second, .val (.double dx), .second, .val (.ref b_1), .val (.double dg), .second, .val (.double dn), .second, .val (.double dd), .second, .val (.double er), .second] [(.double FP.dconst0), (.double er)]))
                    refine Go.step (fun t k => XS.dcmpS X_4.here hx rfl (hb hby at_253) rfl rfl k) ?_
                    show Go p.tables e below P (T_4.setTop (mkF m 254 #[.val (.int p1), .val (.int p2), .val (.int p3), .val (.int p4), .val (.long j1), .second, .val (.int pw), .val (.int i22), .val (.long jb), .second, .val (.int ie), .val (.int ih), .val (.long jx), .second, .val (.double d113), .second, .val (.double d118), .second, .val (.double dx), .second, .val (.ref b_1), .val (.double dg), .second, .val (.double dn), .second, .val (.double dd), .second, .val (.double er), .second] [(.int (cmpValue (FP.dcmp er FP.dconst0) .l))]))
                    refine Go.step (fun t k => XS.ifNo X_4.here hx rfl (hb hby at_254) rfl (dcN (cd := .ne) (DE.cmp Z2 (zero_e 1073)) (fun q => q rfl)) k) ?_
                    show Go p.tables e below P (T_4.setTop (mkF m 257 #[.val (.int p1), .val (.int p2), .val (.int p3), .val (.int p4), .val (.long j1), .second, .val (.int pw), .val (.int i22), .val (.long jb), .second, .val (.int ie), .val (.int ih), .val (.long jx), .second, .val (.double d113), .second, .val (.double d118), .second, .val (.double dx), .second, .val (.ref b_1), .val (.double dg), .second, .val (.double dn), .second, .val (.double dd), .second, .val (.double er), .second] []))
                    refine Go.step (fun t k => XS.iconst X_4.here hx rfl (hb hby at_257) k) ?_
                    show Go p.tables e below P (T_4.setTop (mkF m 258 #[.val (.int p1), .val (.int p2), .val (.int p3), .val (.int p4), .val (.long j1), .second, .val (.int pw), .val (.int i22), .val (.long jb), .second, .val (.int ie), .val (.int ih), .val (.long jx), .second, .val (.double d113), .second, .val (.double d118), .second, .val (.double dx), .second, .val (.ref b_1), .val (.double dg), .second, .val (.double dn), .second, .val (.double dd), .second, .val (.double er), .second] [(.int (1 : Int32))]))
                    refine Go.step (fun t k => XS.goto X_4.here hx rfl (pc0 := 258) (pc' := 262) rfl (hb hby at_258) (by decide) (by decide) k) ?_
                    show Go p.tables e below P (T_4.setTop (mkF m 262 #[.val (.int p1), .val (.int p2), .val (.int p3), .val (.int p4), .val (.long j1), .second, .val (.int pw), .val (.int i22), .val (.long jb), .second, .val (.int ie), .val (.int ih), .val (.long jx), .second, .val (.double d113), .second, .val (.double d118), .second, .val (.double dx), .second, .val (.ref b_1), .val (.double dg), .second, .val (.double dn), .second, .val (.double dd), .second, .val (.double er), .second] [(.int (1 : Int32))]))
                    exact retGoW X_4 hx hS (by rw [eh_4]; exact (Nat.le_trans hk_2 Kc_3.1)) hP Bd.returns hlk rfl (Or.inl ⟨rfl, Or.inr (Or.inl rfl), _, rfl⟩) (hb hby at_262) (by decide) (by decide) (by rw [eh_4]; exact ⟨rfl, N_4⟩)
                · refine Go.step (fun t k => XS.ifNo X_4.here hx rfl (hb hby at_189) rfl (dcN (cd := .lt) (DE.cmp qx qjb) hc189) k) ?_
                  show Go p.tables e below P (T_4.setTop (mkF m 192 #[.val (.int p1), .val (.int p2), .val (.int p3), .val (.int p4), .val (.long j1), .second, .val (.int pw), .val (.int i22), .val (.long jb), .second, .val (.int ie), .val (.int ih), .val (.long jx), .second, .val (.double d113), .second, .val (.double d118), .second, .val (.double dx), .second, .val (.ref b_1), .val (.double dg), .second, .unset, .unset, .unset, .unset, .unset, .unset] []))
                  have hq1 : dg = FP.dconst1 := by rcases hdg with ⟨h, _⟩ | ⟨_, _, h⟩ | ⟨_, h, _⟩; omega; exact h; omega
                  have q1 : DE 1073 2 dg := by rw [hq1]; exact one_k
                  refine Go.step (fun t k => XS.dload X_4.here hx rfl (hb hby at_192) rfl  k) ?_
                  show Go p.tables e below P (T_4.setTop (mkF m 194 #[.val (.int p1), .val (.int p2), .val (.int p3), .val (.int p4), .val (.long j1), .second, .val (.int pw), .val (.int i22), .val (.long jb), .second, .val (.int ie), .val (.int ih), .val (.long jx), .second, .val (.double d113), .second, .val (.double d118), .second, .val (.double dx), .second, .val (.ref b_1), .val (.double dg), .second, .unset, .unset, .unset, .unset, .unset, .unset] [(.double dg)]))
                  refine Go.step (fun t k => XS.dconst1 X_4.here hx rfl (hb hby at_194) rfl k) ?_
                  show Go p.tables e below P (T_4.setTop (mkF m 195 #[.val (.int p1), .val (.int p2), .val (.int p3), .val (.int p4), .val (.long j1), .second, .val (.int pw), .val (.int i22), .val (.long jb), .second, .val (.int ie), .val (.int ih), .val (.long jx), .second, .val (.double d113), .second, .val (.double d118), .second, .val (.double dx), .second, .val (.ref b_1), .val (.double dg), .second, .unset, .unset, .unset, .unset, .unset, .unset] [(.double FP.dconst1), (.double dg)]))
                  refine Go.step (fun t k => XS.dcmpS X_4.here hx rfl (hb hby at_195) rfl rfl k) ?_
                  show Go p.tables e below P (T_4.setTop (mkF m 196 #[.val (.int p1), .val (.int p2), .val (.int p3), .val (.int p4), .val (.long j1), .second, .val (.int pw), .val (.int i22), .val (.long jb), .second, .val (.int ie), .val (.int ih), .val (.long jx), .second, .val (.double d113), .second, .val (.double d118), .second, .val (.double dx), .second, .val (.ref b_1), .val (.double dg), .second, .unset, .unset, .unset, .unset, .unset, .unset] [(.int (cmpValue (FP.dcmp dg FP.dconst1) .l))]))
                  refine Go.step (fun t k => XS.ifNo X_4.here hx rfl (hb hby at_196) rfl (dcN (cd := .ne) (DE.cmp q1 one_k) (fun q => q rfl)) k) ?_
                  show Go p.tables e below P (T_4.setTop (mkF m 199 #[.val (.int p1), .val (.int p2), .val (.int p3), .val (.int p4), .val (.long j1), .second, .val (.int pw), .val (.int i22), .val (.long jb), .second, .val (.int ie), .val (.int ih), .val (.long jx), .second, .val (.double d113), .second, .val (.double d118), .second, .val (.double dx), .second, .val (.ref b_1), .val (.double dg), .second, .unset, .unset, .unset, .unset, .unset, .unset] []))
                  refine Go.step (fun t k => XS.iconst X_4.here hx rfl (hb hby at_199) k) ?_
                  show Go p.tables e below P (T_4.setTop (mkF m 200 #[.val (.int p1), .val (.int p2), .val (.int p3), .val (.int p4), .val (.long j1), .second, .val (.int pw), .val (.int i22), .val (.long jb), .second, .val (.int ie), .val (.int ih), .val (.long jx), .second, .val (.double d113), .second, .val (.double d118), .second, .val (.double dx), .second, .val (.ref b_1), .val (.double dg), .second, .unset, .unset, .unset, .unset, .unset, .unset] [(.int (1 : Int32))]))
                  refine Go.step (fun t k => XS.goto X_4.here hx rfl (pc0 := 200) (pc' := 204) rfl (hb hby at_200) (by decide) (by decide) k) ?_
                  show Go p.tables e below P (T_4.setTop (mkF m 204 #[.val (.int p1), .val (.int p2), .val (.int p3), .val (.int p4), .val (.long j1), .second, .val (.int pw), .val (.int i22), .val (.long jb), .second, .val (.int ie), .val (.int ih), .val (.long jx), .second, .val (.double d113), .second, .val (.double d118), .second, .val (.double dx), .second, .val (.ref b_1), .val (.double dg), .second, .unset, .unset, .unset, .unset, .unset, .unset] [(.int (1 : Int32))]))
                  exact retGoW X_4 hx hS (by rw [eh_4]; exact (Nat.le_trans hk_2 Kc_3.1)) hP Bd.returns hlk rfl (Or.inl ⟨rfl, Or.inr (Or.inl rfl), _, rfl⟩) (hb hby at_204) (by decide) (by decide) (by rw [eh_4]; exact ⟨rfl, N_4⟩)
              · refine Go.step (fun t k => XS.ifNo X_4.here hx rfl (hb hby at_168) rfl (dcN (cd := .gt) (DE.cmp qx qja) hc168) k) ?_
                show Go p.tables e below P (T_4.setTop (mkF m 171 #[.val (.int p1), .val (.int p2), .val (.int p3), .val (.int p4), .val (.long j1), .second, .val (.int pw), .val (.int i22), .val (.long jb), .second, .val (.int ie), .val (.int ih), .val (.long jx), .second, .val (.double d113), .second, .val (.double d118), .second, .val (.double dx), .second, .val (.ref b_1), .val (.double dg), .second, .unset, .unset, .unset, .unset, .unset, .unset] []))
                have hq1 : dg = FP.dconst0 := by rcases hdg with ⟨_, h⟩ | ⟨h, _⟩ | ⟨h, _⟩; exact h; omega; omega
                have q1 : DE 1073 0 dg := by rw [hq1]; exact zero_e 1073
                refine Go.step (fun t k => XS.dload X_4.here hx rfl (hb hby at_171) rfl  k) ?_
                show Go p.tables e below P (T_4.setTop (mkF m 173 #[.val (.int p1), .val (.int p2), .val (.int p3), .val (.int p4), .val (.long j1), .second, .val (.int pw), .val (.int i22), .val (.long jb), .second, .val (.int ie), .val (.int ih), .val (.long jx), .second, .val (.double d113), .second, .val (.double d118), .second, .val (.double dx), .second, .val (.ref b_1), .val (.double dg), .second, .unset, .unset, .unset, .unset, .unset, .unset] [(.double dg)]))
                refine Go.step (fun t k => XS.dconst0 X_4.here hx rfl (hb hby at_173) rfl k) ?_
                show Go p.tables e below P (T_4.setTop (mkF m 174 #[.val (.int p1), .val (.int p2), .val (.int p3), .val (.int p4), .val (.long j1), .second, .val (.int pw), .val (.int i22), .val (.long jb), .second, .val (.int ie), .val (.int ih), .val (.long jx), .second, .val (.double d113), .second, .val (.double d118), .second, .val (.double dx), .second, .val (.ref b_1), .val (.double dg), .second, .unset, .unset, .unset, .unset, .unset, .unset] [(.double FP.dconst0), (.double dg)]))
                refine Go.step (fun t k => XS.dcmpS X_4.here hx rfl (hb hby at_174) rfl rfl k) ?_
                show Go p.tables e below P (T_4.setTop (mkF m 175 #[.val (.int p1), .val (.int p2), .val (.int p3), .val (.int p4), .val (.long j1), .second, .val (.int pw), .val (.int i22), .val (.long jb), .second, .val (.int ie), .val (.int ih), .val (.long jx), .second, .val (.double d113), .second, .val (.double d118), .second, .val (.double dx), .second, .val (.ref b_1), .val (.double dg), .second, .unset, .unset, .unset, .unset, .unset, .unset] [(.int (cmpValue (FP.dcmp dg FP.dconst0) .l))]))
                refine Go.step (fun t k => XS.ifNo X_4.here hx rfl (hb hby at_175) rfl (dcN (cd := .ne) (DE.cmp q1 (zero_e 1073)) (fun q => q rfl)) k) ?_
                show Go p.tables e below P (T_4.setTop (mkF m 178 #[.val (.int p1), .val (.int p2), .val (.int p3), .val (.int p4), .val (.long j1), .second, .val (.int pw), .val (.int i22), .val (.long jb), .second, .val (.int ie), .val (.int ih), .val (.long jx), .second, .val (.double d113), .second, .val (.double d118), .second, .val (.double dx), .second, .val (.ref b_1), .val (.double dg), .second, .unset, .unset, .unset, .unset, .unset, .unset] []))
                refine Go.step (fun t k => XS.iconst X_4.here hx rfl (hb hby at_178) k) ?_
                show Go p.tables e below P (T_4.setTop (mkF m 179 #[.val (.int p1), .val (.int p2), .val (.int p3), .val (.int p4), .val (.long j1), .second, .val (.int pw), .val (.int i22), .val (.long jb), .second, .val (.int ie), .val (.int ih), .val (.long jx), .second, .val (.double d113), .second, .val (.double d118), .second, .val (.double dx), .second, .val (.ref b_1), .val (.double dg), .second, .unset, .unset, .unset, .unset, .unset, .unset] [(.int (1 : Int32))]))
                refine Go.step (fun t k => XS.goto X_4.here hx rfl (pc0 := 179) (pc' := 183) rfl (hb hby at_179) (by decide) (by decide) k) ?_
                show Go p.tables e below P (T_4.setTop (mkF m 183 #[.val (.int p1), .val (.int p2), .val (.int p3), .val (.int p4), .val (.long j1), .second, .val (.int pw), .val (.int i22), .val (.long jb), .second, .val (.int ie), .val (.int ih), .val (.long jx), .second, .val (.double d113), .second, .val (.double d118), .second, .val (.double dx), .second, .val (.ref b_1), .val (.double dg), .second, .unset, .unset, .unset, .unset, .unset, .unset] [(.int (1 : Int32))]))
                exact retGoW X_4 hx hS (by rw [eh_4]; exact (Nat.le_trans hk_2 Kc_3.1)) hP Bd.returns hlk rfl (Or.inl ⟨rfl, Or.inr (Or.inl rfl), _, rfl⟩) (hb hby at_183) (by decide) (by decide) (by rw [eh_4]; exact ⟨rfl, N_4⟩)
            by_cases hc126 : ih.toInt = 0
            · refine Go.step (fun t k => XS.ifYes X0.here hx rfl (pc0 := 126) (pc' := 135) rfl (hb hby at_126) rfl (ifY (cd := .eq) hc126) (by decide) (by decide) k) ?_
              show Go p.tables e below P (s₁.setTop (mkF m 135 #[.val (.int p1), .val (.int p2), .val (.int p3), .val (.int p4), .val (.long j1), .second, .val (.int pw), .val (.int i22), .val (.long jb), .second, .val (.int ie), .val (.int ih), .val (.long jx), .second, .val (.double d113), .second, .val (.double d118), .second, .unset, .unset, .unset, .unset, .unset, .unset, .unset, .unset, .unset, .unset, .unset] [(.double d123)]))
              refine Go.step (fun t k => XS.dconst0 X0.here hx rfl (hb hby at_135) rfl k) ?_
              show Go p.tables e below P (s₁.setTop (mkF m 136 #[.val (.int p1), .val (.int p2), .val (.int p3), .val (.int p4), .val (.long j1), .second, .val (.int pw), .val (.int i22), .val (.long jb), .second, .val (.int ie), .val (.int ih), .val (.long jx), .second, .val (.double d113), .second, .val (.double d118), .second, .unset, .unset, .unset, .unset, .unset, .unset, .unset, .unset, .unset, .unset, .unset] [(.double FP.dconst0), (.double d123)]))
              exact J136 _ 0 ⟨zero_e 1073, by decide⟩
            · refine Go.step (fun t k => XS.ifNo X0.here hx rfl (hb hby at_126) rfl (ifN (cd := .eq) hc126) k) ?_
              show Go p.tables e below P (s₁.setTop (mkF m 129 #[.val (.int p1), .val (.int p2), .val (.int p3), .val (.int p4), .val (.long j1), .second, .val (.int pw), .val (.int i22), .val (.long jb), .second, .val (.int ie), .val (.int ih), .val (.long jx), .second, .val (.double d113), .second, .val (.double d118), .second, .unset, .unset, .unset, .unset, .unset, .unset, .unset, .unset, .unset, .unset, .unset] [(.double d123)]))
              refine Go.step (fun t k => X0.ldc2DoubleC hx hown (mvT hZ (hw _ (List.mem_of_getElem? (i := 36) rfl))) (g := (mkF m 129 #[.val (.int p1), .val (.int p2), .val (.int p3), .val (.int p4), .val (.long j1), .second, .val (.int pw), .val (.int i22), .val (.long jb), .second, .val (.int ie), .val (.int ih), .val (.long jx), .second, .val (.double d113), .second, .val (.double d118), .second, .unset, .unset, .unset, .unset, .unset, .unset, .unset, .unset, .unset, .unset, .unset] [(.double d123)])) rfl (hb hby at_129) t k) ?_
              show Go p.tables e below P (s₁.setTop (mkF m 132 #[.val (.int p1), .val (.int p2), .val (.int p3), .val (.int p4), .val (.long j1), .second, .val (.int pw), .val (.int i22), .val (.long jb), .second, .val (.int ie), .val (.int ih), .val (.long jx), .second, .val (.double d113), .second, .val (.double d118), .second, .unset, .unset, .unset, .unset, .unset, .unset, .unset, .unset, .unset, .unset, .unset] [(.double (4602678819172646912 : UInt64)), (.double d123)]))
              refine Go.step (fun t k => XS.goto X0.here hx rfl (pc0 := 132) (pc' := 136) rfl (hb hby at_132) (by decide) (by decide) k) ?_
              show Go p.tables e below P (s₁.setTop (mkF m 136 #[.val (.int p1), .val (.int p2), .val (.int p3), .val (.int p4), .val (.long j1), .second, .val (.int pw), .val (.int i22), .val (.long jb), .second, .val (.int ie), .val (.int ih), .val (.long jx), .second, .val (.double d113), .second, .val (.double d118), .second, .unset, .unset, .unset, .unset, .unset, .unset, .unset, .unset, .unset, .unset, .unset] [(.double (4602678819172646912 : UInt64)), (.double d123)]))
              exact J136 _ 1 ⟨half_k, by decide⟩
          refine Go.step (fun t k => XS.iload X0.here hx rfl (hb hby at_73) rfl  k) ?_
          show Go p.tables e below P (s₁.setTop (mkF m 75 #[.val (.int p1), .val (.int p2), .val (.int p3), .val (.int p4), .val (.long j1), .second, .val (.int pw), .val (.int i22), .val (.long jb), .second, .val (.int ie), .val (.int ih), .unset, .unset, .unset, .unset, .unset, .unset, .unset, .unset, .unset, .unset, .unset, .unset, .unset, .unset, .unset, .unset, .unset] [(.int ie)]))
          by_cases hc75 : ie.toInt = 0
          · refine Go.step (fun t k => XS.ifYes X0.here hx rfl (pc0 := 75) (pc' := 107) rfl (hb hby at_75) rfl (ifY (cd := .eq) hc75) (by decide) (by decide) k) ?_
            show Go p.tables e below P (s₁.setTop (mkF m 107 #[.val (.int p1), .val (.int p2), .val (.int p3), .val (.int p4), .val (.long j1), .second, .val (.int pw), .val (.int i22), .val (.long jb), .second, .val (.int ie), .val (.int ih), .unset, .unset, .unset, .unset, .unset, .unset, .unset, .unset, .unset, .unset, .unset, .unset, .unset, .unset, .unset, .unset, .unset] []))
            refine Go.step (fun t k => XS.iloadN X0.here hx rfl (hb hby at_107) rfl  k) ?_
            show Go p.tables e below P (s₁.setTop (mkF m 108 #[.val (.int p1), .val (.int p2), .val (.int p3), .val (.int p4), .val (.long j1), .second, .val (.int pw), .val (.int i22), .val (.long jb), .second, .val (.int ie), .val (.int ih), .unset, .unset, .unset, .unset, .unset, .unset, .unset, .unset, .unset, .unset, .unset, .unset, .unset, .unset, .unset, .unset, .unset] [(.int p3)]))
            obtain ⟨j108, hj108⟩ : ∃ z : Int64, p3.toInt64 = z := ⟨_, rfl⟩
            refine Go.step (fun t k => i2l_v X0.here hx rfl (hb hby at_108) rfl hj108 k) ?_
            show Go p.tables e below P (s₁.setTop (mkF m 109 #[.val (.int p1), .val (.int p2), .val (.int p3), .val (.int p4), .val (.long j1), .second, .val (.int pw), .val (.int i22), .val (.long jb), .second, .val (.int ie), .val (.int ih), .unset, .unset, .unset, .unset, .unset, .unset, .unset, .unset, .unset, .unset, .unset, .unset, .unset, .unset, .unset, .unset, .unset] [(.long j108)]))
            have f108 := c_i2l p3; rw [hj108] at f108
            refine Go.step (fun t k => XS.lstore X0.here hx rfl (hb hby at_109) rfl (l' := #[.val (.int p1), .val (.int p2), .val (.int p3), .val (.int p4), .val (.long j1), .second, .val (.int pw), .val (.int i22), .val (.long jb), .second, .val (.int ie), .val (.int ih), .val (.long j108), .second, .unset, .unset, .unset, .unset, .unset, .unset, .unset, .unset, .unset, .unset, .unset, .unset, .unset, .unset, .unset]) rfl k) ?_
            show Go p.tables e below P (s₁.setTop (mkF m 111 #[.val (.int p1), .val (.int p2), .val (.int p3), .val (.int p4), .val (.long j1), .second, .val (.int pw), .val (.int i22), .val (.long jb), .second, .val (.int ie), .val (.int ih), .val (.long j108), .second, .unset, .unset, .unset, .unset, .unset, .unset, .unset, .unset, .unset, .unset, .unset, .unset, .unset, .unset, .unset] []))
            exact J111 _ (by omega)
          · refine Go.step (fun t k => XS.ifNo X0.here hx rfl (hb hby at_75) rfl (ifN (cd := .eq) hc75) k) ?_
            show Go p.tables e below P (s₁.setTop (mkF m 78 #[.val (.int p1), .val (.int p2), .val (.int p3), .val (.int p4), .val (.long j1), .second, .val (.int pw), .val (.int i22), .val (.long jb), .second, .val (.int ie), .val (.int ih), .unset, .unset, .unset, .unset, .unset, .unset, .unset, .unset, .unset, .unset, .unset, .unset, .unset, .unset, .unset, .unset, .unset] []))
            refine Go.step (fun t k => XS.lload X0.here hx rfl (hb hby at_78) rfl  k) ?_
            show Go p.tables e below P (s₁.setTop (mkF m 80 #[.val (.int p1), .val (.int p2), .val (.int p3), .val (.int p4), .val (.long j1), .second, .val (.int pw), .val (.int i22), .val (.long jb), .second, .val (.int ie), .val (.int ih), .unset, .unset, .unset, .unset, .unset, .unset, .unset, .unset, .unset, .unset, .unset, .unset, .unset, .unset, .unset, .unset, .unset] [(.long jb)]))
            refine Go.step (fun t k => XS.lload X0.here hx rfl (hb hby at_80) rfl  k) ?_
            show Go p.tables e below P (s₁.setTop (mkF m 82 #[.val (.int p1), .val (.int p2), .val (.int p3), .val (.int p4), .val (.long j1), .second, .val (.int pw), .val (.int i22), .val (.long jb), .second, .val (.int ie), .val (.int ih), .unset, .unset, .unset, .unset, .unset, .unset, .unset, .unset, .unset, .unset, .unset, .unset, .unset, .unset, .unset, .unset, .unset] [(.long j1), (.long jb)]))
            refine Go.step (fun t k => XS.lcmp X0.here hx rfl (hb hby at_82) rfl k) ?_
            show Go p.tables e below P (s₁.setTop (mkF m 83 #[.val (.int p1), .val (.int p2), .val (.int p3), .val (.int p4), .val (.long j1), .second, .val (.int pw), .val (.int i22), .val (.long jb), .second, .val (.int ie), .val (.int ih), .unset, .unset, .unset, .unset, .unset, .unset, .unset, .unset, .unset, .unset, .unset, .unset, .unset, .unset, .unset, .unset, .unset] [(.int (lcmpW jb j1))]))
            by_cases hc83 : jb.toInt ≤ j1.toInt
            · refine Go.step (fun t k => XS.ifYes X0.here hx rfl (pc0 := 83) (pc' := 107) rfl (hb hby at_83) rfl (lcY (cd := .le) hc83) (by decide) (by decide) k) ?_
              show Go p.tables e below P (s₁.setTop (mkF m 107 #[.val (.int p1), .val (.int p2), .val (.int p3), .val (.int p4), .val (.long j1), .second, .val (.int pw), .val (.int i22), .val (.long jb), .second, .val (.int ie), .val (.int ih), .unset, .unset, .unset, .unset, .unset, .unset, .unset, .unset, .unset, .unset, .unset, .unset, .unset, .unset, .unset, .unset, .unset] []))
              refine Go.step (fun t k => XS.iloadN X0.here hx rfl (hb hby at_107) rfl  k) ?_
              show Go p.tables e below P (s₁.setTop (mkF m 108 #[.val (.int p1), .val (.int p2), .val (.int p3), .val (.int p4), .val (.long j1), .second, .val (.int pw), .val (.int i22), .val (.long jb), .second, .val (.int ie), .val (.int ih), .unset, .unset, .unset, .unset, .unset, .unset, .unset, .unset, .unset, .unset, .unset, .unset, .unset, .unset, .unset, .unset, .unset] [(.int p3)]))
              obtain ⟨j108, hj108⟩ : ∃ z : Int64, p3.toInt64 = z := ⟨_, rfl⟩
              refine Go.step (fun t k => i2l_v X0.here hx rfl (hb hby at_108) rfl hj108 k) ?_
              show Go p.tables e below P (s₁.setTop (mkF m 109 #[.val (.int p1), .val (.int p2), .val (.int p3), .val (.int p4), .val (.long j1), .second, .val (.int pw), .val (.int i22), .val (.long jb), .second, .val (.int ie), .val (.int ih), .unset, .unset, .unset, .unset, .unset, .unset, .unset, .unset, .unset, .unset, .unset, .unset, .unset, .unset, .unset, .unset, .unset] [(.long j108)]))
              have f108 := c_i2l p3; rw [hj108] at f108
              refine Go.step (fun t k => XS.lstore X0.here hx rfl (hb hby at_109) rfl (l' := #[.val (.int p1), .val (.int p2), .val (.int p3), .val (.int p4), .val (.long j1), .second, .val (.int pw), .val (.int i22), .val (.long jb), .second, .val (.int ie), .val (.int ih), .val (.long j108), .second, .unset, .unset, .unset, .unset, .unset, .unset, .unset, .unset, .unset, .unset, .unset, .unset, .unset, .unset, .unset]) rfl k) ?_
              show Go p.tables e below P (s₁.setTop (mkF m 111 #[.val (.int p1), .val (.int p2), .val (.int p3), .val (.int p4), .val (.long j1), .second, .val (.int pw), .val (.int i22), .val (.long jb), .second, .val (.int ie), .val (.int ih), .val (.long j108), .second, .unset, .unset, .unset, .unset, .unset, .unset, .unset, .unset, .unset, .unset, .unset, .unset, .unset, .unset, .unset] []))
              exact J111 _ (by omega)
            · refine Go.step (fun t k => XS.ifNo X0.here hx rfl (hb hby at_83) rfl (lcN (cd := .le) hc83) k) ?_
              show Go p.tables e below P (s₁.setTop (mkF m 86 #[.val (.int p1), .val (.int p2), .val (.int p3), .val (.int p4), .val (.long j1), .second, .val (.int pw), .val (.int i22), .val (.long jb), .second, .val (.int ie), .val (.int ih), .unset, .unset, .unset, .unset, .unset, .unset, .unset, .unset, .unset, .unset, .unset, .unset, .unset, .unset, .unset, .unset, .unset] []))
              refine Go.step (fun t k => XS.lload X0.here hx rfl (hb hby at_86) rfl  k) ?_
              show Go p.tables e below P (s₁.setTop (mkF m 88 #[.val (.int p1), .val (.int p2), .val (.int p3), .val (.int p4), .val (.long j1), .second, .val (.int pw), .val (.int i22), .val (.long jb), .second, .val (.int ie), .val (.int ih), .unset, .unset, .unset, .unset, .unset, .unset, .unset, .unset, .unset, .unset, .unset, .unset, .unset, .unset, .unset, .unset, .unset] [(.long j1)]))
              refine Go.step (fun t k => XS.iloadN X0.here hx rfl (hb hby at_88) rfl  k) ?_
              show Go p.tables e below P (s₁.setTop (mkF m 89 #[.val (.int p1), .val (.int p2), .val (.int p3), .val (.int p4), .val (.long j1), .second, .val (.int pw), .val (.int i22), .val (.long jb), .second, .val (.int ie), .val (.int ih), .unset, .unset, .unset, .unset, .unset, .unset, .unset, .unset, .unset, .unset, .unset, .unset, .unset, .unset, .unset, .unset, .unset] [(.int p3), (.long j1)]))
              refine Go.step (fun t k => X0.ldcInt hx hown (mvT hZ (hw _ (List.mem_of_getElem? (i := 35) rfl))) (g := (mkF m 89 #[.val (.int p1), .val (.int p2), .val (.int p3), .val (.int p4), .val (.long j1), .second, .val (.int pw), .val (.int i22), .val (.long jb), .second, .val (.int ie), .val (.int ih), .unset, .unset, .unset, .unset, .unset, .unset, .unset, .unset, .unset, .unset, .unset, .unset, .unset, .unset, .unset, .unset, .unset] [(.int p3), (.long j1)])) rfl (hb hby at_89) t k) ?_
              show Go p.tables e below P (s₁.setTop (mkF m 91 #[.val (.int p1), .val (.int p2), .val (.int p3), .val (.int p4), .val (.long j1), .second, .val (.int pw), .val (.int i22), .val (.long jb), .second, .val (.int ie), .val (.int ih), .unset, .unset, .unset, .unset, .unset, .unset, .unset, .unset, .unset, .unset, .unset, .unset, .unset, .unset, .unset, .unset, .unset] [(.int (2147483647 : Int32)), (.int p3), (.long j1)]))
              obtain ⟨i91, hi91⟩ : ∃ z : Int32, p3 &&& (2147483647 : Int32) = z := ⟨_, rfl⟩
              refine Go.step (fun t k => iand_v X0.here hx rfl (hb hby at_91) rfl  hi91 k) ?_
              show Go p.tables e below P (s₁.setTop (mkF m 92 #[.val (.int p1), .val (.int p2), .val (.int p3), .val (.int p4), .val (.long j1), .second, .val (.int pw), .val (.int i22), .val (.long jb), .second, .val (.int ie), .val (.int ih), .unset, .unset, .unset, .unset, .unset, .unset, .unset, .unset, .unset, .unset, .unset, .unset, .unset, .unset, .unset, .unset, .unset] [(.int i91), (.long j1)]))
              obtain ⟨j92, hj92⟩ : ∃ z : Int64, i91.toInt64 = z := ⟨_, rfl⟩
              refine Go.step (fun t k => i2l_v X0.here hx rfl (hb hby at_92) rfl hj92 k) ?_
              show Go p.tables e below P (s₁.setTop (mkF m 93 #[.val (.int p1), .val (.int p2), .val (.int p3), .val (.int p4), .val (.long j1), .second, .val (.int pw), .val (.int i22), .val (.long jb), .second, .val (.int ie), .val (.int ih), .unset, .unset, .unset, .unset, .unset, .unset, .unset, .unset, .unset, .unset, .unset, .unset, .unset, .unset, .unset, .unset, .unset] [(.long j92), (.long j1)]))
              refine Go.step (fun t k => XS.lload X0.here hx rfl (hb hby at_93) rfl  k) ?_
              show Go p.tables e below P (s₁.setTop (mkF m 95 #[.val (.int p1), .val (.int p2), .val (.int p3), .val (.int p4), .val (.long j1), .second, .val (.int pw), .val (.int i22), .val (.long jb), .second, .val (.int ie), .val (.int ih), .unset, .unset, .unset, .unset, .unset, .unset, .unset, .unset, .unset, .unset, .unset, .unset, .unset, .unset, .unset, .unset, .unset] [(.long jb), (.long j92), (.long j1)]))
              refine Go.step (fun t k => XS.lload X0.here hx rfl (hb hby at_95) rfl  k) ?_
              show Go p.tables e below P (s₁.setTop (mkF m 97 #[.val (.int p1), .val (.int p2), .val (.int p3), .val (.int p4), .val (.long j1), .second, .val (.int pw), .val (.int i22), .val (.long jb), .second, .val (.int ie), .val (.int ih), .unset, .unset, .unset, .unset, .unset, .unset, .unset, .unset, .unset, .unset, .unset, .unset, .unset, .unset, .unset, .unset, .unset] [(.long j1), (.long jb), (.long j92), (.long j1)]))
              obtain ⟨j97, hj97⟩ : ∃ z : Int64, jb - j1 = z := ⟨_, rfl⟩
              refine Go.step (fun t k => lsub_v X0.here hx rfl (hb hby at_97) rfl  hj97 k) ?_
              show Go p.tables e below P (s₁.setTop (mkF m 98 #[.val (.int p1), .val (.int p2), .val (.int p3), .val (.int p4), .val (.long j1), .second, .val (.int pw), .val (.int i22), .val (.long jb), .second, .val (.int ie), .val (.int ih), .unset, .unset, .unset, .unset, .unset, .unset, .unset, .unset, .unset, .unset, .unset, .unset, .unset, .unset, .unset, .unset, .unset] [(.long j97), (.long j92), (.long j1)]))
              refine Go.step (fun t k => XS.lconst X0.here hx rfl (hb hby at_98) k) ?_
              show Go p.tables e below P (s₁.setTop (mkF m 99 #[.val (.int p1), .val (.int p2), .val (.int p3), .val (.int p4), .val (.long j1), .second, .val (.int pw), .val (.int i22), .val (.long jb), .second, .val (.int ie), .val (.int ih), .unset, .unset, .unset, .unset, .unset, .unset, .unset, .unset, .unset, .unset, .unset, .unset, .unset, .unset, .unset, .unset, .unset] [(.long (1 : Int64)), (.long j97), (.long j92), (.long j1)]))
              obtain ⟨j99, hj99⟩ : ∃ z : Int64, j97 + (1 : Int64) = z := ⟨_, rfl⟩
              refine Go.step (fun t k => ladd_v X0.here hx rfl (hb hby at_99) rfl  hj99 k) ?_
              show Go p.tables e below P (s₁.setTop (mkF m 100 #[.val (.int p1), .val (.int p2), .val (.int p3), .val (.int p4), .val (.long j1), .second, .val (.int pw), .val (.int i22), .val (.long jb), .second, .val (.int ie), .val (.int ih), .unset, .unset, .unset, .unset, .unset, .unset, .unset, .unset, .unset, .unset, .unset, .unset, .unset, .unset, .unset, .unset, .unset] [(.long j99), (.long j92), (.long j1)]))
              have f91 := c_mask p3 (2147483647 : Int32) 31 (by decide) rfl; rw [hi91] at f91
              have f92 := c_i2l i91; rw [hj92] at f92
              have f97 := c_lsub jb j1; rw [hj97] at f97
              have g97 := rng64 j97
              have v97 : j97.toInt = jb.toInt - j1.toInt := by omega
              have f99 := c_ladd j97 (1 : Int64); rw [hj99, e1] at f99
              have g99 := rng64 j99
              have v99 : j99.toInt = j97.toInt + 1 := by omega
              clear f97 f99
              obtain ⟨j100, hj100⟩ : ∃ z : Int64, j92 % j99 = z := ⟨_, rfl⟩
              refine Go.step (fun t k => lrem_v X0.here hx rfl (hb hby at_100) rfl (fun q => by rw [q] at v99; have e0 : (0 : Int64).toInt = 0 := rfl; omega) hj100 k) ?_
              show Go p.tables e below P (s₁.setTop (mkF m 101 #[.val (.int p1), .val (.int p2), .val (.int p3), .val (.int p4), .val (.long j1), .second, .val (.int pw), .val (.int i22), .val (.long jb), .second, .val (.int ie), .val (.int ih), .unset, .unset, .unset, .unset, .unset, .unset, .unset, .unset, .unset, .unset, .unset, .unset, .unset, .unset, .unset, .unset, .unset] [(.long j100), (.long j1)]))
              have f100 : j100.toInt = j92.toInt % j99.toInt := by rw [← hj100, Int64.toInt_mod, Int.tmod_eq_emod_of_nonneg (by omega)]
              have r1 := Int.emod_nonneg j92.toInt (show j99.toInt ≠ 0 by omega)
              have r2 := Int.emod_lt_of_pos j92.toInt (show 0 < j99.toInt by omega)
              rw [← f100] at r1 r2
              clear f100
              obtain ⟨j101, hj101⟩ : ∃ z : Int64, j1 + j100 = z := ⟨_, rfl⟩
              refine Go.step (fun t k => ladd_v X0.here hx rfl (hb hby at_101) rfl  hj101 k) ?_
              show Go p.tables e below P (s₁.setTop (mkF m 102 #[.val (.int p1), .val (.int p2), .val (.int p3), .val (.int p4), .val (.long j1), .second, .val (.int pw), .val (.int i22), .val (.long jb), .second, .val (.int ie), .val (.int ih), .unset, .unset, .unset, .unset, .unset, .unset, .unset, .unset, .unset, .unset, .unset, .unset, .unset, .unset, .unset, .unset, .unset] [(.long j101)]))
              have f101 := c_ladd j1 j100; rw [hj101] at f101
              have g101 := rng64 j101
              have v101 : j101.toInt = j1.toInt + j100.toInt := by omega
              clear f101
              refine Go.step (fun t k => XS.lstore X0.here hx rfl (hb hby at_102) rfl (l' := #[.val (.int p1), .val (.int p2), .val (.int p3), .val (.int p4), .val (.long j1), .second, .val (.int pw), .val (.int i22), .val (.long jb), .second, .val (.int ie), .val (.int ih), .val (.long j101), .second, .unset, .unset, .unset, .unset, .unset, .unset, .unset, .unset, .unset, .unset, .unset, .unset, .unset, .unset, .unset]) rfl k) ?_
              show Go p.tables e below P (s₁.setTop (mkF m 104 #[.val (.int p1), .val (.int p2), .val (.int p3), .val (.int p4), .val (.long j1), .second, .val (.int pw), .val (.int i22), .val (.long jb), .second, .val (.int ie), .val (.int ih), .val (.long j101), .second, .unset, .unset, .unset, .unset, .unset, .unset, .unset, .unset, .unset, .unset, .unset, .unset, .unset, .unset, .unset] []))
              refine Go.step (fun t k => XS.goto X0.here hx rfl (pc0 := 104) (pc' := 111) rfl (hb hby at_104) (by decide) (by decide) k) ?_
              show Go p.tables e below P (s₁.setTop (mkF m 111 #[.val (.int p1), .val (.int p2), .val (.int p3), .val (.int p4), .val (.long j1), .second, .val (.int pw), .val (.int i22), .val (.long jb), .second, .val (.int ie), .val (.int ih), .val (.long j101), .second, .unset, .unset, .unset, .unset, .unset, .unset, .unset, .unset, .unset, .unset, .unset, .unset, .unset, .unset, .unset] []))
              exact J111 _ (by omega)
        by_cases hc63 : i62.toInt = 0
        · refine Go.step (fun t k => XS.ifYes X0.here hx rfl (pc0 := 63) (pc' := 70) rfl (hb hby at_63) rfl (ifY (cd := .eq) hc63) (by decide) (by decide) k) ?_
          show Go p.tables e below P (s₁.setTop (mkF m 70 #[.val (.int p1), .val (.int p2), .val (.int p3), .val (.int p4), .val (.long j1), .second, .val (.int pw), .val (.int i22), .val (.long jb), .second, .val (.int ie), .unset, .unset, .unset, .unset, .unset, .unset, .unset, .unset, .unset, .unset, .unset, .unset, .unset, .unset, .unset, .unset, .unset, .unset] []))
          refine Go.step (fun t k => XS.iconst X0.here hx rfl (hb hby at_70) k) ?_
          show Go p.tables e below P (s₁.setTop (mkF m 71 #[.val (.int p1), .val (.int p2), .val (.int p3), .val (.int p4), .val (.long j1), .second, .val (.int pw), .val (.int i22), .val (.long jb), .second, .val (.int ie), .unset, .unset, .unset, .unset, .unset, .unset, .unset, .unset, .unset, .unset, .unset, .unset, .unset, .unset, .unset, .unset, .unset, .unset] [(.int (0 : Int32))]))
          exact J71 _ trivial
        · refine Go.step (fun t k => XS.ifNo X0.here hx rfl (hb hby at_63) rfl (ifN (cd := .eq) hc63) k) ?_
          show Go p.tables e below P (s₁.setTop (mkF m 66 #[.val (.int p1), .val (.int p2), .val (.int p3), .val (.int p4), .val (.long j1), .second, .val (.int pw), .val (.int i22), .val (.long jb), .second, .val (.int ie), .unset, .unset, .unset, .unset, .unset, .unset, .unset, .unset, .unset, .unset, .unset, .unset, .unset, .unset, .unset, .unset, .unset, .unset] []))
          refine Go.step (fun t k => XS.iconst X0.here hx rfl (hb hby at_66) k) ?_
          show Go p.tables e below P (s₁.setTop (mkF m 67 #[.val (.int p1), .val (.int p2), .val (.int p3), .val (.int p4), .val (.long j1), .second, .val (.int pw), .val (.int i22), .val (.long jb), .second, .val (.int ie), .unset, .unset, .unset, .unset, .unset, .unset, .unset, .unset, .unset, .unset, .unset, .unset, .unset, .unset, .unset, .unset, .unset, .unset] [(.int (1 : Int32))]))
          refine Go.step (fun t k => XS.goto X0.here hx rfl (pc0 := 67) (pc' := 71) rfl (hb hby at_67) (by decide) (by decide) k) ?_
          show Go p.tables e below P (s₁.setTop (mkF m 71 #[.val (.int p1), .val (.int p2), .val (.int p3), .val (.int p4), .val (.long j1), .second, .val (.int pw), .val (.int i22), .val (.long jb), .second, .val (.int ie), .unset, .unset, .unset, .unset, .unset, .unset, .unset, .unset, .unset, .unset, .unset, .unset, .unset, .unset, .unset, .unset, .unset, .unset] [(.int (1 : Int32))]))
          exact J71 _ trivial
      by_cases hc48 : i47.toInt = 0
      · refine Go.step (fun t k => XS.ifYes X0.here hx rfl (pc0 := 48) (pc' := 55) rfl (hb hby at_48) rfl (ifY (cd := .eq) hc48) (by decide) (by decide) k) ?_
        show Go p.tables e below P (s₁.setTop (mkF m 55 #[.val (.int p1), .val (.int p2), .val (.int p3), .val (.int p4), .val (.long j1), .second, .val (.int pw), .val (.int i22), .val (.long jb), .second, .unset, .unset, .unset, .unset, .unset, .unset, .unset, .unset, .unset, .unset, .unset, .unset, .unset, .unset, .unset, .unset, .unset, .unset, .unset] []))
        refine Go.step (fun t k => XS.iconst X0.here hx rfl (hb hby at_55) k) ?_
        show Go p.tables e below P (s₁.setTop (mkF m 56 #[.val (.int p1), .val (.int p2), .val (.int p3), .val (.int p4), .val (.long j1), .second, .val (.int pw), .val (.int i22), .val (.long jb), .second, .unset, .unset, .unset, .unset, .unset, .unset, .unset, .unset, .unset, .unset, .unset, .unset, .unset, .unset, .unset, .unset, .unset, .unset, .unset] [(.int (0 : Int32))]))
        exact J56 _ trivial
      · refine Go.step (fun t k => XS.ifNo X0.here hx rfl (hb hby at_48) rfl (ifN (cd := .eq) hc48) k) ?_
        show Go p.tables e below P (s₁.setTop (mkF m 51 #[.val (.int p1), .val (.int p2), .val (.int p3), .val (.int p4), .val (.long j1), .second, .val (.int pw), .val (.int i22), .val (.long jb), .second, .unset, .unset, .unset, .unset, .unset, .unset, .unset, .unset, .unset, .unset, .unset, .unset, .unset, .unset, .unset, .unset, .unset, .unset, .unset] []))
        refine Go.step (fun t k => XS.iconst X0.here hx rfl (hb hby at_51) k) ?_
        show Go p.tables e below P (s₁.setTop (mkF m 52 #[.val (.int p1), .val (.int p2), .val (.int p3), .val (.int p4), .val (.long j1), .second, .val (.int pw), .val (.int i22), .val (.long jb), .second, .unset, .unset, .unset, .unset, .unset, .unset, .unset, .unset, .unset, .unset, .unset, .unset, .unset, .unset, .unset, .unset, .unset, .unset, .unset] [(.int (1 : Int32))]))
        refine Go.step (fun t k => XS.goto X0.here hx rfl (pc0 := 52) (pc' := 56) rfl (hb hby at_52) (by decide) (by decide) k) ?_
        show Go p.tables e below P (s₁.setTop (mkF m 56 #[.val (.int p1), .val (.int p2), .val (.int p3), .val (.int p4), .val (.long j1), .second, .val (.int pw), .val (.int i22), .val (.long jb), .second, .unset, .unset, .unset, .unset, .unset, .unset, .unset, .unset, .unset, .unset, .unset, .unset, .unset, .unset, .unset, .unset, .unset, .unset, .unset] [(.int (1 : Int32))]))
        exact J56 _ trivial
    refine Go.step (fun t k => XS.iload X0.here hx rfl (hb hby at_25) rfl  k) ?_
    show Go p.tables e below P (s₁.setTop (mkF m 27 #[.val (.int p1), .val (.int p2), .val (.int p3), .val (.int p4), .val (.long j1), .second, .val (.int pw), .val (.int i22), .unset, .unset, .unset, .unset, .unset, .unset, .unset, .unset, .unset, .unset, .unset, .unset, .unset, .unset, .unset, .unset, .unset, .unset, .unset, .unset, .unset] [(.int pw)]))
    by_cases hc27 : pw.toInt = 0
    · refine Go.step (fun t k => XS.ifYes X0.here hx rfl (pc0 := 27) (pc' := 40) rfl (hb hby at_27) rfl (ifY (cd := .eq) hc27) (by decide) (by decide) k) ?_
      show Go p.tables e below P (s₁.setTop (mkF m 40 #[.val (.int p1), .val (.int p2), .val (.int p3), .val (.int p4), .val (.long j1), .second, .val (.int pw), .val (.int i22), .unset, .unset, .unset, .unset, .unset, .unset, .unset, .unset, .unset, .unset, .unset, .unset, .unset, .unset, .unset, .unset, .unset, .unset, .unset, .unset, .unset] []))
      refine Go.step (fun t k => XS.iloadN X0.here hx rfl (hb hby at_40) rfl  k) ?_
      show Go p.tables e below P (s₁.setTop (mkF m 41 #[.val (.int p1), .val (.int p2), .val (.int p3), .val (.int p4), .val (.long j1), .second, .val (.int pw), .val (.int i22), .unset, .unset, .unset, .unset, .unset, .unset, .unset, .unset, .unset, .unset, .unset, .unset, .unset, .unset, .unset, .unset, .unset, .unset, .unset, .unset, .unset] [(.int p2)]))
      obtain ⟨j41, hj41⟩ : ∃ z : Int64, p2.toInt64 = z := ⟨_, rfl⟩
      refine Go.step (fun t k => i2l_v X0.here hx rfl (hb hby at_41) rfl hj41 k) ?_
      show Go p.tables e below P (s₁.setTop (mkF m 42 #[.val (.int p1), .val (.int p2), .val (.int p3), .val (.int p4), .val (.long j1), .second, .val (.int pw), .val (.int i22), .unset, .unset, .unset, .unset, .unset, .unset, .unset, .unset, .unset, .unset, .unset, .unset, .unset, .unset, .unset, .unset, .unset, .unset, .unset, .unset, .unset] [(.long j41)]))
      have f41 := c_i2l p2; rw [hj41] at f41
      exact J42 _ ⟨by omega, by omega, fun q => absurd (by omega) q⟩
    · refine Go.step (fun t k => XS.ifNo X0.here hx rfl (hb hby at_27) rfl (ifN (cd := .eq) hc27) k) ?_
      show Go p.tables e below P (s₁.setTop (mkF m 30 #[.val (.int p1), .val (.int p2), .val (.int p3), .val (.int p4), .val (.long j1), .second, .val (.int pw), .val (.int i22), .unset, .unset, .unset, .unset, .unset, .unset, .unset, .unset, .unset, .unset, .unset, .unset, .unset, .unset, .unset, .unset, .unset, .unset, .unset, .unset, .unset] []))
      refine Go.step (fun t k => XS.lload X0.here hx rfl (hb hby at_30) rfl  k) ?_
      show Go p.tables e below P (s₁.setTop (mkF m 32 #[.val (.int p1), .val (.int p2), .val (.int p3), .val (.int p4), .val (.long j1), .second, .val (.int pw), .val (.int i22), .unset, .unset, .unset, .unset, .unset, .unset, .unset, .unset, .unset, .unset, .unset, .unset, .unset, .unset, .unset, .unset, .unset, .unset, .unset, .unset, .unset] [(.long j1)]))
      refine Go.step (fun t k => XS.lconst X0.here hx rfl (hb hby at_32) k) ?_
      show Go p.tables e below P (s₁.setTop (mkF m 33 #[.val (.int p1), .val (.int p2), .val (.int p3), .val (.int p4), .val (.long j1), .second, .val (.int pw), .val (.int i22), .unset, .unset, .unset, .unset, .unset, .unset, .unset, .unset, .unset, .unset, .unset, .unset, .unset, .unset, .unset, .unset, .unset, .unset, .unset, .unset, .unset] [(.long (1 : Int64)), (.long j1)]))
      refine Go.step (fun t k => XS.iload X0.here hx rfl (hb hby at_33) rfl  k) ?_
      show Go p.tables e below P (s₁.setTop (mkF m 35 #[.val (.int p1), .val (.int p2), .val (.int p3), .val (.int p4), .val (.long j1), .second, .val (.int pw), .val (.int i22), .unset, .unset, .unset, .unset, .unset, .unset, .unset, .unset, .unset, .unset, .unset, .unset, .unset, .unset, .unset, .unset, .unset, .unset, .unset, .unset, .unset] [(.int i22), (.long (1 : Int64)), (.long j1)]))
      obtain ⟨j35, hj35⟩ : ∃ z : Int64, ((1 : Int64) <<< (i22 &&& 0x3f).toInt64) = z := ⟨_, rfl⟩
      refine Go.step (fun t k => lshl_v X0.here hx rfl (hb hby at_35) rfl  hj35 k) ?_
      show Go p.tables e below P (s₁.setTop (mkF m 36 #[.val (.int p1), .val (.int p2), .val (.int p3), .val (.int p4), .val (.long j1), .second, .val (.int pw), .val (.int i22), .unset, .unset, .unset, .unset, .unset, .unset, .unset, .unset, .unset, .unset, .unset, .unset, .unset, .unset, .unset, .unset, .unset, .unset, .unset, .unset, .unset] [(.long j35), (.long j1)]))
      have t22 := tn32 b22.1
      have f35 := c_lshl (1 : Int64) i22 i22.toBitVec.toNat (by omega); rw [hj35, e1] at f35
      have P22 := p2le i22.toBitVec.toNat (by omega)
      have g35 := rng64 j35
      obtain ⟨PP, hPP⟩ : ∃ z : Nat, 2 ^ i22.toBitVec.toNat = z := ⟨_, rfl⟩
      rw [hPP] at f35 P22
      have v35 : j35.toInt = (PP : Int) := by omega
      clear f35
      obtain ⟨j36, hj36⟩ : ∃ z : Int64, j1 + j35 = z := ⟨_, rfl⟩
      refine Go.step (fun t k => ladd_v X0.here hx rfl (hb hby at_36) rfl  hj36 k) ?_
      show Go p.tables e below P (s₁.setTop (mkF m 37 #[.val (.int p1), .val (.int p2), .val (.int p3), .val (.int p4), .val (.long j1), .second, .val (.int pw), .val (.int i22), .unset, .unset, .unset, .unset, .unset, .unset, .unset, .unset, .unset, .unset, .unset, .unset, .unset, .unset, .unset, .unset, .unset, .unset, .unset, .unset, .unset] [(.long j36)]))
      have f36 := c_ladd j1 j35; rw [hj36] at f36
      have g36 := rng64 j36
      have v36 : j36.toInt = j1.toInt + j35.toInt := by omega
      clear f36
      refine Go.step (fun t k => XS.goto X0.here hx rfl (pc0 := 37) (pc' := 42) rfl (hb hby at_37) (by decide) (by decide) k) ?_
      show Go p.tables e below P (s₁.setTop (mkF m 42 #[.val (.int p1), .val (.int p2), .val (.int p3), .val (.int p4), .val (.long j1), .second, .val (.int pw), .val (.int i22), .unset, .unset, .unset, .unset, .unset, .unset, .unset, .unset, .unset, .unset, .unset, .unset, .unset, .unset, .unset, .unset, .unset, .unset, .unset, .unset, .unset] [(.long j36)]))
      exact J42 _ ⟨by omega, by omega, fun _ => ⟨i22.toBitVec.toNat, by omega, by rw [hPP]; omega⟩⟩
  by_cases hc7 : ¬ i6.toInt = 0
  · refine Go.step (fun t k => XS.ifYes X0.here hx rfl (pc0 := 7) (pc' := 14) rfl (hb hby at_7) rfl (ifY (cd := .ne) hc7) (by decide) (by decide) k) ?_
    show Go p.tables e below P (s₁.setTop (mkF m 14 #[.val (.int p1), .val (.int p2), .val (.int p3), .val (.int p4), .val (.long j1), .second, .unset, .unset, .unset, .unset, .unset, .unset, .unset, .unset, .unset, .unset, .unset, .unset, .unset, .unset, .unset, .unset, .unset, .unset, .unset, .unset, .unset, .unset, .unset] []))
    refine Go.step (fun t k => XS.iconst X0.here hx rfl (hb hby at_14) k) ?_
    show Go p.tables e below P (s₁.setTop (mkF m 15 #[.val (.int p1), .val (.int p2), .val (.int p3), .val (.int p4), .val (.long j1), .second, .unset, .unset, .unset, .unset, .unset, .unset, .unset, .unset, .unset, .unset, .unset, .unset, .unset, .unset, .unset, .unset, .unset, .unset, .unset, .unset, .unset, .unset, .unset] [(.int (0 : Int32))]))
    exact J15 _ trivial
  · refine Go.step (fun t k => XS.ifNo X0.here hx rfl (hb hby at_7) rfl (ifN (cd := .ne) hc7) k) ?_
    show Go p.tables e below P (s₁.setTop (mkF m 10 #[.val (.int p1), .val (.int p2), .val (.int p3), .val (.int p4), .val (.long j1), .second, .unset, .unset, .unset, .unset, .unset, .unset, .unset, .unset, .unset, .unset, .unset, .unset, .unset, .unset, .unset, .unset, .unset, .unset, .unset, .unset, .unset, .unset, .unset] []))
    refine Go.step (fun t k => XS.iconst X0.here hx rfl (hb hby at_10) k) ?_
    show Go p.tables e below P (s₁.setTop (mkF m 11 #[.val (.int p1), .val (.int p2), .val (.int p3), .val (.int p4), .val (.long j1), .second, .unset, .unset, .unset, .unset, .unset, .unset, .unset, .unset, .unset, .unset, .unset, .unset, .unset, .unset, .unset, .unset, .unset, .unset, .unset, .unset, .unset, .unset, .unset] [(.int (1 : Int32))]))
    refine Go.step (fun t k => XS.goto X0.here hx rfl (pc0 := 11) (pc' := 15) rfl (hb hby at_11) (by decide) (by decide) k) ?_
    show Go p.tables e below P (s₁.setTop (mkF m 15 #[.val (.int p1), .val (.int p2), .val (.int p3), .val (.int p4), .val (.long j1), .second, .unset, .unset, .unset, .unset, .unset, .unset, .unset, .unset, .unset, .unset, .unset, .unset, .unset, .unset, .unset, .unset, .unset, .unset, .unset, .unset, .unset, .unset, .unset] [(.int (1 : Int32))]))
    exact J15 _ trivial
set_option maxRecDepth 65536 in
set_option maxHeartbeats 40000000 in
theorem comes_1 {Post : Tables → Env → Array Value → State → Outcome → State → Prop} (hpost : ∀ tb e args s v u, (limb_1_1.after args s (.returned v) u = true ∧ limb_1_2.after args s (.returned v) u = true ∧ True) → ReturnedEndW s (.returned v) u (Jvm.fieldLocs frame_1_writes args s ++ Jvm.arrayLocs frame_1_arrays args s ++ Jvm.staticLocs frame_1_statics s) 16 1152 → Post tb e args s (.returned v) u) :
    ArmFor flags0 classFile x code maxLocals ret World_1 tables_1 room_1 Calls_1 rest_1 Pre_1 Post := by
  intro l hfl _ _ p e ha hc hk s m args below hf hA hF happ hP
  obtain ⟨hcalls, hrest, hpre⟩ := hP
  obtain ⟨-, -, -, hnamed, -, -, -, hat⟩ := (Spec.applies_iff hf).mp happ
  obtain ⟨hg, hn⟩ := and_e (Cond.before_iff.mp (show (Jvm.Cond.and given_1 narrow_1).before args s = true from hpre))
  obtain ⟨gc, hg0⟩ := and_e hg
  obtain ⟨ga0, hg1⟩ := and_e hg0
  obtain ⟨ga1, hg2⟩ := and_e hg1
  obtain ⟨ga2, hg3⟩ := and_e hg2
  have ga3 := hg3
  obtain ⟨w0, w1, w2, w3, rfl⟩ : ∃ w0 w1 w2 w3 : Value, args = #[w0, w1, w2, w3] := by
    have hs : args.size = 4 := by simpa [Cond.value, given_1] using gc
    obtain ⟨L⟩ := args
    match L, hs with
    | [w0, w1, w2, w3], _ => exact ⟨w0, w1, w2, w3, rfl⟩
  have hw := fun d (hd : d ∈ tables_1) => atoms_spec (ws := Jvm.Cond.code x code maxLocals ret :: tables_1) hat d (List.mem_cons_of_mem _ hd)
  obtain ⟨i0, ei0⟩ := is_v ga0
  obtain rfl : w0 = (.int i0) := Option.some.inj ei0
  obtain ⟨i1, ei1⟩ := is_v ga1
  obtain rfl : w1 = (.int i1) := Option.some.inj ei1
  obtain ⟨i2, ei2⟩ := is_v ga2
  obtain rfl : w2 = (.int i2) := Option.some.inj ei2
  obtain ⟨i3, ei3⟩ := is_v ga3
  obtain rfl : w3 = (.int i3) := Option.some.inj ei3
  obtain ⟨n, o, h1, h2, h3, _, L, rfl, ⟨rfl, N⟩, hq⟩ := rm0 l s _ hw tables_1 i0 i1 i2 i3 s.heap s.heap.size (Nat.le_refl _) p e ha hc hk s m _ below hf ((Spec.applies_iff_loose hf).mp happ).1 ⟨rfl, State.Warmed39.refl s, rfl⟩ trivial
  refine ⟨n, _, h1, h2, h3, hpost _ _ _ _ _ _ ⟨Cond.after_iff.mpr rfl, Cond.after_iff.mpr (eq_i res_at (Term.int_eval (1)) rfl), trivial⟩ ⟨hq.1, hq.2.1, hq.2.2.1, (hq.2.2.2.sift fun y hy => Or.inr (N y hy)).mono (by decide) (by decide)⟩⟩
theorem main_1_1 : Claimed_1_1 := comes_1 fun _ _ _ _ _ _ h hF => ⟨h.1, hF⟩
theorem main_1_2 : Claimed_1_2 := comes_1 fun _ _ _ _ _ _ h hF => ⟨h.2.1, hF⟩
end Jvm.Pilot.@@N@@
namespace Jvm.Pilot.@@N@@
open Jvm Jvm.ClassFile Sem Op Lib Jvm.Free Jvm.Stand Jvm.Pilot.@@N@@.Jvm.D
/-! MADE BY PROGRAM (witnessworld.py) out of the Statement's table words and the real class files: 16 classes; the members and pool entries that the words name. The judged class is class 1, her method 1. -/
namespace start1
open Jvm.ClassFile
def u (s : String) : CpInfo := .utf8 (stringToUtf16 s)
/-- a pool by its gaps: so many unusable entries, then the entry; so many at the end -/
def gap : Nat → List CpInfo → List CpInfo
  | 0, r => r
  | n + 1, r => .unusable :: gap n r
def poolList (es : List (Nat × CpInfo)) (last : Nat) : List CpInfo := es.foldr (fun e r => gap e.1 (e.2 :: r)) (gap last [])
def pool (es : List (Nat × CpInfo)) (last : Nat) : Array CpInfo := ⟨poolList es last⟩
def fileOf (pool : Array CpInfo) (this : Nat) (attrs : Array Attribute := #[]) (ms : Array MethodInfo := #[]) (fl : Nat := 33) (sup : Nat := 0) (ifs : Array Nat := #[]) (fds : Array FieldInfo := #[]) : ClassFile where
  minorVersion := 0
  majorVersion := 65
  constantPool := pool
  accessFlags := fl
  thisClass := this
  superClass := sup
  interfaces := ifs
  fields := fds
  methods := ms
  attributes := attrs
def plain (name : String) (sup : Option ClassId) : Class where
  name := name
  kind := .ordinary
  loader := none
  accessFlags := 33
  super := sup
  interfaces := #[]
  cf := none
  fields := #[]
  methods := #[]
  instanceTypes := #[]
  staticTypes := #[]
  resolved := #[]
  callSites := []
  init := .initialized
  statics := none
  mirror := none

def pool0 : Array CpInfo := pool [(5, u "<init>"), (0, u "()V"), (1, .class_ 10), (1, u "java/lang/Object")] 113

def k0c0 : Code := { maxStack := 0, maxLocals := 1, code := object_method_1_code, exceptionTable := #[], attributes := #[] }
def k0m0 : Method := { name := "<init>", desc := "()V", sig := { parameters := [], returnType := none }, accessFlags := 1, code := some k0c0 }
/-- java/lang/Object -/
def k0 : Class := { plain "java/lang/Object" none with
  accessFlags := 33
  interfaces := #[]
  cf := some (fileOf pool0 8 #[] #[{ accessFlags := 1, nameIndex := 5, descriptorIndex := 6, attributes := #[] }] 33 0 #[] #[])
  fields := #[]
  methods := #[k0m0]
  instanceTypes := #[]
  staticTypes := #[]
  resolved := Array.replicate 124 none
  statics := none }

def pool1 : Array CpInfo := pool [(2, .class_ 4), (1, u "java/lang/Object"), (0, u "<init>"), (0, u "()V"), (0, .integer 2147483647), (0, .double 4602678819172646912), (1, .class_ 11), (0, u "com/example/orabona/orabona/model/FuzzySet$RightShoulder"), (0, .string 13), (0, u "s"), (0, .methodref 10 15), (0, .nameAndType 5 16), (0, u "(Ljava/lang/String;DD)V"), (0, .methodref 10 18), (0, .nameAndType 19 20), (0, u "degree"), (0, u "(D)D"), (0, .double 13785518459381088256), (1, .double 4562146422526312448), (1, .class_ 26), (0, u "com/example/orabona/orabona/model/RightShoulderDegreePinLaw"), (2, u "law"), (0, u "(IIII)Z")] 7

def k1m0 : Method := { name := "<init>", desc := "()V", sig := { parameters := [], returnType := none }, accessFlags := 2, code := none }
def k1c1 : Code := { maxStack := 8, maxLocals := 29, code := code, exceptionTable := #[], attributes := #[] }
def k1m1 : Method := { name := "law", desc := "(IIII)Z", sig := { parameters := [.int, .int, .int, .int], returnType := some .boolean }, accessFlags := 9, code := some k1c1 }
/-- com/example/orabona/orabona/model/RightShoulderDegreePinLaw -/
def k1 : Class := { plain "com/example/orabona/orabona/model/RightShoulderDegreePinLaw" (some 0) with
  accessFlags := 49
  interfaces := #[]
  cf := some (fileOf pool1 25 #[] #[{ accessFlags := 2, nameIndex := 5, descriptorIndex := 6, attributes := #[] }, { accessFlags := 9, nameIndex := 29, descriptorIndex := 30, attributes := #[] }] 49 2 #[] #[])
  fields := #[]
  methods := #[k1m0, k1m1]
  instanceTypes := #[]
  staticTypes := #[]
  resolved := Array.replicate 38 none
  statics := none }

def pool2 : Array CpInfo := pool [(1, .methodref 2 3), (0, .class_ 4), (0, .nameAndType 5 6), (0, u "java/lang/Object"), (0, u "<init>"), (0, u "()V"), (0, .class_ 8), (0, u "java/lang/Record")] 13

def k2c0 : Code := { maxStack := 1, maxLocals := 1, code := jdk_30_method_1_code, exceptionTable := #[], attributes := #[] }
def k2m0 : Method := { name := "<init>", desc := "()V", sig := { parameters := [], returnType := none }, accessFlags := 4, code := some k2c0 }
/-- java/lang/Record -/
def k2 : Class := { plain "java/lang/Record" (some 0) with
  accessFlags := 1057
  interfaces := #[]
  cf := some (fileOf pool2 7 #[] #[{ accessFlags := 4, nameIndex := 5, descriptorIndex := 6, attributes := #[] }] 1057 2 #[] #[])
  fields := #[]
  methods := #[k2m0]
  instanceTypes := #[]
  staticTypes := #[]
  resolved := Array.replicate 22 none
  statics := none }

def pool3 : Array CpInfo := pool [(16, .class_ 18), (1, u "com/example/orabona/orabona/model/FuzzySet"), (27, .class_ 47), (0, u "java/lang/Object"), (20, .class_ 69), (0, u "com/example/orabona/orabona/model/FuzzySet$RightShoulder"), (0, .class_ 71), (0, u "com/example/orabona/orabona/model/FuzzySet$Triangular"), (0, .class_ 73), (0, u "com/example/orabona/orabona/model/FuzzySet$LeftShoulder"), (0, .class_ 75), (0, u "com/example/orabona/orabona/model/FuzzySet$Cut"), (0, .class_ 77), (0, u "com/example/orabona/orabona/model/FuzzySet$Visitor")] 32

/-- com/example/orabona/orabona/model/FuzzySet -/
def k3 : Class := { plain "com/example/orabona/orabona/model/FuzzySet" (some 0) with
  accessFlags := 1537
  interfaces := #[]
  cf := some (fileOf pool3 16 #[.nestMembers #[68, 70, 72, 74, 76]] #[] 1537 46 #[] #[])
  fields := #[]
  methods := #[]
  instanceTypes := #[]
  staticTypes := #[]
  resolved := Array.replicate 110 none
  statics := none }

def pool4 : Array CpInfo := pool [(1, .methodref 2 3), (0, .class_ 4), (0, .nameAndType 5 6), (0, u "java/lang/Record"), (0, u "<init>"), (0, u "()V"), (0, .fieldref 8 9), (0, .class_ 10), (0, .nameAndType 11 12), (0, u "com/example/orabona/orabona/model/FuzzySet$RightShoulder"), (0, u "name"), (0, u "Ljava/lang/String;"), (0, .fieldref 8 14), (0, .nameAndType 15 16), (0, u "a"), (0, u "D"), (0, .fieldref 8 18), (0, .nameAndType 19 16), (0, u "b"), (9, .class_ 31), (1, u "com/example/orabona/orabona/model/FuzzySet"), (29, u "(Ljava/lang/String;DD)V"), (3, u "degree"), (0, u "(D)D")] 38

def k4c0 : Code := { maxStack := 3, maxLocals := 6, code := prog_16_method_1_code, exceptionTable := #[], attributes := #[] }
def k4m0 : Method := { name := "<init>", desc := "(Ljava/lang/String;DD)V", sig := { parameters := [(.object "java/lang/String"), .double, .double], returnType := none }, accessFlags := 1, code := some k4c0 }
def k4c1 : Code := { maxStack := 6, maxLocals := 3, code := prog_16_method_2_code, exceptionTable := #[], attributes := #[] }
def k4m1 : Method := { name := "degree", desc := "(D)D", sig := { parameters := [.double], returnType := some .double }, accessFlags := 1, code := some k4c1 }
/-- com/example/orabona/orabona/model/FuzzySet$RightShoulder -/
def k4 : Class := { plain "com/example/orabona/orabona/model/FuzzySet$RightShoulder" (some 2) with
  accessFlags := 49
  interfaces := #[3]
  cf := some (fileOf pool4 8 #[.nestHost 29] #[{ accessFlags := 1, nameIndex := 5, descriptorIndex := 61, attributes := #[] }, { accessFlags := 1, nameIndex := 65, descriptorIndex := 66, attributes := #[] }] 49 2 #[29] #[{ accessFlags := 18, nameIndex := 11, descriptorIndex := 12, attributes := #[] }, { accessFlags := 18, nameIndex := 15, descriptorIndex := 16, attributes := #[] }, { accessFlags := 18, nameIndex := 19, descriptorIndex := 16, attributes := #[] }])
  fields := #[{ name := "name", type := (.object "java/lang/String"), accessFlags := 18, slot := 0, constantValue := 0 }, { name := "a", type := .double, accessFlags := 18, slot := 1, constantValue := 0 }, { name := "b", type := .double, accessFlags := 18, slot := 2, constantValue := 0 }]
  methods := #[k4m0, k4m1]
  instanceTypes := #[(.object "java/lang/String"), .double, .double]
  staticTypes := #[]
  resolved := Array.replicate 105 none
  statics := none }

def pool5 : Array CpInfo := pool [(1, .class_ 2), (0, u "java/io/Serializable"), (0, .class_ 4), (0, u "java/lang/Object")] 2

/-- java/io/Serializable -/
def k5 : Class := { plain "java/io/Serializable" (some 0) with
  accessFlags := 1537
  interfaces := #[]
  cf := some (fileOf pool5 1 #[] #[] 1537 3 #[] #[])
  fields := #[]
  methods := #[]
  instanceTypes := #[]
  staticTypes := #[]
  resolved := Array.replicate 7 none
  statics := none }

def pool6 : Array CpInfo := pool [(1, .class_ 2), (0, u "java/lang/Comparable"), (0, .class_ 4), (0, u "java/lang/Object")] 7

/-- java/lang/Comparable -/
def k6 : Class := { plain "java/lang/Comparable" (some 0) with
  accessFlags := 1537
  interfaces := #[]
  cf := some (fileOf pool6 1 #[] #[] 1537 3 #[] #[])
  fields := #[]
  methods := #[]
  instanceTypes := #[]
  staticTypes := #[]
  resolved := Array.replicate 12 none
  statics := none }

def pool7 : Array CpInfo := pool [(2, .class_ 4), (1, u "java/lang/CharSequence"), (42, .class_ 48), (0, u "java/lang/CharSequence$1CodePointIterator"), (10, .class_ 60), (0, u "java/lang/CharSequence$1CharIterator"), (5, .class_ 67), (0, u "java/lang/Object")] 63

/-- java/lang/CharSequence -/
def k7 : Class := { plain "java/lang/CharSequence" (some 0) with
  accessFlags := 1537
  interfaces := #[]
  cf := some (fileOf pool7 2 #[.nestMembers #[47, 59]] #[] 1537 66 #[] #[])
  fields := #[]
  methods := #[]
  instanceTypes := #[]
  staticTypes := #[]
  resolved := Array.replicate 131 none
  statics := none }

def pool8 : Array CpInfo := pool [(1, .class_ 2), (0, u "java/lang/constant/Constable"), (0, .class_ 4), (0, u "java/lang/Object")] 6

/-- java/lang/constant/Constable -/
def k8 : Class := { plain "java/lang/constant/Constable" (some 0) with
  accessFlags := 1537
  interfaces := #[]
  cf := some (fileOf pool8 1 #[] #[] 1537 3 #[] #[])
  fields := #[]
  methods := #[]
  instanceTypes := #[]
  staticTypes := #[]
  resolved := Array.replicate 11 none
  statics := none }

def pool9 : Array CpInfo := pool [(1, .class_ 2), (0, u "java/lang/constant/ConstantDesc"), (0, .class_ 4), (0, u "java/lang/Object")] 32

/-- java/lang/constant/ConstantDesc -/
def k9 : Class := { plain "java/lang/constant/ConstantDesc" (some 0) with
  accessFlags := 1537
  interfaces := #[]
  cf := some (fileOf pool9 1 #[] #[] 1537 3 #[] #[])
  fields := #[]
  methods := #[]
  instanceTypes := #[]
  staticTypes := #[]
  resolved := Array.replicate 37 none
  statics := none }

def pool10 : Array CpInfo := pool [(2, .class_ 4), (1, u "java/lang/Object"), (0, u "<init>"), (0, u "()V"), (3, .class_ 12), (1, u "java/lang/String"), (0, u "value"), (0, u "[B"), (2, u "coder"), (0, u "B"), (2, u "hash"), (0, u "I"), (2, u "hashIsZero"), (0, u "Z"), (13, u "COMPACT_STRINGS"), (534, .class_ 576), (0, u "java/lang/CharSequence"), (22, u "CASE_INSENSITIVE_ORDER"), (0, u "Ljava/util/Comparator;"), (500, u "serialPersistentFields"), (0, u "[Ljava/io/ObjectStreamField;"), (0, .class_ 1104), (0, u "java/lang/String$CaseInsensitiveComparator"), (1, .class_ 1107), (0, u "java/io/Serializable"), (0, .class_ 1109), (0, u "java/lang/Comparable"), (0, .class_ 1111), (0, u "java/lang/constant/Constable"), (0, .class_ 1113), (0, u "java/lang/constant/ConstantDesc"), (2, u "serialVersionUID"), (0, u "J"), (3, u "REPL"), (0, u "C"), (2, u "LATIN1"), (1, u "UTF16")] 323

def k10m0 : Method := { name := "<init>", desc := "()V", sig := { parameters := [], returnType := none }, accessFlags := 1, code := none }
/-- java/lang/String -/
def k10 : Class := { plain "java/lang/String" (some 0) with
  accessFlags := 49
  interfaces := #[5, 6, 7, 8, 9]
  cf := some (fileOf pool10 10 #[.nestMembers #[1103]] #[{ accessFlags := 1, nameIndex := 5, descriptorIndex := 6, attributes := #[] }] 49 2 #[1106, 1108, 575, 1110, 1112] #[{ accessFlags := 18, nameIndex := 13, descriptorIndex := 14, attributes := #[] }, { accessFlags := 18, nameIndex := 17, descriptorIndex := 18, attributes := #[] }, { accessFlags := 2, nameIndex := 21, descriptorIndex := 22, attributes := #[] }, { accessFlags := 2, nameIndex := 25, descriptorIndex := 26, attributes := #[] }, { accessFlags := 26, nameIndex := 1116, descriptorIndex := 1117, attributes := #[] }, { accessFlags := 24, nameIndex := 40, descriptorIndex := 26, attributes := #[] }, { accessFlags := 26, nameIndex := 1101, descriptorIndex := 1102, attributes := #[] }, { accessFlags := 26, nameIndex := 1121, descriptorIndex := 1122, attributes := #[] }, { accessFlags := 25, nameIndex := 599, descriptorIndex := 600, attributes := #[] }, { accessFlags := 24, nameIndex := 1125, descriptorIndex := 18, attributes := #[] }, { accessFlags := 24, nameIndex := 1127, descriptorIndex := 18, attributes := #[] }])
  fields := #[{ name := "value", type := (.array .byte), accessFlags := 18, slot := 0, constantValue := 0 }, { name := "coder", type := .byte, accessFlags := 18, slot := 1, constantValue := 0 }, { name := "hash", type := .int, accessFlags := 2, slot := 2, constantValue := 0 }, { name := "hashIsZero", type := .boolean, accessFlags := 2, slot := 3, constantValue := 0 }, { name := "serialVersionUID", type := .long, accessFlags := 26, slot := 0, constantValue := 0 }, { name := "COMPACT_STRINGS", type := .boolean, accessFlags := 24, slot := 1, constantValue := 0 }, { name := "serialPersistentFields", type := (.array (.object "java/io/ObjectStreamField")), accessFlags := 26, slot := 2, constantValue := 0 }, { name := "REPL", type := .char, accessFlags := 26, slot := 3, constantValue := 0 }, { name := "CASE_INSENSITIVE_ORDER", type := (.object "java/util/Comparator"), accessFlags := 25, slot := 4, constantValue := 0 }, { name := "LATIN1", type := .byte, accessFlags := 24, slot := 5, constantValue := 0 }, { name := "UTF16", type := .byte, accessFlags := 24, slot := 6, constantValue := 0 }]
  methods := #[k10m0]
  instanceTypes := #[(.array .byte), .byte, .int, .boolean]
  staticTypes := #[.long, .boolean, (.array (.object "java/io/ObjectStreamField")), .char, (.object "java/util/Comparator"), .byte, .byte]
  resolved := Array.replicate 1451 none
  statics := none }

def pool11 : Array CpInfo := pool [(1, u "java/lang/Cloneable"), (0, .class_ 1), (0, u "java/lang/Object"), (0, .class_ 3)] 3

/-- java/lang/Cloneable -/
def k11 : Class := { plain "java/lang/Cloneable" (some 0) with
  accessFlags := 1537
  interfaces := #[]
  cf := some (fileOf pool11 2 #[] #[] 1537 4 #[] #[])
  fields := #[]
  methods := #[]
  instanceTypes := #[]
  staticTypes := #[]
  resolved := Array.replicate 8 none
  statics := none }

/-- the primitive byte -/
def k12 : Class := { plain "byte" none with kind := .primitive 'B', accessFlags := 0x411 }
/-- [B -/
def k13 : Class := { plain "[B" (some 0) with kind := .array 12 .byte, interfaces := #[11, 5], accessFlags := 1041 }

/-- the primitive int -/
def k14 : Class := { plain "int" none with kind := .primitive 'I', accessFlags := 0x411 }
/-- [I -/
def k15 : Class := { plain "[I" (some 0) with kind := .array 14 .int, interfaces := #[11, 5], accessFlags := 1041 }

def heap : Heap := #[]
def classes : Array Class := #[k0, k1, k2, k3, k4, k5, k6, k7, k8, k9, k10, k11, k12, k13, k14, k15]
def interned : List (Array UInt16 × Addr) := []
def slotsUsed : Nat := 0
def theMethod : MethodId := ⟨1, 1⟩
def args0 : Array Value := #[.int 3, .int 8, .int 5, .int 7]
def aboutOver (below : List Frame) : State where
  vm := { classes := classes, interned := interned.toArray }
  heap := heap
  slotsUsed := slotsUsed
  threads := #[{ frames := .invoking theMethod args0 :: below }]
def below0 : List Frame := [.native { method := ⟨0, 0⟩, args := #[] }]
def about1 : State := aboutOver below0
def p0 : Program := .bare "" "" ""
def e0 : Env := launch0.env 0 0 0
theorem w_frames : about1.frames = Frame.invoking theMethod args0 :: below0 := rfl
set_option maxRecDepth 65536 in
theorem w_args : argsFit about1.vm theMethod args0 = true := by decide +kernel
set_option maxRecDepth 65536 in
theorem w_heap : heapFits about1 = true := by decide +kernel
set_option maxRecDepth 65536 in
theorem w_runnable : about1.curStatus? = some .runnable := by decide +kernel
set_option maxRecDepth 65536 in
theorem w_alone : about1.alone = true := by decide +kernel
set_option maxRecDepth 65536 in
theorem w_named : about1.methodNamed? x = some theMethod := by decide +kernel
set_option maxRecDepth 65536 in
theorem w_hears : about1.hears theMethod below0 = true := by decide +kernel
set_option maxRecDepth 65536 in
theorem w_ripe : about1.ripe theMethod args0 below0 = true := by decide +kernel
theorem w_running : about1.status = .running := rfl
set_option maxRecDepth 65536 in
theorem w_room : about1.hasRoom e0.platform room_1 = true :=
  launch0.hasRoom_least _ room_1 (by decide +kernel) (by decide +kernel) (by decide +kernel) (by decide +kernel) (by decide +kernel) (by decide +kernel)
theorem allAtoms_all (ts : List Jvm.Cond) (a : Array Jvm.Value) (st : Jvm.State) : (allAtoms ts).before a st = ts.all (fun c => c.before a st) := by
  induction ts with
  | nil => rfl
  | cons c t ih =>
    show (Jvm.Cond.and c (allAtoms t)).before a st = _
    rw [Jvm.Cond.before_and, ih, List.all_cons]
def words1 : List Jvm.Cond := Jvm.Cond.code x code maxLocals ret :: tables_1
/-- a 'code' word, met by the world's own term for the bytes: nothing is compared byte by byte -/
theorem code_word {y : MethodName} {bytes : ByteArray} {mx : Nat} {rt : Option FieldType} {a : Array Value} {s : State} {m : MethodId} {meth : Method} {c : Code} (h1 : s.methodNamed? y = some m) (h2 : s.vm.method? m = some meth) (h3 : meth.code = some c) (h4 : c.code = bytes)
    (h5 : (c.maxLocals == mx && c.exceptionTable.isEmpty && decide (c.maxStack ≤ mostOperands) && decide (meth.sig.returnType = rt) && !meth.locks && decide (parseMethodDescriptor y.desc = some meth.sig)) = true) : (Jvm.Cond.code y bytes mx rt).before a s = true := by
  simp only [Bool.and_eq_true, beq_iff_eq, Bool.not_eq_true', decide_eq_true_eq] at h5
  obtain ⟨⟨⟨⟨⟨g1, g2⟩, g3⟩, g4⟩, g5⟩, g6⟩ := h5
  simp [Cond.before, Cond.holds, Cond.value, h1, h2, h3, h4, g1, g2, g3, g4, g5, g6]
def isCode : Jvm.Cond → Bool
  | .code _ _ _ _ => true
  | _ => false
theorem all_split {L : List Jvm.Cond} {P : Jvm.Cond → Bool} (h1 : L.all (fun c => isCode c || P c) = true) (h2 : ∀ c ∈ L.filter isCode, P c = true) : L.all P = true := by
  refine List.all_eq_true.mpr fun c hc => ?_
  have h := List.all_eq_true.mp h1 c hc
  rcases Bool.eq_false_or_eq_true (isCode c) with hi | hi
  · exact h2 c (List.mem_filter.mpr ⟨hc, hi⟩)
  · simpa [hi] using h
set_option maxRecDepth 65536 in
theorem w_c0 : (Jvm.Cond.code x code maxLocals ret).before args0 about1 = true := code_word (m := ⟨1, 1⟩) (meth := k1m1) (c := k1c1) (by decide +kernel) rfl rfl rfl (by decide +kernel)
set_option maxRecDepth 65536 in
theorem w_c1 : (Jvm.Cond.code ({ cls := "com/example/orabona/orabona/model/FuzzySet$RightShoulder", name := "<init>", desc := "(Ljava/lang/String;DD)V" } : Jvm.MethodName) prog_16_method_1_code (6 : Nat) (Option.none : Option Jvm.ClassFile.FieldType)).before args0 about1 = true := code_word (m := ⟨4, 0⟩) (meth := k4m0) (c := k4c0) (by decide +kernel) rfl rfl rfl (by decide +kernel)
set_option maxRecDepth 65536 in
theorem w_c2 : (Jvm.Cond.code ({ cls := "java/lang/Record", name := "<init>", desc := "()V" } : Jvm.MethodName) jdk_30_method_1_code (1 : Nat) (Option.none : Option Jvm.ClassFile.FieldType)).before args0 about1 = true := code_word (m := ⟨2, 0⟩) (meth := k2m0) (c := k2c0) (by decide +kernel) rfl rfl rfl (by decide +kernel)
set_option maxRecDepth 65536 in
theorem w_c3 : (Jvm.Cond.code ({ cls := "java/lang/Object", name := "<init>", desc := "()V" } : Jvm.MethodName) object_method_1_code (1 : Nat) (Option.none : Option Jvm.ClassFile.FieldType)).before args0 about1 = true := code_word (m := ⟨0, 0⟩) (meth := k0m0) (c := k0c0) (by decide +kernel) rfl rfl rfl (by decide +kernel)
set_option maxRecDepth 65536 in
theorem w_c4 : (Jvm.Cond.code ({ cls := "com/example/orabona/orabona/model/FuzzySet$RightShoulder", name := "degree", desc := "(D)D" } : Jvm.MethodName) prog_16_method_2_code (3 : Nat) (Option.some Jvm.ClassFile.FieldType.double)).before args0 about1 = true := code_word (m := ⟨4, 1⟩) (meth := k4m1) (c := k4c1) (by decide +kernel) rfl rfl rfl (by decide +kernel)
def codes1 : List Jvm.Cond := [Jvm.Cond.code x code maxLocals ret, Jvm.Cond.code ({ cls := "com/example/orabona/orabona/model/FuzzySet$RightShoulder", name := "<init>", desc := "(Ljava/lang/String;DD)V" } : Jvm.MethodName) prog_16_method_1_code (6 : Nat) (Option.none : Option Jvm.ClassFile.FieldType), Jvm.Cond.code ({ cls := "java/lang/Record", name := "<init>", desc := "()V" } : Jvm.MethodName) jdk_30_method_1_code (1 : Nat) (Option.none : Option Jvm.ClassFile.FieldType), Jvm.Cond.code ({ cls := "java/lang/Object", name := "<init>", desc := "()V" } : Jvm.MethodName) object_method_1_code (1 : Nat) (Option.none : Option Jvm.ClassFile.FieldType), Jvm.Cond.code ({ cls := "com/example/orabona/orabona/model/FuzzySet$RightShoulder", name := "degree", desc := "(D)D" } : Jvm.MethodName) prog_16_method_2_code (3 : Nat) (Option.some Jvm.ClassFile.FieldType.double)]
set_option maxRecDepth 65536 in
theorem codes_eq : words1.filter isCode = codes1 := rfl
theorem w_codes : ∀ c ∈ words1.filter isCode, c.before args0 about1 = true := by
  rw [codes_eq]
  intro c hc
  simp only [codes1, List.mem_cons, List.not_mem_nil, or_false] at hc
  rcases hc with rfl | rfl | rfl | rfl | rfl
  · exact w_c0
  · exact w_c1
  · exact w_c2
  · exact w_c3
  · exact w_c4
set_option maxRecDepth 65536 in
theorem w_t1 : (words1.take 24).all (fun c => isCode c || c.before args0 about1) = true := by decide +kernel
set_option maxRecDepth 65536 in
theorem w_t2 : (words1.drop 24).all (fun c => isCode c || c.before args0 about1) = true := by decide +kernel
theorem w_tables : (allAtoms (Jvm.Cond.code x code maxLocals ret :: tables_1)).before args0 about1 = true := by
  rw [allAtoms_all]
  show words1.all (fun c => c.before args0 about1) = true
  refine all_split ?_ w_codes
  rw [← List.take_append_drop 24 words1, List.all_append, w_t1, w_t2]
  rfl
set_option maxRecDepth 65536 in
theorem w_case : (Jvm.Cond.and given_1 narrow_1).before args0 about1 = true := by decide +kernel
theorem w_applies : (headSpec (Jvm.Cond.code x code maxLocals ret :: tables_1) room_1).applies x e0.platform about1 = true :=
  (Spec.applies_iff w_frames).mpr ⟨w_running, w_runnable, w_alone, w_named, w_hears, w_ripe, w_room, w_tables⟩
theorem atStart : AtStart classFile x code maxLocals ret World_1 tables_1 room_1 Calls_1 rest_1 Pre_1 launch0 p0 e0 about1 theMethod args0 below0 :=
  ⟨lists_1, trivial, launch0.admits_env _ _ _, launch0.least_env, fairChoices_fair.cas, fairChoices_fair.clock, w_frames, w_args, w_heap, w_applies, trivial, trivial, w_case⟩
end start1
theorem witness_1 : WitnessClaimed_1 := ⟨start1.p0, start1.e0, start1.about1, start1.theMethod, start1.args0, start1.below0, start1.atStart⟩
end Jvm.Pilot.@@N@@
