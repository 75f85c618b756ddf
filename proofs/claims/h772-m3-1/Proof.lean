import JvmDerived
import JvmDerived.Pilot.@@N@@Statement
import JvmDerived.Pilot.@@N@@Code
set_option linter.unusedVariables false
set_option linter.unusedSimpArgs false
namespace Jvm.Pilot.@@N@@.Own
open Jvm Jvm.ClassFile Sem Op Lib Jvm.Free Jvm.Stand Jvm.LawKit Jvm.RoadKit
/-- from S the run comes to an end of which P holds -/
def Go (tb : Tables) (e : Env) (below : List Frame) (P : State → Outcome → Prop) (S : State) : Prop :=
  ∃ s₂ o, Steps tb e below S s₂ ∧ s₂.status = .running ∧ Ended s₂ below o ∧ P s₂ o
theorem Go.step {tb : Tables} {e : Env} {below : List Frame} {P : State → Outcome → Prop} {S S' : State}
    (h : ∀ t, Steps tb e below S' t → Steps tb e below S t) (g : Go tb e below P S') : Go tb e below P S := by
  obtain ⟨t, o, h1, h2⟩ := g; exact ⟨t, o, h t h1, h2⟩
theorem Go.tr {tb : Tables} {e : Env} {below : List Frame} {P : State → Outcome → Prop} {S S' : State}
    (h : Steps tb e below S S') (g : Go tb e below P S') : Go tb e below P S := by
  obtain ⟨t, o, h1, h2⟩ := g; exact ⟨t, o, h.trans h1, h2⟩
theorem Go.start {tb : Tables} {e : Env} {below : List Frame} {P₀ : State → Outcome → Prop} {S S' : State} (q : S = S')
    (h : ∀ P : State → Outcome → Prop, (∀ s₂ o, P₀ s₂ o → P s₂ o) → Go tb e below P S') : Go tb e below P₀ S := by
  subst q; exact h P₀ fun _ _ h => h
/-- a value gets a name -/
theorem nm {α : Type} (F : α → Prop) (x : α) (H : ∀ z, z = x → F z) : F x := H x rfl
section Ends
variable {p : Program} {l : Launch} {e : Env} {R : Room} {s : State} {m : MethodId} {args : Array Value} {below : List Frame} {meth : Method} {c : Code} {T : State} {locs : List Loc} {cells slots : Nat}
theorem retGo (X : Stand p l e R s m args below meth c T locs cells slots) (hx : p.tables.exec = Jvm.exec) {P : State → Outcome → Prop} {Q : Option Value → Heap → List Loc → Prop} {kc ks : Nat}
    (hP : ∀ s₂ o, (∃ v L, o = .returned v ∧ Q v s₂.heap L ∧ FrameEnd s o s₂ L kc ks) → P s₂ o) {pc : Nat} {Ls : Array Slot} {w : Value} {t : FieldType} {i : Instr} {rest : List Value} (hret : meth.sig.returnType = some t) (hlk : meth.locks = false) (hn : narrow t w = w)
    (hi : (i = .ireturn ∧ (t = .int ∨ t = .boolean ∨ t = .byte ∨ t = .char ∨ t = .short) ∧ ∃ z, w = .int z) ∨ (i = .lreturn ∧ t = .long ∧ ∃ z, w = .long z) ∨ (i = .dreturn ∧ t = .double ∧ ∃ z, w = .double z) ∨ (i = .freturn ∧ t = .float ∧ ∃ z, w = .float z) ∨ (i = .areturn ∧ t.isReference = true ∧ w.isRef = true))
    (hd : decode c.code pc = .ok (i, 1)) (hc : cells ≤ kc) (hs : slots ≤ ks) (hQ : Q (some w) T.heap locs) : Go p.tables e below P (T.setTop (mkF m pc Ls (w :: rest))) := by
  obtain ⟨fs, hr, hrun, hended, hW, hsame⟩ := X.leave (v := some w) (fun h => by rw [hret] at h; cases h) hlk
  exact ⟨_, _, retOut X hx hret hn hi hd hr, hrun, hended, hP _ _ ⟨_, _, rfl, hQ, ⟨_, rfl⟩, hW, hsame.mono hc hs⟩⟩
theorem retGoW {vm1 : Vm} (X : Stand p l e R (s.setVm vm1) m args below meth c T locs cells slots) (hx : p.tables.exec = Jvm.exec) {n1 : Nat} (hS : s.Since vm1 n1) (hn1 : n1 ≤ T.heap.size) {P : State → Outcome → Prop} {Q : Option Value → Heap → List Loc → Prop} {kc ks : Nat}
    (hP : ∀ s₂ o, (∃ v L, o = .returned v ∧ Q v s₂.heap L ∧ ReturnedEndW s o s₂ L kc ks) → P s₂ o) {pc : Nat} {Ls : Array Slot} {w : Value} {t : FieldType} {i : Instr} {rest : List Value} (hret : meth.sig.returnType = some t) (hlk : meth.locks = false) (hn : narrow t w = w)
    (hi : (i = .ireturn ∧ (t = .int ∨ t = .boolean ∨ t = .byte ∨ t = .char ∨ t = .short) ∧ ∃ z, w = .int z) ∨ (i = .lreturn ∧ t = .long ∧ ∃ z, w = .long z) ∨ (i = .dreturn ∧ t = .double ∧ ∃ z, w = .double z) ∨ (i = .freturn ∧ t = .float ∧ ∃ z, w = .float z) ∨ (i = .areturn ∧ t.isReference = true ∧ w.isRef = true))
    (hd : decode c.code pc = .ok (i, 1)) (hc : cells ≤ kc) (hs : slots ≤ ks) (hQ : Q (some w) T.heap locs) : Go p.tables e below P (T.setTop (mkF m pc Ls (w :: rest))) := by
  obtain ⟨fs, hr, hrun, hended, _, hW, hI, hsame⟩ := X.leaveW hS hn1 (v := some w) (fun h => by rw [hret] at h; cases h) hlk
  exact ⟨_, _, retOut X hx hret hn hi hd hr, hrun, hended, hP _ _ ⟨_, _, rfl, hQ, ⟨_, rfl⟩, hW, hI, hsame.mono hc hs⟩⟩
theorem voidGo (X : Stand p l e R s m args below meth c T locs cells slots) (hx : p.tables.exec = Jvm.exec) {P : State → Outcome → Prop} {Q : Option Value → Heap → List Loc → Prop} {kc ks : Nat}
    (hP : ∀ s₂ o, (∃ v L, o = .returned v ∧ Q v s₂.heap L ∧ FrameEnd s o s₂ L kc ks) → P s₂ o) {pc : Nat} {Ls : Array Slot} (hret : meth.sig.returnType = none) (hlk : meth.locks = false)
    (hd : decode c.code pc = .ok (.return_, 1)) (hc : cells ≤ kc) (hs : slots ≤ ks) (hQ : Q none T.heap locs) : Go p.tables e below P (T.setTop (mkF m pc Ls [])) := by
  obtain ⟨fs, hr, hrun, hended, hW, hsame⟩ := X.leave (v := none) (fun _ => rfl) hlk
  exact ⟨_, _, X.returnOut hx hret hd hr, hrun, hended, hP _ _ ⟨_, _, rfl, hQ, ⟨_, rfl⟩, hW, hsame.mono hc hs⟩⟩
end Ends
/-! branches: what is compared, as whole numbers -/
def rel : ClassFile.Cond → Int → Int → Prop
  | .eq, a, b => a = b
  | .ne, a, b => ¬ a = b
  | .lt, a, b => a < b
  | .ge, a, b => b ≤ a
  | .gt, a, b => b < a
  | .le, a, b => a ≤ b
theorem icY {cd : ClassFile.Cond} {x y : Int32} (h : rel cd x.toInt y.toInt) : if_icmp.holds cd x y = true := by
  cases cd <;> simp only [rel] at h <;> simp [if_icmp.holds, Int32.lt_iff_toInt_lt, Int32.le_iff_toInt_le, ← Int32.toInt_inj] <;> omega
theorem icN {cd : ClassFile.Cond} {x y : Int32} (h : ¬ rel cd x.toInt y.toInt) : if_icmp.holds cd x y = false := by
  cases cd <;> simp only [rel] at h <;> simp [if_icmp.holds, Int32.lt_iff_toInt_lt, Int32.le_iff_toInt_le, ← Int32.toInt_inj] <;> omega
theorem ifY {cd : ClassFile.Cond} {x : Int32} (h : rel cd x.toInt 0) : ifCond.holds cd x = true := (if0 cd x).trans (icY h)
theorem ifN {cd : ClassFile.Cond} {x : Int32} (h : ¬ rel cd x.toInt 0) : ifCond.holds cd x = false := (if0 cd x).trans (icN h)
theorem acY_eq {a b : Addr} (h : a = b) : if_acmp.holds .eq (some a) (some b) = true := by subst h; simp [if_acmp.holds]
theorem acN_eq {a b : Addr} (h : ¬ a = b) : if_acmp.holds .eq (some a) (some b) = false := by simp [if_acmp.holds, h]
theorem acY_ne {a b : Addr} (h : ¬ a = b) : if_acmp.holds .ne (some a) (some b) = true := by simp [if_acmp.holds, h]
theorem acN_ne {a b : Addr} (h : ¬ ¬ a = b) : if_acmp.holds .ne (some a) (some b) = false := by
  have h' : a = b := Classical.byContradiction h
  subst h'; simp [if_acmp.holds]
theorem lcmp_rel {cd : ClassFile.Cond} {x y : Int64} : rel cd (lcmpW x y).toInt 0 ↔ rel cd x.toInt y.toInt := by
  have h1 : x < y ↔ x.toInt < y.toInt := Int64.lt_iff_toInt_lt
  have h2 : y < x ↔ y.toInt < x.toInt := Int64.lt_iff_toInt_lt
  have h3 : x = y ↔ x.toInt = y.toInt := Int64.toInt_inj.symm
  have e1 : (1 : Int32).toInt = 1 := rfl
  have e2 : (-1 : Int32).toInt = -1 := rfl
  have e3 : (0 : Int32).toInt = 0 := rfl
  unfold lcmpW
  by_cases c1 : x > y
  · rw [if_pos c1, e1]; have := h2.mp c1; cases cd <;> simp only [rel] <;> omega
  · rw [if_neg c1]
    have n1 : ¬ y.toInt < x.toInt := fun q => c1 (h2.mpr q)
    by_cases c2 : x = y
    · rw [if_pos c2, e3]; have q := h3.mp c2; cases cd <;> simp only [rel] <;> first | omega | simp [q]
    · rw [if_neg c2, e2]
      have n2 : ¬ x.toInt = y.toInt := fun q => c2 (h3.mpr q)
      cases cd <;> simp only [rel] <;> omega
theorem lcY {cd : ClassFile.Cond} {x y : Int64} (h : rel cd x.toInt y.toInt) : ifCond.holds cd (lcmpW x y) = true := ifY (lcmp_rel.mpr h)
theorem lcN {cd : ClassFile.Cond} {x y : Int64} (h : ¬ rel cd x.toInt y.toInt) : ifCond.holds cd (lcmpW x y) = false := ifN fun q => h (lcmp_rel.mp q)
theorem cmpV_rel {cd : ClassFile.Cond} {op : CmpOp} {i j : Int} : rel cd (cmpValue (some (compare i j)) op).toInt 0 ↔ rel cd i j := by
  have e1 : (1 : Int32).toInt = 1 := rfl
  have e2 : (-1 : Int32).toInt = -1 := rfl
  have e3 : (0 : Int32).toInt = 0 := rfl
  cases h : compare i j with
  | lt => have := (FP.Core.compare_lt_iff i j).mp h; show rel cd (-1 : Int32).toInt 0 ↔ _; rw [e2]; cases cd <;> simp only [rel] <;> omega
  | eq => have := (FP.Core.compare_eq_iff i j).mp h; show rel cd (0 : Int32).toInt 0 ↔ _; rw [e3]; cases cd <;> simp only [rel] <;> first | omega | simp [this]
  | gt => have := (FP.Core.compare_gt_iff i j).mp h; show rel cd (1 : Int32).toInt 0 ↔ _; rw [e1]; cases cd <;> simp only [rel] <;> omega
theorem dcY {cd : ClassFile.Cond} {op : CmpOp} {r : Option Ordering} {i j : Int} (q : r = some (compare i j)) (h : rel cd i j) : ifCond.holds cd (cmpValue r op) = true := by subst q; exact ifY (cmpV_rel.mpr h)
theorem dcN {cd : ClassFile.Cond} {op : CmpOp} {r : Option Ordering} {i j : Int} (q : r = some (compare i j)) (h : ¬ rel cd i j) : ifCond.holds cd (cmpValue r op) = false := by subst q; exact ifN fun z => h (cmpV_rel.mp z)
end Jvm.Pilot.@@N@@.Own
namespace Jvm.Pilot.@@N@@.Own
open Jvm Jvm.FP Jvm.FP.Core
/-! ## doubles as whole numbers of 2^-1074: what rounding leaves -/
/-- a double's value in units of 2^-1074 -/
def zv (a : UInt64) : Int := zval b64 (val64 a)
/-- a is finite and lies between lo * 2^k and hi * 2^k units -/
def DB (k : Nat) (lo hi : Int) (a : UInt64) : Prop := DFin a ∧ lo * ((2 ^ k : Nat) : Int) ≤ zv a ∧ zv a ≤ hi * ((2 ^ k : Nat) : Int)
/-- a is finite and is i * 2^k units -/
abbrev DE (k : Nat) (i : Int) (a : UInt64) : Prop := DB k i i a
theorem DE.eq {k : Nat} {i : Int} {a : UInt64} (h : DE k i a) : zv a = i * ((2 ^ k : Nat) : Int) := Int.le_antisymm h.2.2 h.2.1
theorem DE.of {k : Nat} {i : Int} {a : UInt64} (hf : DFin a) (h : zv a = i * ((2 ^ k : Nat) : Int)) : DE k i a := ⟨hf, Int.le_of_eq h.symm, Int.le_of_eq h⟩
theorem tn32 {q : Int32} (h0 : 0 ≤ q.toInt) : (q.toBitVec.toNat : Int) = q.toInt := by
  have l := q.toBitVec.isLt
  have e : q.toInt = q.toBitVec.toInt := rfl
  rw [e] at h0 ⊢
  rw [BitVec.toInt_eq_toNat_cond] at h0 ⊢
  split at h0 <;> split <;> omega
theorem nmul {a b : Int} {A B : Nat} (ha : a.natAbs ≤ A) (hb : b.natAbs ≤ B) : (a * b).natAbs ≤ A * B := by rw [Int.natAbs_mul]; exact Nat.mul_le_mul ha hb
theorem nab {a : Int} {A : Nat} (h : -(A : Int) ≤ a ∧ a ≤ A) : a.natAbs ≤ A := by omega
theorem bmul {a b : Int} {A B : Nat} (ha : -(A : Int) ≤ a ∧ a ≤ A) (hb : -(B : Int) ≤ b ∧ b ≤ B) : -((A * B : Nat) : Int) ≤ a * b ∧ a * b ≤ ((A * B : Nat) : Int) := by
  have := nmul (nab ha) (nab hb)
  omega
theorem le_mul1 {a b : Int} (ha : 0 ≤ a) (hb : 1 ≤ b) : a ≤ a * b := by have := Int.mul_le_mul_of_nonneg_left hb ha; rwa [Int.mul_one] at this
theorem pw_pos (k : Nat) : (0 : Int) < ((2 ^ k : Nat) : Int) := Int.natCast_pos.mpr (Nat.two_pow_pos k)
theorem DB.nn {k : Nat} {lo hi : Int} {a : UInt64} (h : DB k lo hi a) : Jvm.Free.Fl.NoNaN64 a := Jvm.Free.Fl.noNaN64_no.mpr h.1.notNaN
theorem DB.ne {k : Nat} {lo hi : Int} {a : UInt64} (h : DB k lo hi a) : val64 a ≠ .nan := h.1.ne_nan
/-- a number of 53 digits is a double -/
theorem rep {n : Int} {k : Nat} (hn : n.natAbs ≤ 2 ^ 53) (hk : k ≤ 2044) : ∃ s c q, FP.Core.fits b64 (.fin s c q) ∧ zval b64 (.fin s c q) = n * ((2 ^ k : Nat) : Int) := by
  have key : ∀ (n : Int) (k : Nat), n.natAbs < 2 ^ 53 → k ≤ 2045 → ∃ s c q, FP.Core.fits b64 (.fin s c q) ∧ zval b64 (.fin s c q) = n * ((2 ^ k : Nat) : Int) := by
    intro n k hn hk
    have q1 : b64.qmin = -1074 := by decide
    have q2 : b64.qmax = 971 := by decide
    obtain ⟨c', q', h1, h2⟩ := round_exact good_b64 (decide (n < 0)) (c := n.natAbs) (q := b64.qmin + (k : Int)) (show n.natAbs < 2 ^ b64.p from hn) (by omega) (by omega)
    refine ⟨_, c', q', h1 ▸ round_fits good_b64 _, ?_⟩
    show signed (decide (n < 0)) (inUnits c' q' b64.qmin) = _
    rw [h2]
    unfold inUnits
    rw [signed_mul, show (b64.qmin + (k : Int) - b64.qmin).toNat = k by omega]
    congr 1
    unfold signed
    by_cases h : n < 0 <;> simp [h] <;> omega
  by_cases h : n.natAbs < 2 ^ 53
  · exact key n k h (by omega)
  · have e : n.natAbs = 2 ^ 53 := by omega
    have : ∃ m : Int, n = m * 2 ∧ m.natAbs < 2 ^ 53 := by
      rcases Int.natAbs_eq n with q | q
      · exact ⟨2 ^ 52, by rw [q, e]; decide, by decide⟩
      · exact ⟨-2 ^ 52, by rw [q, e]; decide, by decide⟩
    obtain ⟨m, rfl, hm⟩ := this
    obtain ⟨s, c, q, h1, h2⟩ := key m (k + 1) hm (by omega)
    refine ⟨s, c, q, h1, ?_⟩
    rw [h2, Nat.pow_succ, Int.natCast_mul, Int.mul_assoc]
    congr 1
    rw [Int.mul_comm]; rfl
/-- a number between two finite ones is finite -/
theorem fin_between {a : UInt64} {lo hi : Int} {k : Nat} (hl : lo.natAbs ≤ 2 ^ 53) (hh : hi.natAbs ≤ 2 ^ 53) (hk : k ≤ 2044) (hn : val64 a ≠ .nan) (h1 : lo * ((2 ^ k : Nat) : Int) ≤ zv a) (h2 : zv a ≤ hi * ((2 ^ k : Nat) : Int)) : DB k lo hi a := by
  refine ⟨?_, h1, h2⟩
  obtain ⟨s1, c1, q1, f1, e1⟩ := rep hl hk
  obtain ⟨s2, c2, q2, f2, e2⟩ := rep hh hk
  have t1 : zmag b64 (.fin s1 c1 q1) < b64.tails * 2 ^ (b64.exps - 2) := zmag_lt_top good_b64 f1
  have t2 : zmag b64 (.fin s2 c2 q2) < b64.tails * 2 ^ (b64.exps - 2) := zmag_lt_top good_b64 f2
  rw [← e1] at h1
  rw [← e2] at h2
  unfold zv at h1 h2
  cases hv : val64 a with
  | nan => exact absurd hv hn
  | fin s c q => exact ⟨s, c, q, hv⟩
  | inf s =>
    exfalso
    rw [hv] at h1 h2
    have z : zmag b64 (.inf s) = b64.tails * 2 ^ (b64.exps - 2) := rfl
    unfold zval at h1 h2
    rw [z] at h1 h2
    generalize b64.tails * 2 ^ (b64.exps - 2) = top at *
    generalize zmag b64 (.fin s1 c1 q1) = m1 at *
    generalize zmag b64 (.fin s2 c2 q2) = m2 at *
    simp only [sgn] at h1 h2
    cases s <;> cases s1 <;> cases s2 <;> simp only [signed, if_true, Bool.false_eq_true, if_false] at h1 h2 <;> omega
theorem qmin_sub : ((2 ^ (b64.qmin - b64.qmin).toNat : Nat) : Int) = 1 := by rw [Int.sub_self]; rfl
/-- what lies between two numbers of 53 digits is rounded to something between them -/
theorem round_between {s : Bool} {c : Nat} {q : Int} {lo hi : Int} {k : Nat} {a : UInt64} (ha : val64 a = round b64 (.fin s c q)) (hl : lo.natAbs ≤ 2 ^ 53) (hh : hi.natAbs ≤ 2 ^ 53) (hk : k ≤ 2044) {e0 : Int} (h0 : e0 ≤ b64.qmin) (h0e : e0 ≤ q)
    (h1 : lo * ((2 ^ k : Nat) : Int) * ((2 ^ (b64.qmin - e0).toNat : Nat) : Int) ≤ signed s (inUnits c q e0)) (h2 : signed s (inUnits c q e0) ≤ hi * ((2 ^ k : Nat) : Int) * ((2 ^ (b64.qmin - e0).toNat : Nat) : Int)) : DB k lo hi a := by
  obtain ⟨s1, c1, q1, f1, e1⟩ := rep hl hk
  obtain ⟨s2, c2, q2, f2, e2⟩ := rep hh hk
  have hn : val64 a ≠ .nan := by rw [ha]; exact roundRatio_ne_nan _ _ _ _ _
  refine fin_between hl hh hk hn ?_ ?_
  · unfold zv; rw [ha, ← e1]; exact zval_round_ge good_b64 f1 (by simp) h0 h0e (by rw [e1]; exact h1)
  · unfold zv; rw [ha, ← e2]; exact zval_round_le good_b64 f2 (by simp) h0 h0e (by rw [e2]; exact h2)
theorem add_b {a b : UInt64} {k : Nat} {l1 h1 l2 h2 lo hi : Int} (ha : DB k l1 h1 a) (hb : DB k l2 h2 b) (hlo : lo ≤ l1 + l2) (hhi : h1 + h2 ≤ hi) (hl : lo.natAbs ≤ 2 ^ 53) (hh : hi.natAbs ≤ 2 ^ 53) (hk : k ≤ 2044) : DB k lo hi (FP.dadd a b) := by
  obtain ⟨⟨s, c, q, va⟩, a1, a2⟩ := ha
  obtain ⟨⟨t, d, r, vb⟩, b1, b2⟩ := hb
  have hv := val64_dadd a b
  have fa := val64_fits a
  have fb := val64_fits b
  unfold zv at a1 a2 b1 b2
  rw [va] at hv fa a1 a2
  rw [vb] at hv fb b1 b2
  obtain ⟨sg, n, e, h3, h4, h5⟩ := sum_units fa fb
  rw [h3] at hv
  have hp := pw_pos k
  refine round_between hv hl hh hk (e0 := b64.qmin) (Int.le_refl _) h4 ?_ ?_
  · rw [h5, qmin_sub, Int.mul_one]
    have := Int.mul_le_mul_of_nonneg_right hlo (Int.le_of_lt hp)
    rw [Int.add_mul] at this
    omega
  · rw [h5, qmin_sub, Int.mul_one]
    have := Int.mul_le_mul_of_nonneg_right hhi (Int.le_of_lt hp)
    rw [Int.add_mul] at this
    omega
theorem zv_dneg {a : UInt64} : zv (FP.dneg a) = -zv a := by unfold zv; rw [FP.val64_dneg, zval_negate]
theorem neg_b {a : UInt64} {k : Nat} {lo hi : Int} (ha : DB k lo hi a) : DB k (-hi) (-lo) (FP.dneg a) := by
  refine ⟨?_, ?_, ?_⟩
  · obtain ⟨s, c, q, va⟩ := ha.1
    exact ⟨!s, c, q, by rw [FP.val64_dneg, va]; rfl⟩
  · rw [zv_dneg, Int.neg_mul]; have := ha.2.2; omega
  · rw [zv_dneg, Int.neg_mul]; have := ha.2.1; omega
theorem sub_b {a b : UInt64} {k : Nat} {l1 h1 l2 h2 lo hi : Int} (ha : DB k l1 h1 a) (hb : DB k l2 h2 b) (hlo : lo ≤ l1 - h2) (hhi : h1 - l2 ≤ hi) (hl : lo.natAbs ≤ 2 ^ 53) (hh : hi.natAbs ≤ 2 ^ 53) (hk : k ≤ 2044) : DB k lo hi (FP.dsub a b) := by
  have e : FP.dsub a b = FP.dadd a (FP.dneg b) := by
    rw [FP.dneg_core hb.1.notNaN]; exact dsub_eq a b
  rw [e]
  exact add_b ha (neg_b hb) (by omega) (by omega) hl hh hk
theorem pw_1074 : ((2 ^ (b64.qmin - 2 * b64.qmin).toNat : Nat) : Int) = ((2 ^ 1074 : Nat) : Int) := by
  rw [show (b64.qmin - 2 * b64.qmin).toNat = 1074 by decide]
/-- the exact product of the two lies between -/
theorem mul_z {a b : UInt64} {k : Nat} {lo hi : Int} (fa : DFin a) (fb : DFin b) (h1 : lo * ((2 ^ k : Nat) : Int) * ((2 ^ 1074 : Nat) : Int) ≤ zv a * zv b) (h2 : zv a * zv b ≤ hi * ((2 ^ k : Nat) : Int) * ((2 ^ 1074 : Nat) : Int)) (hl : lo.natAbs ≤ 2 ^ 53) (hh : hi.natAbs ≤ 2 ^ 53) (hk : k ≤ 2044) : DB k lo hi (FP.dmul a b) := by
  obtain ⟨s, c, q, va⟩ := fa
  obtain ⟨t, d, r, vb⟩ := fb
  have hv := val64_dmul a b
  have fa := val64_fits a
  have fb := val64_fits b
  unfold zv at h1 h2
  rw [va] at hv fa h1 h2
  rw [vb] at hv fb h1 h2
  obtain ⟨g1, g2, g3⟩ := product_units fa fb
  rw [g1] at hv
  have e : signed (s != t) (inUnits (c * d) (q + r) (2 * b64.qmin)) = zval b64 (.fin s c q) * zval b64 (.fin t d r) := by
    rw [g3, signed_xor]; rfl
  refine round_between hv hl hh hk (e0 := 2 * b64.qmin) (by decide) g2 ?_ ?_
  · rw [e, pw_1074]; exact h1
  · rw [e, pw_1074]; exact h2
theorem pw_add (a b : Nat) : ((2 ^ (a + b) : Nat) : Int) = ((2 ^ a : Nat) : Int) * ((2 ^ b : Nat) : Int) := by rw [Nat.pow_add, Int.natCast_mul]
theorem mul_e {a b : UInt64} {k k1 k2 : Nat} {i j n : Int} (ha : DE k1 i a) (hb : DE k2 j b) (hk : k1 + k2 = k + 1074) (hn : i * j = n) (hh : n.natAbs ≤ 2 ^ 53) (hk' : k ≤ 2044) : DE k n (FP.dmul a b) := by
  have e : zv a * zv b = n * ((2 ^ k : Nat) : Int) * ((2 ^ 1074 : Nat) : Int) := by
    rw [ha.eq, hb.eq, ← hn, Int.mul_assoc (i * j), ← pw_add, ← hk, pw_add]
    simp only [Int.mul_assoc, Int.mul_left_comm]
  exact mul_z ha.1 hb.1 (Int.le_of_eq e.symm) (Int.le_of_eq e) hh hh hk'
/-- a bounded one times a known one that isn't negative -/
theorem mul_b {a b : UInt64} {k k1 k2 : Nat} {l1 h1 j lo hi : Int} (ha : DB k1 l1 h1 a) (hb : DE k2 j b) (hj : 0 ≤ j) (hk : k1 + k2 = k + 1074) (hlo : lo ≤ l1 * j) (hhi : h1 * j ≤ hi) (hl : lo.natAbs ≤ 2 ^ 53) (hh : hi.natAbs ≤ 2 ^ 53) (hk' : k ≤ 2044) : DB k lo hi (FP.dmul a b) := by
  have p1 := pw_pos k1
  have p2 := pw_pos k2
  have hz : 0 ≤ zv b := by rw [hb.eq]; exact Int.mul_nonneg hj (Int.le_of_lt p2)
  have e : ∀ x : Int, x * j * ((2 ^ k : Nat) : Int) * ((2 ^ 1074 : Nat) : Int) = x * ((2 ^ k1 : Nat) : Int) * zv b := fun x => by
    rw [hb.eq, Int.mul_assoc (x * j), ← pw_add, ← hk, pw_add]
    simp only [Int.mul_assoc, Int.mul_left_comm]
  have up : ∀ {x y : Int}, x ≤ y → x * ((2 ^ k : Nat) : Int) * ((2 ^ 1074 : Nat) : Int) ≤ y * ((2 ^ k : Nat) : Int) * ((2 ^ 1074 : Nat) : Int) := fun h =>
    Int.mul_le_mul_of_nonneg_right (Int.mul_le_mul_of_nonneg_right h (Int.le_of_lt (pw_pos _))) (Int.le_of_lt (pw_pos _))
  refine mul_z ha.1 hb.1 ?_ ?_ hl hh hk'
  · refine Int.le_trans (up hlo) ?_
    rw [e]; exact Int.mul_le_mul_of_nonneg_right ha.2.1 hz
  · refine Int.le_trans ?_ (up hhi)
    rw [e]; exact Int.mul_le_mul_of_nonneg_right ha.2.2 hz
theorem pw3 {A B C D E : Nat} (c : Nat) (h : A + B = C + D + E) : c * 2 ^ A * 2 ^ B = c * 2 ^ C * 2 ^ D * 2 ^ E := by
  rw [Nat.mul_assoc, ← Nat.pow_add, h, Nat.pow_add, Nat.pow_add, ← Nat.mul_assoc, ← Nat.mul_assoc]
theorem ev_aux (V : Int) (n d y : Nat) : V * ((2 ^ n * d : Nat) : Int) * ((2 ^ y : Nat) : Int) = V * ((d * 2 ^ y : Nat) : Int) * ((2 ^ n : Nat) : Int) := by
  rw [Int.natCast_mul, Int.natCast_mul]
  generalize ((2 ^ n : Nat) : Int) = x
  generalize ((2 ^ y : Nat) : Int) = z
  simp only [Int.mul_assoc, Int.mul_comm, Int.mul_left_comm]
/-- the quotient, with signs -/
theorem ratio_le {s : Bool} {A B : Nat} {e e0 : Int} {V : Datum} (hB : 0 < B) (hV : FP.Core.fits b64 V) (hn : V ≠ .nan) (h0 : e0 ≤ b64.qmin) (h0e : e0 ≤ e)
    (h : signed s (inUnits A e e0) ≤ zval b64 V * ((2 ^ (b64.qmin - e0).toNat * B : Nat) : Int)) : zval b64 (roundRatio b64 s A B e) ≤ zval b64 V := by
  have hle := zmag_roundRatio_le good_b64 (s := s) (A := A) hB hV hn h0 h0e
  have hge := zmag_roundRatio_ge good_b64 (s := s) (A := A) hB hV h0 h0e
  rw [Nat.mul_assoc] at hle hge
  have hP : 0 < 2 ^ (b64.qmin - e0).toNat * B := Nat.mul_pos (Nat.two_pow_pos _) hB
  unfold zval at h ⊢
  rw [sgn_roundRatio]
  rw [← signed_mul] at h
  have hz : zmag b64 V * (2 ^ (b64.qmin - e0).toNat * B) = 0 → zmag b64 V = 0 := by
    intro h
    rcases Nat.mul_eq_zero.mp h with h | h <;> omega
  generalize zmag b64 V * (2 ^ (b64.qmin - e0).toNat * B) = vP at *
  generalize sgn V = t at *
  cases s <;> cases t <;> simp only [signed, if_true, Bool.false_eq_true, if_false] at h ⊢
  · have := hle (by omega); omega
  · have := hle (by omega); have := hz (by omega); omega
  · omega
  · have := hge (by omega); omega
theorem ratio_ge {s : Bool} {A B : Nat} {e e0 : Int} {V : Datum} (hB : 0 < B) (hV : FP.Core.fits b64 V) (hn : V ≠ .nan) (h0 : e0 ≤ b64.qmin) (h0e : e0 ≤ e)
    (h : zval b64 V * ((2 ^ (b64.qmin - e0).toNat * B : Nat) : Int) ≤ signed s (inUnits A e e0)) : zval b64 V ≤ zval b64 (roundRatio b64 s A B e) := by
  have h1 := ratio_le (s := !s) (A := A) (B := B) (e := e) (V := negate V) hB (negate_fits hV) (negate_ne_nan hn) h0 h0e (by
    rw [zval_negate, Int.neg_mul]
    have : signed (!s) (inUnits A e e0) = -signed s (inUnits A e e0) := by cases s <;> simp [signed]
    rw [this]; omega)
  rw [zval_negate, ← negate_roundRatio, zval_negate] at h1
  omega
/-- the quotient by a positive number: no NaN, and at the least, at the most, what is so when multiplied back -/
theorem div_zz {a b : UInt64} (fa : DFin a) (fb : DFin b) (hb : 0 < zv b) : val64 (FP.ddiv a b) ≠ .nan ∧
    (∀ {k : Nat} {lo : Int}, lo.natAbs ≤ 2 ^ 53 → k ≤ 2044 → lo * ((2 ^ k : Nat) : Int) * zv b ≤ zv a * ((2 ^ 1074 : Nat) : Int) → lo * ((2 ^ k : Nat) : Int) ≤ zv (FP.ddiv a b)) ∧
    (∀ {k : Nat} {hi : Int}, hi.natAbs ≤ 2 ^ 53 → k ≤ 2044 → zv a * ((2 ^ 1074 : Nat) : Int) ≤ hi * ((2 ^ k : Nat) : Int) * zv b → zv (FP.ddiv a b) ≤ hi * ((2 ^ k : Nat) : Int)) := by
  obtain ⟨s, c, q, va⟩ := fa
  obtain ⟨t, d, r, vb⟩ := fb
  have hv := val64_ddiv a b
  have fa := val64_fits a
  have fb := val64_fits b
  have zea : zv a = zval b64 (.fin s c q) := by unfold zv; rw [va]
  have zeb : zv b = zval b64 (.fin t d r) := by unfold zv; rw [vb]
  rw [zea, zeb]
  rw [zeb] at hb
  rw [va] at hv fa
  rw [vb] at hv fb
  have qn : b64.qmin = -1074 := by decide
  have qx : b64.qmax = 971 := by decide
  have fa2 := fa.2.1
  have fb2 := fb.2.1
  have fb3 := fb.2.2.1
  have zb : zval b64 (.fin t d r) = signed t (d * 2 ^ (r - b64.qmin).toNat) := rfl
  have za : zval b64 (.fin s c q) = signed s (c * 2 ^ (q - b64.qmin).toNat) := rfl
  have hd : 0 < d := by
    refine Nat.pos_of_ne_zero fun e => ?_
    rw [zb, e, Nat.zero_mul, signed_zero] at hb
    omega
  have ht : t = false := by
    cases t with
    | false => rfl
    | true => rw [zb] at hb; simp only [signed, if_true] at hb; omega
  subst ht
  have hq : quotient b64 (.fin s c q) (.fin false d r) = roundRatio b64 s c d (q - r) := by
    show (if d = 0 then _ else roundRatio b64 (s != false) c d (q - r)) = _
    rw [if_neg (by omega)]; cases s <;> rfl
  rw [hq] at hv
  have hn : val64 (Core.ddiv a b) ≠ .nan := by rw [hv]; exact roundRatio_ne_nan _ _ _ _ _
  -- both sides times 2^(r - qmin)
  have hP := pw_pos (r - b64.qmin).toNat
  have ex : signed s (inUnits c (q - r) (2 * b64.qmin)) * ((2 ^ (r - b64.qmin).toNat : Nat) : Int) = zval b64 (.fin s c q) * ((2 ^ 1074 : Nat) : Int) * ((2 ^ 1074 : Nat) : Int) := by
    rw [za, ← signed_mul, ← signed_mul, ← signed_mul]
    exact congrArg (signed s) (pw3 (A := (q - r - 2 * b64.qmin).toNat) (D := 1074) (E := 1074) c (by omega))
  have ev : ∀ V : Int, V * ((2 ^ (b64.qmin - 2 * b64.qmin).toNat * d : Nat) : Int) * ((2 ^ (r - b64.qmin).toNat : Nat) : Int) = V * zval b64 (.fin false d r) * ((2 ^ 1074 : Nat) : Int) := fun V => by
    rw [zb, show (b64.qmin - 2 * b64.qmin).toNat = 1074 by decide]
    exact ev_aux V 1074 d _
  have p1074 := pw_pos 1074
  refine ⟨hn, fun {k lo} hl hk h1 => ?_, fun {k hi} hh hk h2 => ?_⟩
  · obtain ⟨s1, c1, q1, f1, e1⟩ := rep hl hk
    unfold zv; rw [hv, ← e1]
    refine ratio_ge hd f1 (by simp) (e0 := 2 * b64.qmin) (by decide) (by omega) ?_
    refine Int.le_of_mul_le_mul_right ?_ hP
    rw [ev, ex, e1]
    exact Int.mul_le_mul_of_nonneg_right h1 (Int.le_of_lt p1074)
  · obtain ⟨s2, c2, q2, f2, e2⟩ := rep hh hk
    unfold zv; rw [hv, ← e2]
    refine ratio_le hd f2 (by simp) (e0 := 2 * b64.qmin) (by decide) (by omega) ?_
    refine Int.le_of_mul_le_mul_right ?_ hP
    rw [ev, ex, e2]
    exact Int.mul_le_mul_of_nonneg_right h2 (Int.le_of_lt p1074)
/-- between lo and hi -/
theorem div_z {a b : UInt64} {k : Nat} {lo hi : Int} (fa : DFin a) (fb : DFin b) (hb : 0 < zv b) (h1 : lo * ((2 ^ k : Nat) : Int) * zv b ≤ zv a * ((2 ^ 1074 : Nat) : Int)) (h2 : zv a * ((2 ^ 1074 : Nat) : Int) ≤ hi * ((2 ^ k : Nat) : Int) * zv b) (hl : lo.natAbs ≤ 2 ^ 53) (hh : hi.natAbs ≤ 2 ^ 53) (hk : k ≤ 2044) : DB k lo hi (FP.ddiv a b) := by
  obtain ⟨n, ge, le⟩ := div_zz fa fb hb
  exact fin_between hl hh hk n (ge hl hk h1) (le hh hk h2)
/-- the quotient of two known numbers, the second one positive -/
theorem div_b {a b : UInt64} {k k1 k2 : Nat} {i j lo hi : Int} (ha : DE k1 i a) (hb : DE k2 j b) (hj : 0 < j) (hk : k1 + 1074 = k + k2) (hlo : lo * j ≤ i) (hhi : i ≤ hi * j) (hl : lo.natAbs ≤ 2 ^ 53) (hh : hi.natAbs ≤ 2 ^ 53) (hk' : k ≤ 2044) : DB k lo hi (FP.ddiv a b) := by
  have p2 := pw_pos k2
  have e : ∀ x : Int, x * ((2 ^ k : Nat) : Int) * zv b = x * j * ((2 ^ (k1 + 1074) : Nat) : Int) := fun x => by
    rw [hb.eq, hk, pw_add]
    simp only [Int.mul_assoc, Int.mul_left_comm]
  have e2 : zv a * ((2 ^ 1074 : Nat) : Int) = i * ((2 ^ (k1 + 1074) : Nat) : Int) := by rw [ha.eq, pw_add, Int.mul_assoc]
  refine div_z ha.1 hb.1 (by rw [hb.eq]; exact Int.mul_pos hj p2) ?_ ?_ hl hh hk'
  · rw [e, e2]; exact Int.mul_le_mul_of_nonneg_right hlo (Int.le_of_lt (pw_pos _))
  · rw [e, e2]; exact Int.mul_le_mul_of_nonneg_right hhi (Int.le_of_lt (pw_pos _))
theorem div_e {a b : UInt64} {k k1 k2 : Nat} {i j n : Int} (ha : DE k1 i a) (hb : DE k2 j b) (hj : 0 < j) (hk : k1 + 1074 = k + k2) (hn : n * j = i) (hh : n.natAbs ≤ 2 ^ 53) (hk' : k ≤ 2044) : DE k n (FP.ddiv a b) :=
  div_b ha hb hj hk (Int.le_of_eq hn) (Int.le_of_eq hn.symm) hh hh hk'
theorem add_e {a b : UInt64} {k : Nat} {i j n : Int} (ha : DE k i a) (hb : DE k j b) (hn : i + j = n) (hh : n.natAbs ≤ 2 ^ 53) (hk : k ≤ 2044) : DE k n (FP.dadd a b) := add_b ha hb (Int.le_of_eq hn.symm) (Int.le_of_eq hn) hh hh hk
theorem sub_e {a b : UInt64} {k : Nat} {i j n : Int} (ha : DE k i a) (hb : DE k j b) (hn : i - j = n) (hh : n.natAbs ≤ 2 ^ 53) (hk : k ≤ 2044) : DE k n (FP.dsub a b) := sub_b ha hb (Int.le_of_eq hn.symm) (Int.le_of_eq hn) hh hh hk
theorem i2d_e (x : Int32) : DE 1074 x.toInt (FP.i2d x) := DE.of (Core.i2d_fin x) (DInt_zval (i2d_int x))
theorem l2d_e {x : Int64} (h : x.toInt.natAbs ≤ 2 ^ 53) : DE 1074 x.toInt (FP.l2d x) := DE.of (Core.l2d_fin x) (DInt_zval (l2d_int h))
theorem zero_e (k : Nat) : DE k 0 FP.dconst0 := DE.of ⟨_, _, _, rfl⟩ (by rw [Int.zero_mul]; exact zval64_zero)
/-- in smaller units -/
theorem DB.down {a : UInt64} {k : Nat} {lo hi : Int} (h : DB k lo hi a) {k' n : Nat} (hk : k = k' + n) : DB k' (lo * ((2 ^ n : Nat) : Int)) (hi * ((2 ^ n : Nat) : Int)) a := by
  subst hk
  refine ⟨h.1, ?_, ?_⟩
  · have := h.2.1; rw [Nat.add_comm, pw_add, ← Int.mul_assoc] at this; exact this
  · have := h.2.2; rw [Nat.add_comm, pw_add, ← Int.mul_assoc] at this; exact this
/-- the quotient from below alone -/
theorem div_ge {a b : UInt64} {k k1 k2 : Nat} {i j lo : Int} (ha : DE k1 i a) (hb : DE k2 j b) (hj : 0 < j) (hk : k1 + 1074 = k + k2) (hlo : lo * j ≤ i) (hl : lo.natAbs ≤ 2 ^ 53) (hk' : k ≤ 2044) : lo * ((2 ^ k : Nat) : Int) ≤ zv (FP.ddiv a b) := by
  have p2 := pw_pos k2
  have e : ∀ x : Int, x * ((2 ^ k : Nat) : Int) * zv b = x * j * ((2 ^ (k1 + 1074) : Nat) : Int) := fun x => by
    rw [hb.eq, hk, pw_add]
    simp only [Int.mul_assoc, Int.mul_left_comm]
  have e2 : zv a * ((2 ^ 1074 : Nat) : Int) = i * ((2 ^ (k1 + 1074) : Nat) : Int) := by rw [ha.eq, pw_add, Int.mul_assoc]
  refine (div_zz ha.1 hb.1 (by rw [hb.eq]; exact Int.mul_pos hj p2)).2.1 hl hk' ?_
  rw [e, e2]; exact Int.mul_le_mul_of_nonneg_right hlo (Int.le_of_lt (pw_pos _))
/-- in greater units -/
theorem DB.up {a : UInt64} {k : Nat} {lo hi : Int} {n : Nat} (h : DB k (lo * ((2 ^ n : Nat) : Int)) (hi * ((2 ^ n : Nat) : Int)) a) : DB (k + n) lo hi a := by
  refine ⟨h.1, ?_, ?_⟩
  · have := h.2.1; rw [Int.mul_assoc, ← pw_add, Nat.add_comm] at this; exact this
  · have := h.2.2; rw [Int.mul_assoc, ← pw_add, Nat.add_comm] at this; exact this
/-- the product of two known numbers, between two that lie on a grid 2^g times as coarse -/
theorem mul_g {a b : UInt64} {k k1 k2 g : Nat} {i j lo hi : Int} (ha : DE k1 i a) (hb : DE k2 j b) (hk : k1 + k2 + g = k + 1074) (hlo : lo * ((2 ^ g : Nat) : Int) ≤ i * j) (hhi : i * j ≤ hi * ((2 ^ g : Nat) : Int)) (hl : lo.natAbs ≤ 2 ^ 53) (hh : hi.natAbs ≤ 2 ^ 53) (hk' : k ≤ 2044) : DB k lo hi (FP.dmul a b) := by
  have e : zv a * zv b = i * j * ((2 ^ (k1 + k2) : Nat) : Int) := by
    rw [ha.eq, hb.eq, pw_add]
    simp only [Int.mul_assoc, Int.mul_left_comm]
  have e2 : ∀ x : Int, x * ((2 ^ k : Nat) : Int) * ((2 ^ 1074 : Nat) : Int) = x * ((2 ^ g : Nat) : Int) * ((2 ^ (k1 + k2) : Nat) : Int) := fun x => by
    rw [Int.mul_assoc, ← pw_add, ← hk, Nat.add_comm, pw_add, ← Int.mul_assoc]
  refine mul_z ha.1 hb.1 ?_ ?_ hl hh hk'
  · rw [e, e2]; exact Int.mul_le_mul_of_nonneg_right hlo (Int.le_of_lt (pw_pos _))
  · rw [e, e2]; exact Int.mul_le_mul_of_nonneg_right hhi (Int.le_of_lt (pw_pos _))
theorem DB.wide {a : UInt64} {k : Nat} {lo hi lo' hi' : Int} (h : DB k lo hi a) (h1 : lo' ≤ lo) (h2 : hi ≤ hi') : DB k lo' hi' a :=
  ⟨h.1, Int.le_trans (Int.mul_le_mul_of_nonneg_right h1 (Int.le_of_lt (pw_pos k))) h.2.1, Int.le_trans h.2.2 (Int.mul_le_mul_of_nonneg_right h2 (Int.le_of_lt (pw_pos k)))⟩
theorem DE.cmp {a b : UInt64} {k : Nat} {i j : Int} (ha : DE k i a) (hb : DE k j b) : FP.dcmp a b = some (compare i j) := by
  rw [show FP.dcmp a b = some (compare (zv a) (zv b)) from dcmp_zval ha.ne hb.ne, ha.eq, hb.eq, compare_mul_pos _ _ _ (pw_pos k)]
theorem DB.lt {a b : UInt64} {k : Nat} {l1 h1 l2 h2 : Int} (ha : DB k l1 h1 a) (hb : DB k l2 h2 b) (h : h1 < l2) : FP.dcmp a b = some .lt := by
  rw [show FP.dcmp a b = some (compare (zv a) (zv b)) from dcmp_zval ha.ne hb.ne]
  congr 1
  rw [compare_lt_iff]
  have := Int.mul_lt_mul_of_pos_right h (pw_pos k)
  have := ha.2.2; have := hb.2.1
  omega
theorem DB.gt {a b : UInt64} {k : Nat} {l1 h1 l2 h2 : Int} (ha : DB k l1 h1 a) (hb : DB k l2 h2 b) (h : h2 < l1) : FP.dcmp a b = some .gt := by
  rw [show FP.dcmp a b = some (compare (zv a) (zv b)) from dcmp_zval ha.ne hb.ne]
  congr 1
  rw [compare_gt_iff]
  have := Int.mul_lt_mul_of_pos_right h (pw_pos k)
  have := ha.2.1; have := hb.2.2
  omega
/-- two doubles of one value that isn't nought are one -/
theorem DE.uniq {a b : UInt64} {k : Nat} {i : Int} (ha : DE k i a) (hb : DE k i b) (hi : i ≠ 0) : a = b := by
  have h1 := dcmp_key ha.ne hb.ne
  rw [dcmp_zval ha.ne hb.ne] at h1
  have e : zval b64 (val64 a) = zval b64 (val64 b) := (ha.eq).trans hb.eq.symm
  have h2 := Option.some.inj h1
  rw [(compare_eq_iff _ _).mpr e] at h2
  have h3 := (compare_eq_iff _ _).mp h2.symm
  have nz : ∀ {c : UInt64}, DE k i c → dkey c ≠ 0 := fun {c} hc h0 => by
    have q := dcmp_key hc.ne (b := 0) (by rw [val64_zero]; simp)
    rw [dcmp_zval hc.ne (by rw [val64_zero]; simp), zval64_zero] at q
    have q2 := Option.some.inj q
    have z : dkey 0 = 0 := by decide
    rw [h0, z, (compare_eq_iff (0 : Int) 0).mpr rfl] at q2
    have q3 := (compare_eq_iff _ _).mp q2
    have q4 : zv c = 0 := q3
    rw [hc.eq] at q4
    rcases Int.mul_eq_zero.mp q4 with q5 | q5
    · exact hi q5
    · have := pw_pos k; omega
  have n1 := nz ha
  have n2 := nz hb
  unfold dkey at h3 n1 n2
  apply UInt64.toNat_inj.mp
  have l1 := a.toNat_lt; have l2 := b.toNat_lt
  split at h3 <;> split at h3 <;> simp_all <;> omega
end Jvm.Pilot.@@N@@.Own
namespace Jvm.Pilot.@@N@@.Own
open Jvm Jvm.ClassFile Sem Op Lib Jvm.Free Jvm.Stand Jvm.LawKit Jvm.RoadKit
theorem iand_v {tb : Tables} [Ours tb] {e : Env} {below : List Frame} {T target : State} {m : MethodId} {c : Code} {g : JFrame} (h : At T m c below) (hx : tb.exec = Jvm.exec) (hg : g.method = m) {x : Int32} {y : Int32} {v : Int32} {rest : List Value} (hd : decode c.code g.pc = .ok (.iand, 1)) (hs : g.stack = .int y :: .int x :: rest) (hv : x &&& y = v)
    (hr : Steps tb e below (T.setTop { g with pc := g.pc + 1, stack := .int v :: rest }) target) : Steps tb e below (T.setTop g) target := by subst hv; exact XS.iand h hx hg hd hs hr
theorem irem_v {tb : Tables} [Ours tb] {e : Env} {below : List Frame} {T target : State} {m : MethodId} {c : Code} {g : JFrame} (h : At T m c below) (hx : tb.exec = Jvm.exec) (hg : g.method = m) {x : Int32} {y : Int32} {v : Int32} {rest : List Value} (hd : decode c.code g.pc = .ok (.irem, 1)) (hs : g.stack = .int y :: .int x :: rest) (hy : ¬ y = 0) (hv : x % y = v)
    (hr : Steps tb e below (T.setTop { g with pc := g.pc + 1, stack := .int v :: rest }) target) : Steps tb e below (T.setTop g) target := by subst hv; exact XS.irem h hx hg hd hs hy (by rw [irem_eq_mod]; exact hr)
end Jvm.Pilot.@@N@@.Own
namespace Jvm.Pilot.@@N@@.Own
open Jvm Jvm.ClassFile Jvm.RoadKit
theorem Sta_keep0 {Z : State} {h h' : Heap} {C n d : String} {v : Value} (F : Sta Z h C n d v) (K : Keep h h' []) : Sta Z h' C n d v := by
  obtain ⟨cf, i, k, f, st, cell, h1, h2, h3, h4, h5, r⟩ := F
  exact ⟨cf, i, k, f, st, cell, h1, h2, h3, h4, K.2.1 st cell h5 (by simp), r⟩
open Jvm.FP in
theorem one_e : DE 1074 1 FP.dconst1 := DE.of ⟨_, _, _, rfl⟩ (by decide +kernel)
open Jvm.FP in
theorem two_e : DE 1074 2 (4611686018427387904 : UInt64) := DE.of ⟨_, _, _, rfl⟩ (by decide +kernel)
theorem ord_ne {s : State} {a b : Addr} {C n d : String} {x y : Int32} (h1 : s.fieldOf? a C n d = some (.int x)) (h2 : s.fieldOf? b C n d = some (.int y)) (h : x ≠ y) : a ≠ b := fun q => by
  rw [q, h2] at h1
  injection h1 with u
  injection u with u
  exact h u.symm
end Jvm.Pilot.@@N@@.Own
namespace Jvm.Pilot.@@N@@
open Jvm Jvm.ClassFile Sem Op Lib Jvm.Free Jvm.Stand Jvm.LawKit Jvm.RoadKit Bundle Jvm.Pilot.@@N@@.Jvm.D Jvm.Pilot.@@N@@.Own
theorem pd_0 : parseMethodDescriptor "()I" = some ⟨[], some .int⟩ := by decide +kernel
theorem pd_1 : parseMethodDescriptor "()Z" = some ⟨[], some .boolean⟩ := by decide +kernel
theorem pd_2 : parseMethodDescriptor "(DD)Z" = some ⟨[.double, .double], some .boolean⟩ := by decide +kernel
theorem d1_0 : decode jdk_37_method_2_code 0 = .ok (.aload_n 0, 1) := by decide +kernel
theorem d1_1 : decode jdk_37_method_2_code 1 = .ok (.getfield 7, 3) := by decide +kernel
theorem d1_4 : decode jdk_37_method_2_code 4 = .ok (.ireturn, 1) := by decide +kernel
theorem pn_1 : plainName "java/lang/Enum" = true := by first | (simp [plainName, overriddenIn]; done) | decide +kernel
theorem ef_1 (m : MethodId) (x0 : Addr) : entryFrame m #[(.ref x0)] 1 = mkF m 0 #[.val (.ref x0)] [] := by first | (simp [entryFrame, mkF, argsToLocals, Value.category]; done) | rfl
def Q1 (Z : State) (a : Addr) (od : Int32) (h0 : Heap) (n0 : Nat) (v : Option Value) (h : Heap) (L : List Loc) : Prop := v = some (.int od) ∧ Fr n0 L ∧ h = h0
set_option maxRecDepth 65536 in
set_option maxHeartbeats 40000000 in
theorem rm1 (l : Launch) (Z : State) (a0 : Array Value) (hw : ∀ d ∈ tables_1, d.before a0 Z = true) (ws : List Jvm.Cond) (a : Addr) (od : Int32) (h0 : Heap) (n0 : Nat) (Z0 : n0 ≤ h0.size) (F0 : Fld Z h0 a "java/lang/Enum" "ordinal" "I" (.int od)) :
    MetFree l (⟨"java/lang/Enum", "ordinal", "()I"⟩ : MethodName) (head1 (Jvm.Cond.code (⟨"java/lang/Enum", "ordinal", "()I"⟩ : MethodName) jdk_37_method_2_code 1 (some .int) :: ws) ({ frames := 0, cells := 0, slots := 0, locals := 0 } : Room)) (fun a_ U => a_ = #[(.ref a)] ∧ Z.Warmed39 U.vm ∧ U.heap = h0) (fun _ _ _ _ _ => True) (fun _ U o U' => ∃ v L, o = .returned v ∧ Q1 Z a od h0 n0 v U'.heap L ∧ FrameEnd U o U' L (({ frames := 0, cells := 0, slots := 0, locals := 0 } : Room)).cells (({ frames := 0, cells := 0, slots := 0, locals := 0 } : Room)).slots) := by
  refine MetFree.of_bodySF (plainFor_of_name pn_1) hisR ?_
  intro p e s m args below meth c s₁ Bd hml0 hP0 hK
  obtain ⟨rfl, hZ, hh⟩ := hP0
  have hx := Bd.exec
  have hby := Bd.bytes
  have hml : c.maxLocals = 1 := hml0
  have hown : s.vm.findClass "java/lang/Enum" = some m.cls := findClass_of_methodNamed Bd.named
  have hnm := (name_of_methodNamed Bd.named Bd.method).1
  have X0 : Stand p l e ({ frames := 0, cells := 0, slots := 0, locals := 0 } : Room) s m #[(.ref a)] below meth c s₁ [] 0 0 := Stand.of_body Bd
  have e0 : s₁.heap = h0 := by rw [← hh, Bd.state]; rfl
  have N0 := Fr.nil n0
  have hlk : meth.locks = false := BodyLoose.notSynchronized Bd
  refine Go.start (P₀ := fun s₂ o => ∃ v L, o = .returned v ∧ Q1 Z a od h0 n0 v s₂.heap L ∧ FrameEnd s o s₂ L (({ frames := 0, cells := 0, slots := 0, locals := 0 } : Room)).cells (({ frames := 0, cells := 0, slots := 0, locals := 0 } : Room)).slots) (congrArg s₁.setTop (ef_1 m a)) ?_
  intro P hP
  show Go p.tables e below P (s₁.setTop (mkF m 0 #[.val (.ref a)] []))
  refine Go.step (fun t k => XS.aloadN X0.here hx rfl (hb hby d1_0) rfl rfl k) ?_
  show Go p.tables e below P (s₁.setTop (mkF m 1 #[.val (.ref a)] [(.ref a)]))
  obtain ⟨T_1, X_1, e_1, st_1⟩ := getF X0 hx hZ hown (host := "") (Or.inl (hw _ (List.mem_of_getElem? (i := 36) rfl))) Via.refl e0 F0 (g := (mkF m 1 #[.val (.ref a)] [(.ref a)])) rfl rfl (hb hby d1_1)
  refine Go.step (fun t k => st_1 t k) ?_
  show Go p.tables e below P (T_1.setTop (mkF m 4 #[.val (.ref a)] [(.int od)]))
  exact retGo X_1 hx hP Bd.returns hlk rfl (Or.inl ⟨rfl, Or.inl rfl, _, rfl⟩) (hb hby d1_4) (by decide) (by decide) (by rw [e_1]; exact ⟨rfl, N0, rfl⟩)
theorem d10_0 : decode prog_1_method_6_code 0 = .ok (.aload_n 0, 1) := by decide +kernel
theorem d10_1 : decode prog_1_method_6_code 1 = .ok (.invokevirtual 45, 3) := by decide +kernel
theorem d10_4 : decode prog_1_method_6_code 4 = .ok (.tableswitch 40 0 5 #[50, 64, 78, 92, 106, 120], 40) := by decide +kernel
theorem d10_54 : decode prog_1_method_6_code 54 = .ok (.dload_n 1, 1) := by decide +kernel
theorem d10_55 : decode prog_1_method_6_code 55 = .ok (.dload_n 3, 1) := by decide +kernel
theorem d10_56 : decode prog_1_method_6_code 56 = .ok (.dcmp .l, 1) := by decide +kernel
theorem d10_57 : decode prog_1_method_6_code 57 = .ok (.ifCond .ne 7, 3) := by decide +kernel
theorem d10_60 : decode prog_1_method_6_code 60 = .ok (.iconst 1, 1) := by decide +kernel
theorem d10_61 : decode prog_1_method_6_code 61 = .ok (.goto 74, 3) := by decide +kernel
theorem d10_64 : decode prog_1_method_6_code 64 = .ok (.iconst 0, 1) := by decide +kernel
theorem d10_65 : decode prog_1_method_6_code 65 = .ok (.goto 70, 3) := by decide +kernel
theorem d10_135 : decode prog_1_method_6_code 135 = .ok (.ireturn, 1) := by decide +kernel
theorem pn_10 : plainName "com/example/geofence/geofence/Comparison" = true := by first | (simp [plainName, overriddenIn]; done) | decide +kernel
theorem ef_10 (m : MethodId) (x0 : Addr) (x1 : UInt64) (x2 : UInt64) : entryFrame m #[(.ref x0), (.double x1), (.double x2)] 5 = mkF m 0 #[.val (.ref x0), .val (.double x1), .second, .val (.double x2), .second] [] := by first | (simp [entryFrame, mkF, argsToLocals, Value.category]; done) | rfl
def Q10 (Z : State) (a : Addr) (xd : UInt64) (yd : UInt64) (ix : Int) (iy : Int) (h0 : Heap) (n0 : Nat) (v : Option Value) (h : Heap) (L : List Loc) : Prop := ∃ r : Int32, v = some (.int r) ∧ ((ix = iy ∧ r.toInt = 1) ∨ (¬ (ix = iy) ∧ r.toInt = 0)) ∧ Fr n0 L ∧ h = h0
set_option maxRecDepth 65536 in
set_option maxHeartbeats 40000000 in
theorem holds0 (l : Launch) (Z : State) (a0 : Array Value) (hw : ∀ d ∈ tables_1, d.before a0 Z = true) (ws : List Jvm.Cond) (a : Addr) (xd : UInt64) (yd : UInt64) (ix : Int) (iy : Int) (h0 : Heap) (n0 : Nat) (Z0 : n0 ≤ h0.size) (E_a : Exa Z h0 a "com/example/geofence/geofence/Comparison") (F0 : Fld Z h0 a "java/lang/Enum" "ordinal" "I" (.int (0 : Int32))) (qx : DE 1074 ix xd) (qy : DE 1074 iy yd) :
    MetFree l (⟨"com/example/geofence/geofence/Comparison", "holds", "(DD)Z"⟩ : MethodName) (head1 (Jvm.Cond.code (⟨"com/example/geofence/geofence/Comparison", "holds", "(DD)Z"⟩ : MethodName) prog_1_method_6_code 5 (some .boolean) :: ws) ({ frames := 1, cells := 0, slots := 0, locals := 12 } : Room)) (fun a_ U => a_ = #[(.ref a), (.double xd), (.double yd)] ∧ Z.Warmed39 U.vm ∧ U.heap = h0) (fun _ _ _ _ _ => True) (fun _ U o U' => ∃ v L, o = .returned v ∧ Q10 Z a xd yd ix iy h0 n0 v U'.heap L ∧ FrameEnd U o U' L (({ frames := 1, cells := 0, slots := 0, locals := 12 } : Room)).cells (({ frames := 1, cells := 0, slots := 0, locals := 12 } : Room)).slots) := by
  refine MetFree.of_bodySF (plainFor_of_name pn_10) hisR ?_
  intro p e s m args below meth c s₁ Bd hml0 hP0 hK
  obtain ⟨rfl, hZ, hh⟩ := hP0
  have hx := Bd.exec
  have hby := Bd.bytes
  have hml : c.maxLocals = 5 := hml0
  have hown : s.vm.findClass "com/example/geofence/geofence/Comparison" = some m.cls := findClass_of_methodNamed Bd.named
  have hnm := (name_of_methodNamed Bd.named Bd.method).1
  have X0 : Stand p l e ({ frames := 1, cells := 0, slots := 0, locals := 12 } : Room) s m #[(.ref a), (.double xd), (.double yd)] below meth c s₁ [] 0 0 := Stand.of_body Bd
  have e0 : s₁.heap = h0 := by rw [← hh, Bd.state]; rfl
  have N0 := Fr.nil n0
  have hlk : meth.locks = false := BodyLoose.notSynchronized Bd
  refine Go.start (P₀ := fun s₂ o => ∃ v L, o = .returned v ∧ Q10 Z a xd yd ix iy h0 n0 v s₂.heap L ∧ FrameEnd s o s₂ L (({ frames := 1, cells := 0, slots := 0, locals := 12 } : Room)).cells (({ frames := 1, cells := 0, slots := 0, locals := 12 } : Room)).slots) (congrArg s₁.setTop (ef_10 m a xd yd)) ?_
  intro P hP
  show Go p.tables e below P (s₁.setTop (mkF m 0 #[.val (.ref a), .val (.double xd), .second, .val (.double yd), .second] []))
  refine Go.step (fun t k => XS.aloadN X0.here hx rfl (hb hby d10_0) rfl rfl k) ?_
  show Go p.tables e below P (s₁.setTop (mkF m 1 #[.val (.ref a), .val (.double xd), .second, .val (.double yd), .second] [(.ref a)]))
  obtain ⟨cq_1, kq_1, q_1a, q_1b, q_1c⟩ := isOf hZ e0 E_a
  obtain ⟨_, _, ⟨T_1, L_1, k_1, n_1⟩, -, X_1, ⟨Lc_1, hQ_1, l_1, y_1, z_1⟩, st_1⟩ := X0.virtualBackUp hx (x := (⟨"com/example/geofence/geofence/Comparison", "ordinal", "()I"⟩ : MethodName)) (y := (⟨"java/lang/Enum", "ordinal", "()I"⟩ : MethodName)) (owner := "java/lang/Enum") hown (mvT hZ (hw _ (List.mem_of_getElem? (i := 29) rfl))) (mvT hZ (hw _ (List.mem_of_getElem? (i := 30) rfl))) (mvT hZ (hw _ (List.mem_of_getElem? (i := 31) rfl))) (by decide) (mvT hZ (hw _ (List.mem_of_getElem? (i := 33) rfl))) (mvT hZ (hw _ (List.mem_of_getElem? (i := 32) rfl))) (backOf (W := 0) (rm1 l Z a0 hw [] a (0 : Int32) h0 n0 Z0 F0) hZ (hw _ (List.mem_of_getElem? (i := 35) rfl)) (hw _ (List.mem_of_getElem? (i := 34) rfl)) (by decide) (by decide)) q_1a q_1c (g := (mkF m 1 #[.val (.ref a), .val (.double xd), .second, .val (.double yd), .second] [(.ref a)])) rfl (by rw [hml]; rfl) (Steps.refl _) (argsL := []) (rest := []) (lenOf pd_0 rfl) rfl (by show 2 * 0 + _ ≤ _; exact Nat.le_of_eq rfl) (hb hby d10_1) (fun _ _ => ⟨rfl, e0, (by decide : 0 + 0 ≤ _), (by decide : 0 + 0 ≤ _)⟩)
  dsimp only [Pt.U, Pt.locs, Pt.cells, Pt.slots] at X_1 l_1 y_1 z_1 st_1 hQ_1
  subst l_1 y_1 z_1
  obtain ⟨rfl, N_1q, eh_1⟩ := hQ_1
  have N_1 := Fr.app N0 N_1q
  refine Go.tr st_1 ?_
  show Go p.tables e below P (T_1.setTop (mkF m 4 #[.val (.ref a), .val (.double xd), .second, .val (.double yd), .second] [(.int (0 : Int32))]))
  refine Go.step (fun t k => XS.tswIn X_1.here hx rfl (pc0 := 4) (pc' := 54) (o := 50) rfl (hb hby d10_4) rfl (by decide) (by decide) (by decide) (by decide) k) ?_
  show Go p.tables e below P (T_1.setTop (mkF m 54 #[.val (.ref a), .val (.double xd), .second, .val (.double yd), .second] []))
  refine Go.step (fun t k => XS.dloadN X_1.here hx rfl (hb hby d10_54) rfl  k) ?_
  show Go p.tables e below P (T_1.setTop (mkF m 55 #[.val (.ref a), .val (.double xd), .second, .val (.double yd), .second] [(.double xd)]))
  refine Go.step (fun t k => XS.dloadN X_1.here hx rfl (hb hby d10_55) rfl  k) ?_
  show Go p.tables e below P (T_1.setTop (mkF m 56 #[.val (.ref a), .val (.double xd), .second, .val (.double yd), .second] [(.double yd), (.double xd)]))
  refine Go.step (fun t k => XS.dcmpS X_1.here hx rfl (hb hby d10_56) rfl rfl k) ?_
  show Go p.tables e below P (T_1.setTop (mkF m 57 #[.val (.ref a), .val (.double xd), .second, .val (.double yd), .second] [(.int (cmpValue (FP.dcmp xd yd) .l))]))
  by_cases hc57 : ¬ ix = iy
  · refine Go.step (fun t k => XS.ifYes X_1.here hx rfl (pc0 := 57) (pc' := 64) rfl (hb hby d10_57) rfl (dcY (cd := .ne) (DE.cmp qx qy) hc57) (by decide) (by decide) k) ?_
    show Go p.tables e below P (T_1.setTop (mkF m 64 #[.val (.ref a), .val (.double xd), .second, .val (.double yd), .second] []))
    refine Go.step (fun t k => XS.iconst X_1.here hx rfl (hb hby d10_64) k) ?_
    show Go p.tables e below P (T_1.setTop (mkF m 65 #[.val (.ref a), .val (.double xd), .second, .val (.double yd), .second] [(.int (0 : Int32))]))
    refine Go.step (fun t k => XS.goto X_1.here hx rfl (pc0 := 65) (pc' := 135) rfl (hb hby d10_65) (by decide) (by decide) k) ?_
    show Go p.tables e below P (T_1.setTop (mkF m 135 #[.val (.ref a), .val (.double xd), .second, .val (.double yd), .second] [(.int (0 : Int32))]))
    exact retGo X_1 hx hP Bd.returns hlk rfl (Or.inl ⟨rfl, Or.inr (Or.inl rfl), _, rfl⟩) (hb hby d10_135) (by decide) (by decide) (by rw [eh_1]; exact ⟨0, rfl, Or.inr ⟨by omega, rfl⟩, N_1, rfl⟩)
  · refine Go.step (fun t k => XS.ifNo X_1.here hx rfl (hb hby d10_57) rfl (dcN (cd := .ne) (DE.cmp qx qy) hc57) k) ?_
    show Go p.tables e below P (T_1.setTop (mkF m 60 #[.val (.ref a), .val (.double xd), .second, .val (.double yd), .second] []))
    refine Go.step (fun t k => XS.iconst X_1.here hx rfl (hb hby d10_60) k) ?_
    show Go p.tables e below P (T_1.setTop (mkF m 61 #[.val (.ref a), .val (.double xd), .second, .val (.double yd), .second] [(.int (1 : Int32))]))
    refine Go.step (fun t k => XS.goto X_1.here hx rfl (pc0 := 61) (pc' := 135) rfl (hb hby d10_61) (by decide) (by decide) k) ?_
    show Go p.tables e below P (T_1.setTop (mkF m 135 #[.val (.ref a), .val (.double xd), .second, .val (.double yd), .second] [(.int (1 : Int32))]))
    exact retGo X_1 hx hP Bd.returns hlk rfl (Or.inl ⟨rfl, Or.inr (Or.inl rfl), _, rfl⟩) (hb hby d10_135) (by decide) (by decide) (by rw [eh_1]; exact ⟨1, rfl, Or.inl ⟨by omega, rfl⟩, N_1, rfl⟩)
theorem d11_0 : decode prog_1_method_6_code 0 = .ok (.aload_n 0, 1) := by decide +kernel
theorem d11_1 : decode prog_1_method_6_code 1 = .ok (.invokevirtual 45, 3) := by decide +kernel
theorem d11_4 : decode prog_1_method_6_code 4 = .ok (.tableswitch 40 0 5 #[50, 64, 78, 92, 106, 120], 40) := by decide +kernel
theorem d11_68 : decode prog_1_method_6_code 68 = .ok (.dload_n 1, 1) := by decide +kernel
theorem d11_69 : decode prog_1_method_6_code 69 = .ok (.dload_n 3, 1) := by decide +kernel
theorem d11_70 : decode prog_1_method_6_code 70 = .ok (.dcmp .l, 1) := by decide +kernel
theorem d11_71 : decode prog_1_method_6_code 71 = .ok (.ifCond .eq 7, 3) := by decide +kernel
theorem d11_74 : decode prog_1_method_6_code 74 = .ok (.iconst 1, 1) := by decide +kernel
theorem d11_75 : decode prog_1_method_6_code 75 = .ok (.goto 60, 3) := by decide +kernel
theorem d11_78 : decode prog_1_method_6_code 78 = .ok (.iconst 0, 1) := by decide +kernel
theorem d11_79 : decode prog_1_method_6_code 79 = .ok (.goto 56, 3) := by decide +kernel
theorem d11_135 : decode prog_1_method_6_code 135 = .ok (.ireturn, 1) := by decide +kernel
theorem pn_11 : plainName "com/example/geofence/geofence/Comparison" = true := by first | (simp [plainName, overriddenIn]; done) | decide +kernel
theorem ef_11 (m : MethodId) (x0 : Addr) (x1 : UInt64) (x2 : UInt64) : entryFrame m #[(.ref x0), (.double x1), (.double x2)] 5 = mkF m 0 #[.val (.ref x0), .val (.double x1), .second, .val (.double x2), .second] [] := by first | (simp [entryFrame, mkF, argsToLocals, Value.category]; done) | rfl
def Q11 (Z : State) (a : Addr) (xd : UInt64) (yd : UInt64) (ix : Int) (iy : Int) (h0 : Heap) (n0 : Nat) (v : Option Value) (h : Heap) (L : List Loc) : Prop := ∃ r : Int32, v = some (.int r) ∧ ((¬ ix = iy ∧ r.toInt = 1) ∨ (¬ (¬ ix = iy) ∧ r.toInt = 0)) ∧ Fr n0 L ∧ h = h0
set_option maxRecDepth 65536 in
set_option maxHeartbeats 40000000 in
theorem holds1 (l : Launch) (Z : State) (a0 : Array Value) (hw : ∀ d ∈ tables_1, d.before a0 Z = true) (ws : List Jvm.Cond) (a : Addr) (xd : UInt64) (yd : UInt64) (ix : Int) (iy : Int) (h0 : Heap) (n0 : Nat) (Z0 : n0 ≤ h0.size) (E_a : Exa Z h0 a "com/example/geofence/geofence/Comparison") (F0 : Fld Z h0 a "java/lang/Enum" "ordinal" "I" (.int (1 : Int32))) (qx : DE 1074 ix xd) (qy : DE 1074 iy yd) :
    MetFree l (⟨"com/example/geofence/geofence/Comparison", "holds", "(DD)Z"⟩ : MethodName) (head1 (Jvm.Cond.code (⟨"com/example/geofence/geofence/Comparison", "holds", "(DD)Z"⟩ : MethodName) prog_1_method_6_code 5 (some .boolean) :: ws) ({ frames := 1, cells := 0, slots := 0, locals := 12 } : Room)) (fun a_ U => a_ = #[(.ref a), (.double xd), (.double yd)] ∧ Z.Warmed39 U.vm ∧ U.heap = h0) (fun _ _ _ _ _ => True) (fun _ U o U' => ∃ v L, o = .returned v ∧ Q11 Z a xd yd ix iy h0 n0 v U'.heap L ∧ FrameEnd U o U' L (({ frames := 1, cells := 0, slots := 0, locals := 12 } : Room)).cells (({ frames := 1, cells := 0, slots := 0, locals := 12 } : Room)).slots) := by
  refine MetFree.of_bodySF (plainFor_of_name pn_11) hisR ?_
  intro p e s m args below meth c s₁ Bd hml0 hP0 hK
  obtain ⟨rfl, hZ, hh⟩ := hP0
  have hx := Bd.exec
  have hby := Bd.bytes
  have hml : c.maxLocals = 5 := hml0
  have hown : s.vm.findClass "com/example/geofence/geofence/Comparison" = some m.cls := findClass_of_methodNamed Bd.named
  have hnm := (name_of_methodNamed Bd.named Bd.method).1
  have X0 : Stand p l e ({ frames := 1, cells := 0, slots := 0, locals := 12 } : Room) s m #[(.ref a), (.double xd), (.double yd)] below meth c s₁ [] 0 0 := Stand.of_body Bd
  have e0 : s₁.heap = h0 := by rw [← hh, Bd.state]; rfl
  have N0 := Fr.nil n0
  have hlk : meth.locks = false := BodyLoose.notSynchronized Bd
  refine Go.start (P₀ := fun s₂ o => ∃ v L, o = .returned v ∧ Q11 Z a xd yd ix iy h0 n0 v s₂.heap L ∧ FrameEnd s o s₂ L (({ frames := 1, cells := 0, slots := 0, locals := 12 } : Room)).cells (({ frames := 1, cells := 0, slots := 0, locals := 12 } : Room)).slots) (congrArg s₁.setTop (ef_11 m a xd yd)) ?_
  intro P hP
  show Go p.tables e below P (s₁.setTop (mkF m 0 #[.val (.ref a), .val (.double xd), .second, .val (.double yd), .second] []))
  refine Go.step (fun t k => XS.aloadN X0.here hx rfl (hb hby d11_0) rfl rfl k) ?_
  show Go p.tables e below P (s₁.setTop (mkF m 1 #[.val (.ref a), .val (.double xd), .second, .val (.double yd), .second] [(.ref a)]))
  obtain ⟨cq_1, kq_1, q_1a, q_1b, q_1c⟩ := isOf hZ e0 E_a
  obtain ⟨_, _, ⟨T_1, L_1, k_1, n_1⟩, -, X_1, ⟨Lc_1, hQ_1, l_1, y_1, z_1⟩, st_1⟩ := X0.virtualBackUp hx (x := (⟨"com/example/geofence/geofence/Comparison", "ordinal", "()I"⟩ : MethodName)) (y := (⟨"java/lang/Enum", "ordinal", "()I"⟩ : MethodName)) (owner := "java/lang/Enum") hown (mvT hZ (hw _ (List.mem_of_getElem? (i := 29) rfl))) (mvT hZ (hw _ (List.mem_of_getElem? (i := 30) rfl))) (mvT hZ (hw _ (List.mem_of_getElem? (i := 31) rfl))) (by decide) (mvT hZ (hw _ (List.mem_of_getElem? (i := 33) rfl))) (mvT hZ (hw _ (List.mem_of_getElem? (i := 32) rfl))) (backOf (W := 0) (rm1 l Z a0 hw [] a (1 : Int32) h0 n0 Z0 F0) hZ (hw _ (List.mem_of_getElem? (i := 35) rfl)) (hw _ (List.mem_of_getElem? (i := 34) rfl)) (by decide) (by decide)) q_1a q_1c (g := (mkF m 1 #[.val (.ref a), .val (.double xd), .second, .val (.double yd), .second] [(.ref a)])) rfl (by rw [hml]; rfl) (Steps.refl _) (argsL := []) (rest := []) (lenOf pd_0 rfl) rfl (by show 2 * 0 + _ ≤ _; exact Nat.le_of_eq rfl) (hb hby d11_1) (fun _ _ => ⟨rfl, e0, (by decide : 0 + 0 ≤ _), (by decide : 0 + 0 ≤ _)⟩)
  dsimp only [Pt.U, Pt.locs, Pt.cells, Pt.slots] at X_1 l_1 y_1 z_1 st_1 hQ_1
  subst l_1 y_1 z_1
  obtain ⟨rfl, N_1q, eh_1⟩ := hQ_1
  have N_1 := Fr.app N0 N_1q
  refine Go.tr st_1 ?_
  show Go p.tables e below P (T_1.setTop (mkF m 4 #[.val (.ref a), .val (.double xd), .second, .val (.double yd), .second] [(.int (1 : Int32))]))
  refine Go.step (fun t k => XS.tswIn X_1.here hx rfl (pc0 := 4) (pc' := 68) (o := 64) rfl (hb hby d11_4) rfl (by decide) (by decide) (by decide) (by decide) k) ?_
  show Go p.tables e below P (T_1.setTop (mkF m 68 #[.val (.ref a), .val (.double xd), .second, .val (.double yd), .second] []))
  refine Go.step (fun t k => XS.dloadN X_1.here hx rfl (hb hby d11_68) rfl  k) ?_
  show Go p.tables e below P (T_1.setTop (mkF m 69 #[.val (.ref a), .val (.double xd), .second, .val (.double yd), .second] [(.double xd)]))
  refine Go.step (fun t k => XS.dloadN X_1.here hx rfl (hb hby d11_69) rfl  k) ?_
  show Go p.tables e below P (T_1.setTop (mkF m 70 #[.val (.ref a), .val (.double xd), .second, .val (.double yd), .second] [(.double yd), (.double xd)]))
  refine Go.step (fun t k => XS.dcmpS X_1.here hx rfl (hb hby d11_70) rfl rfl k) ?_
  show Go p.tables e below P (T_1.setTop (mkF m 71 #[.val (.ref a), .val (.double xd), .second, .val (.double yd), .second] [(.int (cmpValue (FP.dcmp xd yd) .l))]))
  by_cases hc71 : ix = iy
  · refine Go.step (fun t k => XS.ifYes X_1.here hx rfl (pc0 := 71) (pc' := 78) rfl (hb hby d11_71) rfl (dcY (cd := .eq) (DE.cmp qx qy) hc71) (by decide) (by decide) k) ?_
    show Go p.tables e below P (T_1.setTop (mkF m 78 #[.val (.ref a), .val (.double xd), .second, .val (.double yd), .second] []))
    refine Go.step (fun t k => XS.iconst X_1.here hx rfl (hb hby d11_78) k) ?_
    show Go p.tables e below P (T_1.setTop (mkF m 79 #[.val (.ref a), .val (.double xd), .second, .val (.double yd), .second] [(.int (0 : Int32))]))
    refine Go.step (fun t k => XS.goto X_1.here hx rfl (pc0 := 79) (pc' := 135) rfl (hb hby d11_79) (by decide) (by decide) k) ?_
    show Go p.tables e below P (T_1.setTop (mkF m 135 #[.val (.ref a), .val (.double xd), .second, .val (.double yd), .second] [(.int (0 : Int32))]))
    exact retGo X_1 hx hP Bd.returns hlk rfl (Or.inl ⟨rfl, Or.inr (Or.inl rfl), _, rfl⟩) (hb hby d11_135) (by decide) (by decide) (by rw [eh_1]; exact ⟨0, rfl, Or.inr ⟨by omega, rfl⟩, N_1, rfl⟩)
  · refine Go.step (fun t k => XS.ifNo X_1.here hx rfl (hb hby d11_71) rfl (dcN (cd := .eq) (DE.cmp qx qy) hc71) k) ?_
    show Go p.tables e below P (T_1.setTop (mkF m 74 #[.val (.ref a), .val (.double xd), .second, .val (.double yd), .second] []))
    refine Go.step (fun t k => XS.iconst X_1.here hx rfl (hb hby d11_74) k) ?_
    show Go p.tables e below P (T_1.setTop (mkF m 75 #[.val (.ref a), .val (.double xd), .second, .val (.double yd), .second] [(.int (1 : Int32))]))
    refine Go.step (fun t k => XS.goto X_1.here hx rfl (pc0 := 75) (pc' := 135) rfl (hb hby d11_75) (by decide) (by decide) k) ?_
    show Go p.tables e below P (T_1.setTop (mkF m 135 #[.val (.ref a), .val (.double xd), .second, .val (.double yd), .second] [(.int (1 : Int32))]))
    exact retGo X_1 hx hP Bd.returns hlk rfl (Or.inl ⟨rfl, Or.inr (Or.inl rfl), _, rfl⟩) (hb hby d11_135) (by decide) (by decide) (by rw [eh_1]; exact ⟨1, rfl, Or.inl ⟨by omega, rfl⟩, N_1, rfl⟩)
theorem d12_0 : decode prog_1_method_6_code 0 = .ok (.aload_n 0, 1) := by decide +kernel
theorem d12_1 : decode prog_1_method_6_code 1 = .ok (.invokevirtual 45, 3) := by decide +kernel
theorem d12_4 : decode prog_1_method_6_code 4 = .ok (.tableswitch 40 0 5 #[50, 64, 78, 92, 106, 120], 40) := by decide +kernel
theorem d12_82 : decode prog_1_method_6_code 82 = .ok (.dload_n 1, 1) := by decide +kernel
theorem d12_83 : decode prog_1_method_6_code 83 = .ok (.dload_n 3, 1) := by decide +kernel
theorem d12_84 : decode prog_1_method_6_code 84 = .ok (.dcmp .g, 1) := by decide +kernel
theorem d12_85 : decode prog_1_method_6_code 85 = .ok (.ifCond .ge 7, 3) := by decide +kernel
theorem d12_88 : decode prog_1_method_6_code 88 = .ok (.iconst 1, 1) := by decide +kernel
theorem d12_89 : decode prog_1_method_6_code 89 = .ok (.goto 46, 3) := by decide +kernel
theorem d12_92 : decode prog_1_method_6_code 92 = .ok (.iconst 0, 1) := by decide +kernel
theorem d12_93 : decode prog_1_method_6_code 93 = .ok (.goto 42, 3) := by decide +kernel
theorem d12_135 : decode prog_1_method_6_code 135 = .ok (.ireturn, 1) := by decide +kernel
theorem pn_12 : plainName "com/example/geofence/geofence/Comparison" = true := by first | (simp [plainName, overriddenIn]; done) | decide +kernel
theorem ef_12 (m : MethodId) (x0 : Addr) (x1 : UInt64) (x2 : UInt64) : entryFrame m #[(.ref x0), (.double x1), (.double x2)] 5 = mkF m 0 #[.val (.ref x0), .val (.double x1), .second, .val (.double x2), .second] [] := by first | (simp [entryFrame, mkF, argsToLocals, Value.category]; done) | rfl
def Q12 (Z : State) (a : Addr) (xd : UInt64) (yd : UInt64) (ix : Int) (iy : Int) (h0 : Heap) (n0 : Nat) (v : Option Value) (h : Heap) (L : List Loc) : Prop := ∃ r : Int32, v = some (.int r) ∧ ((ix < iy ∧ r.toInt = 1) ∨ (¬ (ix < iy) ∧ r.toInt = 0)) ∧ Fr n0 L ∧ h = h0
set_option maxRecDepth 65536 in
set_option maxHeartbeats 40000000 in
theorem holds2 (l : Launch) (Z : State) (a0 : Array Value) (hw : ∀ d ∈ tables_1, d.before a0 Z = true) (ws : List Jvm.Cond) (a : Addr) (xd : UInt64) (yd : UInt64) (ix : Int) (iy : Int) (h0 : Heap) (n0 : Nat) (Z0 : n0 ≤ h0.size) (E_a : Exa Z h0 a "com/example/geofence/geofence/Comparison") (F0 : Fld Z h0 a "java/lang/Enum" "ordinal" "I" (.int (2 : Int32))) (qx : DE 1074 ix xd) (qy : DE 1074 iy yd) :
    MetFree l (⟨"com/example/geofence/geofence/Comparison", "holds", "(DD)Z"⟩ : MethodName) (head1 (Jvm.Cond.code (⟨"com/example/geofence/geofence/Comparison", "holds", "(DD)Z"⟩ : MethodName) prog_1_method_6_code 5 (some .boolean) :: ws) ({ frames := 1, cells := 0, slots := 0, locals := 12 } : Room)) (fun a_ U => a_ = #[(.ref a), (.double xd), (.double yd)] ∧ Z.Warmed39 U.vm ∧ U.heap = h0) (fun _ _ _ _ _ => True) (fun _ U o U' => ∃ v L, o = .returned v ∧ Q12 Z a xd yd ix iy h0 n0 v U'.heap L ∧ FrameEnd U o U' L (({ frames := 1, cells := 0, slots := 0, locals := 12 } : Room)).cells (({ frames := 1, cells := 0, slots := 0, locals := 12 } : Room)).slots) := by
  refine MetFree.of_bodySF (plainFor_of_name pn_12) hisR ?_
  intro p e s m args below meth c s₁ Bd hml0 hP0 hK
  obtain ⟨rfl, hZ, hh⟩ := hP0
  have hx := Bd.exec
  have hby := Bd.bytes
  have hml : c.maxLocals = 5 := hml0
  have hown : s.vm.findClass "com/example/geofence/geofence/Comparison" = some m.cls := findClass_of_methodNamed Bd.named
  have hnm := (name_of_methodNamed Bd.named Bd.method).1
  have X0 : Stand p l e ({ frames := 1, cells := 0, slots := 0, locals := 12 } : Room) s m #[(.ref a), (.double xd), (.double yd)] below meth c s₁ [] 0 0 := Stand.of_body Bd
  have e0 : s₁.heap = h0 := by rw [← hh, Bd.state]; rfl
  have N0 := Fr.nil n0
  have hlk : meth.locks = false := BodyLoose.notSynchronized Bd
  refine Go.start (P₀ := fun s₂ o => ∃ v L, o = .returned v ∧ Q12 Z a xd yd ix iy h0 n0 v s₂.heap L ∧ FrameEnd s o s₂ L (({ frames := 1, cells := 0, slots := 0, locals := 12 } : Room)).cells (({ frames := 1, cells := 0, slots := 0, locals := 12 } : Room)).slots) (congrArg s₁.setTop (ef_12 m a xd yd)) ?_
  intro P hP
  show Go p.tables e below P (s₁.setTop (mkF m 0 #[.val (.ref a), .val (.double xd), .second, .val (.double yd), .second] []))
  refine Go.step (fun t k => XS.aloadN X0.here hx rfl (hb hby d12_0) rfl rfl k) ?_
  show Go p.tables e below P (s₁.setTop (mkF m 1 #[.val (.ref a), .val (.double xd), .second, .val (.double yd), .second] [(.ref a)]))
  obtain ⟨cq_1, kq_1, q_1a, q_1b, q_1c⟩ := isOf hZ e0 E_a
  obtain ⟨_, _, ⟨T_1, L_1, k_1, n_1⟩, -, X_1, ⟨Lc_1, hQ_1, l_1, y_1, z_1⟩, st_1⟩ := X0.virtualBackUp hx (x := (⟨"com/example/geofence/geofence/Comparison", "ordinal", "()I"⟩ : MethodName)) (y := (⟨"java/lang/Enum", "ordinal", "()I"⟩ : MethodName)) (owner := "java/lang/Enum") hown (mvT hZ (hw _ (List.mem_of_getElem? (i := 29) rfl))) (mvT hZ (hw _ (List.mem_of_getElem? (i := 30) rfl))) (mvT hZ (hw _ (List.mem_of_getElem? (i := 31) rfl))) (by decide) (mvT hZ (hw _ (List.mem_of_getElem? (i := 33) rfl))) (mvT hZ (hw _ (List.mem_of_getElem? (i := 32) rfl))) (backOf (W := 0) (rm1 l Z a0 hw [] a (2 : Int32) h0 n0 Z0 F0) hZ (hw _ (List.mem_of_getElem? (i := 35) rfl)) (hw _ (List.mem_of_getElem? (i := 34) rfl)) (by decide) (by decide)) q_1a q_1c (g := (mkF m 1 #[.val (.ref a), .val (.double xd), .second, .val (.double yd), .second] [(.ref a)])) rfl (by rw [hml]; rfl) (Steps.refl _) (argsL := []) (rest := []) (lenOf pd_0 rfl) rfl (by show 2 * 0 + _ ≤ _; exact Nat.le_of_eq rfl) (hb hby d12_1) (fun _ _ => ⟨rfl, e0, (by decide : 0 + 0 ≤ _), (by decide : 0 + 0 ≤ _)⟩)
  dsimp only [Pt.U, Pt.locs, Pt.cells, Pt.slots] at X_1 l_1 y_1 z_1 st_1 hQ_1
  subst l_1 y_1 z_1
  obtain ⟨rfl, N_1q, eh_1⟩ := hQ_1
  have N_1 := Fr.app N0 N_1q
  refine Go.tr st_1 ?_
  show Go p.tables e below P (T_1.setTop (mkF m 4 #[.val (.ref a), .val (.double xd), .second, .val (.double yd), .second] [(.int (2 : Int32))]))
  refine Go.step (fun t k => XS.tswIn X_1.here hx rfl (pc0 := 4) (pc' := 82) (o := 78) rfl (hb hby d12_4) rfl (by decide) (by decide) (by decide) (by decide) k) ?_
  show Go p.tables e below P (T_1.setTop (mkF m 82 #[.val (.ref a), .val (.double xd), .second, .val (.double yd), .second] []))
  refine Go.step (fun t k => XS.dloadN X_1.here hx rfl (hb hby d12_82) rfl  k) ?_
  show Go p.tables e below P (T_1.setTop (mkF m 83 #[.val (.ref a), .val (.double xd), .second, .val (.double yd), .second] [(.double xd)]))
  refine Go.step (fun t k => XS.dloadN X_1.here hx rfl (hb hby d12_83) rfl  k) ?_
  show Go p.tables e below P (T_1.setTop (mkF m 84 #[.val (.ref a), .val (.double xd), .second, .val (.double yd), .second] [(.double yd), (.double xd)]))
  refine Go.step (fun t k => XS.dcmpS X_1.here hx rfl (hb hby d12_84) rfl rfl k) ?_
  show Go p.tables e below P (T_1.setTop (mkF m 85 #[.val (.ref a), .val (.double xd), .second, .val (.double yd), .second] [(.int (cmpValue (FP.dcmp xd yd) .g))]))
  by_cases hc85 : iy ≤ ix
  · refine Go.step (fun t k => XS.ifYes X_1.here hx rfl (pc0 := 85) (pc' := 92) rfl (hb hby d12_85) rfl (dcY (cd := .ge) (DE.cmp qx qy) hc85) (by decide) (by decide) k) ?_
    show Go p.tables e below P (T_1.setTop (mkF m 92 #[.val (.ref a), .val (.double xd), .second, .val (.double yd), .second] []))
    refine Go.step (fun t k => XS.iconst X_1.here hx rfl (hb hby d12_92) k) ?_
    show Go p.tables e below P (T_1.setTop (mkF m 93 #[.val (.ref a), .val (.double xd), .second, .val (.double yd), .second] [(.int (0 : Int32))]))
    refine Go.step (fun t k => XS.goto X_1.here hx rfl (pc0 := 93) (pc' := 135) rfl (hb hby d12_93) (by decide) (by decide) k) ?_
    show Go p.tables e below P (T_1.setTop (mkF m 135 #[.val (.ref a), .val (.double xd), .second, .val (.double yd), .second] [(.int (0 : Int32))]))
    exact retGo X_1 hx hP Bd.returns hlk rfl (Or.inl ⟨rfl, Or.inr (Or.inl rfl), _, rfl⟩) (hb hby d12_135) (by decide) (by decide) (by rw [eh_1]; exact ⟨0, rfl, Or.inr ⟨by omega, rfl⟩, N_1, rfl⟩)
  · refine Go.step (fun t k => XS.ifNo X_1.here hx rfl (hb hby d12_85) rfl (dcN (cd := .ge) (DE.cmp qx qy) hc85) k) ?_
    show Go p.tables e below P (T_1.setTop (mkF m 88 #[.val (.ref a), .val (.double xd), .second, .val (.double yd), .second] []))
    refine Go.step (fun t k => XS.iconst X_1.here hx rfl (hb hby d12_88) k) ?_
    show Go p.tables e below P (T_1.setTop (mkF m 89 #[.val (.ref a), .val (.double xd), .second, .val (.double yd), .second] [(.int (1 : Int32))]))
    refine Go.step (fun t k => XS.goto X_1.here hx rfl (pc0 := 89) (pc' := 135) rfl (hb hby d12_89) (by decide) (by decide) k) ?_
    show Go p.tables e below P (T_1.setTop (mkF m 135 #[.val (.ref a), .val (.double xd), .second, .val (.double yd), .second] [(.int (1 : Int32))]))
    exact retGo X_1 hx hP Bd.returns hlk rfl (Or.inl ⟨rfl, Or.inr (Or.inl rfl), _, rfl⟩) (hb hby d12_135) (by decide) (by decide) (by rw [eh_1]; exact ⟨1, rfl, Or.inl ⟨by omega, rfl⟩, N_1, rfl⟩)
theorem d13_0 : decode prog_1_method_6_code 0 = .ok (.aload_n 0, 1) := by decide +kernel
theorem d13_1 : decode prog_1_method_6_code 1 = .ok (.invokevirtual 45, 3) := by decide +kernel
theorem d13_4 : decode prog_1_method_6_code 4 = .ok (.tableswitch 40 0 5 #[50, 64, 78, 92, 106, 120], 40) := by decide +kernel
theorem d13_96 : decode prog_1_method_6_code 96 = .ok (.dload_n 1, 1) := by decide +kernel
theorem d13_97 : decode prog_1_method_6_code 97 = .ok (.dload_n 3, 1) := by decide +kernel
theorem d13_98 : decode prog_1_method_6_code 98 = .ok (.dcmp .g, 1) := by decide +kernel
theorem d13_99 : decode prog_1_method_6_code 99 = .ok (.ifCond .gt 7, 3) := by decide +kernel
theorem d13_102 : decode prog_1_method_6_code 102 = .ok (.iconst 1, 1) := by decide +kernel
theorem d13_103 : decode prog_1_method_6_code 103 = .ok (.goto 32, 3) := by decide +kernel
theorem d13_106 : decode prog_1_method_6_code 106 = .ok (.iconst 0, 1) := by decide +kernel
theorem d13_107 : decode prog_1_method_6_code 107 = .ok (.goto 28, 3) := by decide +kernel
theorem d13_135 : decode prog_1_method_6_code 135 = .ok (.ireturn, 1) := by decide +kernel
theorem pn_13 : plainName "com/example/geofence/geofence/Comparison" = true := by first | (simp [plainName, overriddenIn]; done) | decide +kernel
theorem ef_13 (m : MethodId) (x0 : Addr) (x1 : UInt64) (x2 : UInt64) : entryFrame m #[(.ref x0), (.double x1), (.double x2)] 5 = mkF m 0 #[.val (.ref x0), .val (.double x1), .second, .val (.double x2), .second] [] := by first | (simp [entryFrame, mkF, argsToLocals, Value.category]; done) | rfl
def Q13 (Z : State) (a : Addr) (xd : UInt64) (yd : UInt64) (ix : Int) (iy : Int) (h0 : Heap) (n0 : Nat) (v : Option Value) (h : Heap) (L : List Loc) : Prop := ∃ r : Int32, v = some (.int r) ∧ ((ix ≤ iy ∧ r.toInt = 1) ∨ (¬ (ix ≤ iy) ∧ r.toInt = 0)) ∧ Fr n0 L ∧ h = h0
set_option maxRecDepth 65536 in
set_option maxHeartbeats 40000000 in
theorem holds3 (l : Launch) (Z : State) (a0 : Array Value) (hw : ∀ d ∈ tables_1, d.before a0 Z = true) (ws : List Jvm.Cond) (a : Addr) (xd : UInt64) (yd : UInt64) (ix : Int) (iy : Int) (h0 : Heap) (n0 : Nat) (Z0 : n0 ≤ h0.size) (E_a : Exa Z h0 a "com/example/geofence/geofence/Comparison") (F0 : Fld Z h0 a "java/lang/Enum" "ordinal" "I" (.int (3 : Int32))) (qx : DE 1074 ix xd) (qy : DE 1074 iy yd) :
    MetFree l (⟨"com/example/geofence/geofence/Comparison", "holds", "(DD)Z"⟩ : MethodName) (head1 (Jvm.Cond.code (⟨"com/example/geofence/geofence/Comparison", "holds", "(DD)Z"⟩ : MethodName) prog_1_method_6_code 5 (some .boolean) :: ws) ({ frames := 1, cells := 0, slots := 0, locals := 12 } : Room)) (fun a_ U => a_ = #[(.ref a), (.double xd), (.double yd)] ∧ Z.Warmed39 U.vm ∧ U.heap = h0) (fun _ _ _ _ _ => True) (fun _ U o U' => ∃ v L, o = .returned v ∧ Q13 Z a xd yd ix iy h0 n0 v U'.heap L ∧ FrameEnd U o U' L (({ frames := 1, cells := 0, slots := 0, locals := 12 } : Room)).cells (({ frames := 1, cells := 0, slots := 0, locals := 12 } : Room)).slots) := by
  refine MetFree.of_bodySF (plainFor_of_name pn_13) hisR ?_
  intro p e s m args below meth c s₁ Bd hml0 hP0 hK
  obtain ⟨rfl, hZ, hh⟩ := hP0
  have hx := Bd.exec
  have hby := Bd.bytes
  have hml : c.maxLocals = 5 := hml0
  have hown : s.vm.findClass "com/example/geofence/geofence/Comparison" = some m.cls := findClass_of_methodNamed Bd.named
  have hnm := (name_of_methodNamed Bd.named Bd.method).1
  have X0 : Stand p l e ({ frames := 1, cells := 0, slots := 0, locals := 12 } : Room) s m #[(.ref a), (.double xd), (.double yd)] below meth c s₁ [] 0 0 := Stand.of_body Bd
  have e0 : s₁.heap = h0 := by rw [← hh, Bd.state]; rfl
  have N0 := Fr.nil n0
  have hlk : meth.locks = false := BodyLoose.notSynchronized Bd
  refine Go.start (P₀ := fun s₂ o => ∃ v L, o = .returned v ∧ Q13 Z a xd yd ix iy h0 n0 v s₂.heap L ∧ FrameEnd s o s₂ L (({ frames := 1, cells := 0, slots := 0, locals := 12 } : Room)).cells (({ frames := 1, cells := 0, slots := 0, locals := 12 } : Room)).slots) (congrArg s₁.setTop (ef_13 m a xd yd)) ?_
  intro P hP
  show Go p.tables e below P (s₁.setTop (mkF m 0 #[.val (.ref a), .val (.double xd), .second, .val (.double yd), .second] []))
  refine Go.step (fun t k => XS.aloadN X0.here hx rfl (hb hby d13_0) rfl rfl k) ?_
  show Go p.tables e below P (s₁.setTop (mkF m 1 #[.val (.ref a), .val (.double xd), .second, .val (.double yd), .second] [(.ref a)]))
  obtain ⟨cq_1, kq_1, q_1a, q_1b, q_1c⟩ := isOf hZ e0 E_a
  obtain ⟨_, _, ⟨T_1, L_1, k_1, n_1⟩, -, X_1, ⟨Lc_1, hQ_1, l_1, y_1, z_1⟩, st_1⟩ := X0.virtualBackUp hx (x := (⟨"com/example/geofence/geofence/Comparison", "ordinal", "()I"⟩ : MethodName)) (y := (⟨"java/lang/Enum", "ordinal", "()I"⟩ : MethodName)) (owner := "java/lang/Enum") hown (mvT hZ (hw _ (List.mem_of_getElem? (i := 29) rfl))) (mvT hZ (hw _ (List.mem_of_getElem? (i := 30) rfl))) (mvT hZ (hw _ (List.mem_of_getElem? (i := 31) rfl))) (by decide) (mvT hZ (hw _ (List.mem_of_getElem? (i := 33) rfl))) (mvT hZ (hw _ (List.mem_of_getElem? (i := 32) rfl))) (backOf (W := 0) (rm1 l Z a0 hw [] a (3 : Int32) h0 n0 Z0 F0) hZ (hw _ (List.mem_of_getElem? (i := 35) rfl)) (hw _ (List.mem_of_getElem? (i := 34) rfl)) (by decide) (by decide)) q_1a q_1c (g := (mkF m 1 #[.val (.ref a), .val (.double xd), .second, .val (.double yd), .second] [(.ref a)])) rfl (by rw [hml]; rfl) (Steps.refl _) (argsL := []) (rest := []) (lenOf pd_0 rfl) rfl (by show 2 * 0 + _ ≤ _; exact Nat.le_of_eq rfl) (hb hby d13_1) (fun _ _ => ⟨rfl, e0, (by decide : 0 + 0 ≤ _), (by decide : 0 + 0 ≤ _)⟩)
  dsimp only [Pt.U, Pt.locs, Pt.cells, Pt.slots] at X_1 l_1 y_1 z_1 st_1 hQ_1
  subst l_1 y_1 z_1
  obtain ⟨rfl, N_1q, eh_1⟩ := hQ_1
  have N_1 := Fr.app N0 N_1q
  refine Go.tr st_1 ?_
  show Go p.tables e below P (T_1.setTop (mkF m 4 #[.val (.ref a), .val (.double xd), .second, .val (.double yd), .second] [(.int (3 : Int32))]))
  refine Go.step (fun t k => XS.tswIn X_1.here hx rfl (pc0 := 4) (pc' := 96) (o := 92) rfl (hb hby d13_4) rfl (by decide) (by decide) (by decide) (by decide) k) ?_
  show Go p.tables e below P (T_1.setTop (mkF m 96 #[.val (.ref a), .val (.double xd), .second, .val (.double yd), .second] []))
  refine Go.step (fun t k => XS.dloadN X_1.here hx rfl (hb hby d13_96) rfl  k) ?_
  show Go p.tables e below P (T_1.setTop (mkF m 97 #[.val (.ref a), .val (.double xd), .second, .val (.double yd), .second] [(.double xd)]))
  refine Go.step (fun t k => XS.dloadN X_1.here hx rfl (hb hby d13_97) rfl  k) ?_
  show Go p.tables e below P (T_1.setTop (mkF m 98 #[.val (.ref a), .val (.double xd), .second, .val (.double yd), .second] [(.double yd), (.double xd)]))
  refine Go.step (fun t k => XS.dcmpS X_1.here hx rfl (hb hby d13_98) rfl rfl k) ?_
  show Go p.tables e below P (T_1.setTop (mkF m 99 #[.val (.ref a), .val (.double xd), .second, .val (.double yd), .second] [(.int (cmpValue (FP.dcmp xd yd) .g))]))
  by_cases hc99 : iy < ix
  · refine Go.step (fun t k => XS.ifYes X_1.here hx rfl (pc0 := 99) (pc' := 106) rfl (hb hby d13_99) rfl (dcY (cd := .gt) (DE.cmp qx qy) hc99) (by decide) (by decide) k) ?_
    show Go p.tables e below P (T_1.setTop (mkF m 106 #[.val (.ref a), .val (.double xd), .second, .val (.double yd), .second] []))
    refine Go.step (fun t k => XS.iconst X_1.here hx rfl (hb hby d13_106) k) ?_
    show Go p.tables e below P (T_1.setTop (mkF m 107 #[.val (.ref a), .val (.double xd), .second, .val (.double yd), .second] [(.int (0 : Int32))]))
    refine Go.step (fun t k => XS.goto X_1.here hx rfl (pc0 := 107) (pc' := 135) rfl (hb hby d13_107) (by decide) (by decide) k) ?_
    show Go p.tables e below P (T_1.setTop (mkF m 135 #[.val (.ref a), .val (.double xd), .second, .val (.double yd), .second] [(.int (0 : Int32))]))
    exact retGo X_1 hx hP Bd.returns hlk rfl (Or.inl ⟨rfl, Or.inr (Or.inl rfl), _, rfl⟩) (hb hby d13_135) (by decide) (by decide) (by rw [eh_1]; exact ⟨0, rfl, Or.inr ⟨by omega, rfl⟩, N_1, rfl⟩)
  · refine Go.step (fun t k => XS.ifNo X_1.here hx rfl (hb hby d13_99) rfl (dcN (cd := .gt) (DE.cmp qx qy) hc99) k) ?_
    show Go p.tables e below P (T_1.setTop (mkF m 102 #[.val (.ref a), .val (.double xd), .second, .val (.double yd), .second] []))
    refine Go.step (fun t k => XS.iconst X_1.here hx rfl (hb hby d13_102) k) ?_
    show Go p.tables e below P (T_1.setTop (mkF m 103 #[.val (.ref a), .val (.double xd), .second, .val (.double yd), .second] [(.int (1 : Int32))]))
    refine Go.step (fun t k => XS.goto X_1.here hx rfl (pc0 := 103) (pc' := 135) rfl (hb hby d13_103) (by decide) (by decide) k) ?_
    show Go p.tables e below P (T_1.setTop (mkF m 135 #[.val (.ref a), .val (.double xd), .second, .val (.double yd), .second] [(.int (1 : Int32))]))
    exact retGo X_1 hx hP Bd.returns hlk rfl (Or.inl ⟨rfl, Or.inr (Or.inl rfl), _, rfl⟩) (hb hby d13_135) (by decide) (by decide) (by rw [eh_1]; exact ⟨1, rfl, Or.inl ⟨by omega, rfl⟩, N_1, rfl⟩)
theorem d14_0 : decode prog_1_method_6_code 0 = .ok (.aload_n 0, 1) := by decide +kernel
theorem d14_1 : decode prog_1_method_6_code 1 = .ok (.invokevirtual 45, 3) := by decide +kernel
theorem d14_4 : decode prog_1_method_6_code 4 = .ok (.tableswitch 40 0 5 #[50, 64, 78, 92, 106, 120], 40) := by decide +kernel
theorem d14_110 : decode prog_1_method_6_code 110 = .ok (.dload_n 1, 1) := by decide +kernel
theorem d14_111 : decode prog_1_method_6_code 111 = .ok (.dload_n 3, 1) := by decide +kernel
theorem d14_112 : decode prog_1_method_6_code 112 = .ok (.dcmp .l, 1) := by decide +kernel
theorem d14_113 : decode prog_1_method_6_code 113 = .ok (.ifCond .le 7, 3) := by decide +kernel
theorem d14_116 : decode prog_1_method_6_code 116 = .ok (.iconst 1, 1) := by decide +kernel
theorem d14_117 : decode prog_1_method_6_code 117 = .ok (.goto 18, 3) := by decide +kernel
theorem d14_120 : decode prog_1_method_6_code 120 = .ok (.iconst 0, 1) := by decide +kernel
theorem d14_121 : decode prog_1_method_6_code 121 = .ok (.goto 14, 3) := by decide +kernel
theorem d14_135 : decode prog_1_method_6_code 135 = .ok (.ireturn, 1) := by decide +kernel
theorem pn_14 : plainName "com/example/geofence/geofence/Comparison" = true := by first | (simp [plainName, overriddenIn]; done) | decide +kernel
theorem ef_14 (m : MethodId) (x0 : Addr) (x1 : UInt64) (x2 : UInt64) : entryFrame m #[(.ref x0), (.double x1), (.double x2)] 5 = mkF m 0 #[.val (.ref x0), .val (.double x1), .second, .val (.double x2), .second] [] := by first | (simp [entryFrame, mkF, argsToLocals, Value.category]; done) | rfl
def Q14 (Z : State) (a : Addr) (xd : UInt64) (yd : UInt64) (ix : Int) (iy : Int) (h0 : Heap) (n0 : Nat) (v : Option Value) (h : Heap) (L : List Loc) : Prop := ∃ r : Int32, v = some (.int r) ∧ ((iy < ix ∧ r.toInt = 1) ∨ (¬ (iy < ix) ∧ r.toInt = 0)) ∧ Fr n0 L ∧ h = h0
set_option maxRecDepth 65536 in
set_option maxHeartbeats 40000000 in
theorem holds4 (l : Launch) (Z : State) (a0 : Array Value) (hw : ∀ d ∈ tables_1, d.before a0 Z = true) (ws : List Jvm.Cond) (a : Addr) (xd : UInt64) (yd : UInt64) (ix : Int) (iy : Int) (h0 : Heap) (n0 : Nat) (Z0 : n0 ≤ h0.size) (E_a : Exa Z h0 a "com/example/geofence/geofence/Comparison") (F0 : Fld Z h0 a "java/lang/Enum" "ordinal" "I" (.int (4 : Int32))) (qx : DE 1074 ix xd) (qy : DE 1074 iy yd) :
    MetFree l (⟨"com/example/geofence/geofence/Comparison", "holds", "(DD)Z"⟩ : MethodName) (head1 (Jvm.Cond.code (⟨"com/example/geofence/geofence/Comparison", "holds", "(DD)Z"⟩ : MethodName) prog_1_method_6_code 5 (some .boolean) :: ws) ({ frames := 1, cells := 0, slots := 0, locals := 12 } : Room)) (fun a_ U => a_ = #[(.ref a), (.double xd), (.double yd)] ∧ Z.Warmed39 U.vm ∧ U.heap = h0) (fun _ _ _ _ _ => True) (fun _ U o U' => ∃ v L, o = .returned v ∧ Q14 Z a xd yd ix iy h0 n0 v U'.heap L ∧ FrameEnd U o U' L (({ frames := 1, cells := 0, slots := 0, locals := 12 } : Room)).cells (({ frames := 1, cells := 0, slots := 0, locals := 12 } : Room)).slots) := by
  refine MetFree.of_bodySF (plainFor_of_name pn_14) hisR ?_
  intro p e s m args below meth c s₁ Bd hml0 hP0 hK
  obtain ⟨rfl, hZ, hh⟩ := hP0
  have hx := Bd.exec
  have hby := Bd.bytes
  have hml : c.maxLocals = 5 := hml0
  have hown : s.vm.findClass "com/example/geofence/geofence/Comparison" = some m.cls := findClass_of_methodNamed Bd.named
  have hnm := (name_of_methodNamed Bd.named Bd.method).1
  have X0 : Stand p l e ({ frames := 1, cells := 0, slots := 0, locals := 12 } : Room) s m #[(.ref a), (.double xd), (.double yd)] below meth c s₁ [] 0 0 := Stand.of_body Bd
  have e0 : s₁.heap = h0 := by rw [← hh, Bd.state]; rfl
  have N0 := Fr.nil n0
  have hlk : meth.locks = false := BodyLoose.notSynchronized Bd
  refine Go.start (P₀ := fun s₂ o => ∃ v L, o = .returned v ∧ Q14 Z a xd yd ix iy h0 n0 v s₂.heap L ∧ FrameEnd s o s₂ L (({ frames := 1, cells := 0, slots := 0, locals := 12 } : Room)).cells (({ frames := 1, cells := 0, slots := 0, locals := 12 } : Room)).slots) (congrArg s₁.setTop (ef_14 m a xd yd)) ?_
  intro P hP
  show Go p.tables e below P (s₁.setTop (mkF m 0 #[.val (.ref a), .val (.double xd), .second, .val (.double yd), .second] []))
  refine Go.step (fun t k => XS.aloadN X0.here hx rfl (hb hby d14_0) rfl rfl k) ?_
  show Go p.tables e below P (s₁.setTop (mkF m 1 #[.val (.ref a), .val (.double xd), .second, .val (.double yd), .second] [(.ref a)]))
  obtain ⟨cq_1, kq_1, q_1a, q_1b, q_1c⟩ := isOf hZ e0 E_a
  obtain ⟨_, _, ⟨T_1, L_1, k_1, n_1⟩, -, X_1, ⟨Lc_1, hQ_1, l_1, y_1, z_1⟩, st_1⟩ := X0.virtualBackUp hx (x := (⟨"com/example/geofence/geofence/Comparison", "ordinal", "()I"⟩ : MethodName)) (y := (⟨"java/lang/Enum", "ordinal", "()I"⟩ : MethodName)) (owner := "java/lang/Enum") hown (mvT hZ (hw _ (List.mem_of_getElem? (i := 29) rfl))) (mvT hZ (hw _ (List.mem_of_getElem? (i := 30) rfl))) (mvT hZ (hw _ (List.mem_of_getElem? (i := 31) rfl))) (by decide) (mvT hZ (hw _ (List.mem_of_getElem? (i := 33) rfl))) (mvT hZ (hw _ (List.mem_of_getElem? (i := 32) rfl))) (backOf (W := 0) (rm1 l Z a0 hw [] a (4 : Int32) h0 n0 Z0 F0) hZ (hw _ (List.mem_of_getElem? (i := 35) rfl)) (hw _ (List.mem_of_getElem? (i := 34) rfl)) (by decide) (by decide)) q_1a q_1c (g := (mkF m 1 #[.val (.ref a), .val (.double xd), .second, .val (.double yd), .second] [(.ref a)])) rfl (by rw [hml]; rfl) (Steps.refl _) (argsL := []) (rest := []) (lenOf pd_0 rfl) rfl (by show 2 * 0 + _ ≤ _; exact Nat.le_of_eq rfl) (hb hby d14_1) (fun _ _ => ⟨rfl, e0, (by decide : 0 + 0 ≤ _), (by decide : 0 + 0 ≤ _)⟩)
  dsimp only [Pt.U, Pt.locs, Pt.cells, Pt.slots] at X_1 l_1 y_1 z_1 st_1 hQ_1
  subst l_1 y_1 z_1
  obtain ⟨rfl, N_1q, eh_1⟩ := hQ_1
  have N_1 := Fr.app N0 N_1q
  refine Go.tr st_1 ?_
  show Go p.tables e below P (T_1.setTop (mkF m 4 #[.val (.ref a), .val (.double xd), .second, .val (.double yd), .second] [(.int (4 : Int32))]))
  refine Go.step (fun t k => XS.tswIn X_1.here hx rfl (pc0 := 4) (pc' := 110) (o := 106) rfl (hb hby d14_4) rfl (by decide) (by decide) (by decide) (by decide) k) ?_
  show Go p.tables e below P (T_1.setTop (mkF m 110 #[.val (.ref a), .val (.double xd), .second, .val (.double yd), .second] []))
  refine Go.step (fun t k => XS.dloadN X_1.here hx rfl (hb hby d14_110) rfl  k) ?_
  show Go p.tables e below P (T_1.setTop (mkF m 111 #[.val (.ref a), .val (.double xd), .second, .val (.double yd), .second] [(.double xd)]))
  refine Go.step (fun t k => XS.dloadN X_1.here hx rfl (hb hby d14_111) rfl  k) ?_
  show Go p.tables e below P (T_1.setTop (mkF m 112 #[.val (.ref a), .val (.double xd), .second, .val (.double yd), .second] [(.double yd), (.double xd)]))
  refine Go.step (fun t k => XS.dcmpS X_1.here hx rfl (hb hby d14_112) rfl rfl k) ?_
  show Go p.tables e below P (T_1.setTop (mkF m 113 #[.val (.ref a), .val (.double xd), .second, .val (.double yd), .second] [(.int (cmpValue (FP.dcmp xd yd) .l))]))
  by_cases hc113 : ix ≤ iy
  · refine Go.step (fun t k => XS.ifYes X_1.here hx rfl (pc0 := 113) (pc' := 120) rfl (hb hby d14_113) rfl (dcY (cd := .le) (DE.cmp qx qy) hc113) (by decide) (by decide) k) ?_
    show Go p.tables e below P (T_1.setTop (mkF m 120 #[.val (.ref a), .val (.double xd), .second, .val (.double yd), .second] []))
    refine Go.step (fun t k => XS.iconst X_1.here hx rfl (hb hby d14_120) k) ?_
    show Go p.tables e below P (T_1.setTop (mkF m 121 #[.val (.ref a), .val (.double xd), .second, .val (.double yd), .second] [(.int (0 : Int32))]))
    refine Go.step (fun t k => XS.goto X_1.here hx rfl (pc0 := 121) (pc' := 135) rfl (hb hby d14_121) (by decide) (by decide) k) ?_
    show Go p.tables e below P (T_1.setTop (mkF m 135 #[.val (.ref a), .val (.double xd), .second, .val (.double yd), .second] [(.int (0 : Int32))]))
    exact retGo X_1 hx hP Bd.returns hlk rfl (Or.inl ⟨rfl, Or.inr (Or.inl rfl), _, rfl⟩) (hb hby d14_135) (by decide) (by decide) (by rw [eh_1]; exact ⟨0, rfl, Or.inr ⟨by omega, rfl⟩, N_1, rfl⟩)
  · refine Go.step (fun t k => XS.ifNo X_1.here hx rfl (hb hby d14_113) rfl (dcN (cd := .le) (DE.cmp qx qy) hc113) k) ?_
    show Go p.tables e below P (T_1.setTop (mkF m 116 #[.val (.ref a), .val (.double xd), .second, .val (.double yd), .second] []))
    refine Go.step (fun t k => XS.iconst X_1.here hx rfl (hb hby d14_116) k) ?_
    show Go p.tables e below P (T_1.setTop (mkF m 117 #[.val (.ref a), .val (.double xd), .second, .val (.double yd), .second] [(.int (1 : Int32))]))
    refine Go.step (fun t k => XS.goto X_1.here hx rfl (pc0 := 117) (pc' := 135) rfl (hb hby d14_117) (by decide) (by decide) k) ?_
    show Go p.tables e below P (T_1.setTop (mkF m 135 #[.val (.ref a), .val (.double xd), .second, .val (.double yd), .second] [(.int (1 : Int32))]))
    exact retGo X_1 hx hP Bd.returns hlk rfl (Or.inl ⟨rfl, Or.inr (Or.inl rfl), _, rfl⟩) (hb hby d14_135) (by decide) (by decide) (by rw [eh_1]; exact ⟨1, rfl, Or.inl ⟨by omega, rfl⟩, N_1, rfl⟩)
theorem d15_0 : decode prog_1_method_6_code 0 = .ok (.aload_n 0, 1) := by decide +kernel
theorem d15_1 : decode prog_1_method_6_code 1 = .ok (.invokevirtual 45, 3) := by decide +kernel
theorem d15_4 : decode prog_1_method_6_code 4 = .ok (.tableswitch 40 0 5 #[50, 64, 78, 92, 106, 120], 40) := by decide +kernel
theorem d15_124 : decode prog_1_method_6_code 124 = .ok (.dload_n 1, 1) := by decide +kernel
theorem d15_125 : decode prog_1_method_6_code 125 = .ok (.dload_n 3, 1) := by decide +kernel
theorem d15_126 : decode prog_1_method_6_code 126 = .ok (.dcmp .l, 1) := by decide +kernel
theorem d15_127 : decode prog_1_method_6_code 127 = .ok (.ifCond .lt 7, 3) := by decide +kernel
theorem d15_130 : decode prog_1_method_6_code 130 = .ok (.iconst 1, 1) := by decide +kernel
theorem d15_131 : decode prog_1_method_6_code 131 = .ok (.goto 4, 3) := by decide +kernel
theorem d15_134 : decode prog_1_method_6_code 134 = .ok (.iconst 0, 1) := by decide +kernel
theorem d15_135 : decode prog_1_method_6_code 135 = .ok (.ireturn, 1) := by decide +kernel
theorem pn_15 : plainName "com/example/geofence/geofence/Comparison" = true := by first | (simp [plainName, overriddenIn]; done) | decide +kernel
theorem ef_15 (m : MethodId) (x0 : Addr) (x1 : UInt64) (x2 : UInt64) : entryFrame m #[(.ref x0), (.double x1), (.double x2)] 5 = mkF m 0 #[.val (.ref x0), .val (.double x1), .second, .val (.double x2), .second] [] := by first | (simp [entryFrame, mkF, argsToLocals, Value.category]; done) | rfl
def Q15 (Z : State) (a : Addr) (xd : UInt64) (yd : UInt64) (ix : Int) (iy : Int) (h0 : Heap) (n0 : Nat) (v : Option Value) (h : Heap) (L : List Loc) : Prop := ∃ r : Int32, v = some (.int r) ∧ ((iy ≤ ix ∧ r.toInt = 1) ∨ (¬ (iy ≤ ix) ∧ r.toInt = 0)) ∧ Fr n0 L ∧ h = h0
set_option maxRecDepth 65536 in
set_option maxHeartbeats 40000000 in
theorem holds5 (l : Launch) (Z : State) (a0 : Array Value) (hw : ∀ d ∈ tables_1, d.before a0 Z = true) (ws : List Jvm.Cond) (a : Addr) (xd : UInt64) (yd : UInt64) (ix : Int) (iy : Int) (h0 : Heap) (n0 : Nat) (Z0 : n0 ≤ h0.size) (E_a : Exa Z h0 a "com/example/geofence/geofence/Comparison") (F0 : Fld Z h0 a "java/lang/Enum" "ordinal" "I" (.int (5 : Int32))) (qx : DE 1074 ix xd) (qy : DE 1074 iy yd) :
    MetFree l (⟨"com/example/geofence/geofence/Comparison", "holds", "(DD)Z"⟩ : MethodName) (head1 (Jvm.Cond.code (⟨"com/example/geofence/geofence/Comparison", "holds", "(DD)Z"⟩ : MethodName) prog_1_method_6_code 5 (some .boolean) :: ws) ({ frames := 1, cells := 0, slots := 0, locals := 12 } : Room)) (fun a_ U => a_ = #[(.ref a), (.double xd), (.double yd)] ∧ Z.Warmed39 U.vm ∧ U.heap = h0) (fun _ _ _ _ _ => True) (fun _ U o U' => ∃ v L, o = .returned v ∧ Q15 Z a xd yd ix iy h0 n0 v U'.heap L ∧ FrameEnd U o U' L (({ frames := 1, cells := 0, slots := 0, locals := 12 } : Room)).cells (({ frames := 1, cells := 0, slots := 0, locals := 12 } : Room)).slots) := by
  refine MetFree.of_bodySF (plainFor_of_name pn_15) hisR ?_
  intro p e s m args below meth c s₁ Bd hml0 hP0 hK
  obtain ⟨rfl, hZ, hh⟩ := hP0
  have hx := Bd.exec
  have hby := Bd.bytes
  have hml : c.maxLocals = 5 := hml0
  have hown : s.vm.findClass "com/example/geofence/geofence/Comparison" = some m.cls := findClass_of_methodNamed Bd.named
  have hnm := (name_of_methodNamed Bd.named Bd.method).1
  have X0 : Stand p l e ({ frames := 1, cells := 0, slots := 0, locals := 12 } : Room) s m #[(.ref a), (.double xd), (.double yd)] below meth c s₁ [] 0 0 := Stand.of_body Bd
  have e0 : s₁.heap = h0 := by rw [← hh, Bd.state]; rfl
  have N0 := Fr.nil n0
  have hlk : meth.locks = false := BodyLoose.notSynchronized Bd
  refine Go.start (P₀ := fun s₂ o => ∃ v L, o = .returned v ∧ Q15 Z a xd yd ix iy h0 n0 v s₂.heap L ∧ FrameEnd s o s₂ L (({ frames := 1, cells := 0, slots := 0, locals := 12 } : Room)).cells (({ frames := 1, cells := 0, slots := 0, locals := 12 } : Room)).slots) (congrArg s₁.setTop (ef_15 m a xd yd)) ?_
  intro P hP
  show Go p.tables e below P (s₁.setTop (mkF m 0 #[.val (.ref a), .val (.double xd), .second, .val (.double yd), .second] []))
  refine Go.step (fun t k => XS.aloadN X0.here hx rfl (hb hby d15_0) rfl rfl k) ?_
  show Go p.tables e below P (s₁.setTop (mkF m 1 #[.val (.ref a), .val (.double xd), .second, .val (.double yd), .second] [(.ref a)]))
  obtain ⟨cq_1, kq_1, q_1a, q_1b, q_1c⟩ := isOf hZ e0 E_a
  obtain ⟨_, _, ⟨T_1, L_1, k_1, n_1⟩, -, X_1, ⟨Lc_1, hQ_1, l_1, y_1, z_1⟩, st_1⟩ := X0.virtualBackUp hx (x := (⟨"com/example/geofence/geofence/Comparison", "ordinal", "()I"⟩ : MethodName)) (y := (⟨"java/lang/Enum", "ordinal", "()I"⟩ : MethodName)) (owner := "java/lang/Enum") hown (mvT hZ (hw _ (List.mem_of_getElem? (i := 29) rfl))) (mvT hZ (hw _ (List.mem_of_getElem? (i := 30) rfl))) (mvT hZ (hw _ (List.mem_of_getElem? (i := 31) rfl))) (by decide) (mvT hZ (hw _ (List.mem_of_getElem? (i := 33) rfl))) (mvT hZ (hw _ (List.mem_of_getElem? (i := 32) rfl))) (backOf (W := 0) (rm1 l Z a0 hw [] a (5 : Int32) h0 n0 Z0 F0) hZ (hw _ (List.mem_of_getElem? (i := 35) rfl)) (hw _ (List.mem_of_getElem? (i := 34) rfl)) (by decide) (by decide)) q_1a q_1c (g := (mkF m 1 #[.val (.ref a), .val (.double xd), .second, .val (.double yd), .second] [(.ref a)])) rfl (by rw [hml]; rfl) (Steps.refl _) (argsL := []) (rest := []) (lenOf pd_0 rfl) rfl (by show 2 * 0 + _ ≤ _; exact Nat.le_of_eq rfl) (hb hby d15_1) (fun _ _ => ⟨rfl, e0, (by decide : 0 + 0 ≤ _), (by decide : 0 + 0 ≤ _)⟩)
  dsimp only [Pt.U, Pt.locs, Pt.cells, Pt.slots] at X_1 l_1 y_1 z_1 st_1 hQ_1
  subst l_1 y_1 z_1
  obtain ⟨rfl, N_1q, eh_1⟩ := hQ_1
  have N_1 := Fr.app N0 N_1q
  refine Go.tr st_1 ?_
  show Go p.tables e below P (T_1.setTop (mkF m 4 #[.val (.ref a), .val (.double xd), .second, .val (.double yd), .second] [(.int (5 : Int32))]))
  refine Go.step (fun t k => XS.tswIn X_1.here hx rfl (pc0 := 4) (pc' := 124) (o := 120) rfl (hb hby d15_4) rfl (by decide) (by decide) (by decide) (by decide) k) ?_
  show Go p.tables e below P (T_1.setTop (mkF m 124 #[.val (.ref a), .val (.double xd), .second, .val (.double yd), .second] []))
  refine Go.step (fun t k => XS.dloadN X_1.here hx rfl (hb hby d15_124) rfl  k) ?_
  show Go p.tables e below P (T_1.setTop (mkF m 125 #[.val (.ref a), .val (.double xd), .second, .val (.double yd), .second] [(.double xd)]))
  refine Go.step (fun t k => XS.dloadN X_1.here hx rfl (hb hby d15_125) rfl  k) ?_
  show Go p.tables e below P (T_1.setTop (mkF m 126 #[.val (.ref a), .val (.double xd), .second, .val (.double yd), .second] [(.double yd), (.double xd)]))
  refine Go.step (fun t k => XS.dcmpS X_1.here hx rfl (hb hby d15_126) rfl rfl k) ?_
  show Go p.tables e below P (T_1.setTop (mkF m 127 #[.val (.ref a), .val (.double xd), .second, .val (.double yd), .second] [(.int (cmpValue (FP.dcmp xd yd) .l))]))
  by_cases hc127 : ix < iy
  · refine Go.step (fun t k => XS.ifYes X_1.here hx rfl (pc0 := 127) (pc' := 134) rfl (hb hby d15_127) rfl (dcY (cd := .lt) (DE.cmp qx qy) hc127) (by decide) (by decide) k) ?_
    show Go p.tables e below P (T_1.setTop (mkF m 134 #[.val (.ref a), .val (.double xd), .second, .val (.double yd), .second] []))
    refine Go.step (fun t k => XS.iconst X_1.here hx rfl (hb hby d15_134) k) ?_
    show Go p.tables e below P (T_1.setTop (mkF m 135 #[.val (.ref a), .val (.double xd), .second, .val (.double yd), .second] [(.int (0 : Int32))]))
    exact retGo X_1 hx hP Bd.returns hlk rfl (Or.inl ⟨rfl, Or.inr (Or.inl rfl), _, rfl⟩) (hb hby d15_135) (by decide) (by decide) (by rw [eh_1]; exact ⟨0, rfl, Or.inr ⟨by omega, rfl⟩, N_1, rfl⟩)
  · refine Go.step (fun t k => XS.ifNo X_1.here hx rfl (hb hby d15_127) rfl (dcN (cd := .lt) (DE.cmp qx qy) hc127) k) ?_
    show Go p.tables e below P (T_1.setTop (mkF m 130 #[.val (.ref a), .val (.double xd), .second, .val (.double yd), .second] []))
    refine Go.step (fun t k => XS.iconst X_1.here hx rfl (hb hby d15_130) k) ?_
    show Go p.tables e below P (T_1.setTop (mkF m 131 #[.val (.ref a), .val (.double xd), .second, .val (.double yd), .second] [(.int (1 : Int32))]))
    refine Go.step (fun t k => XS.goto X_1.here hx rfl (pc0 := 131) (pc' := 135) rfl (hb hby d15_131) (by decide) (by decide) k) ?_
    show Go p.tables e below P (T_1.setTop (mkF m 135 #[.val (.ref a), .val (.double xd), .second, .val (.double yd), .second] [(.int (1 : Int32))]))
    exact retGo X_1 hx hP Bd.returns hlk rfl (Or.inl ⟨rfl, Or.inr (Or.inl rfl), _, rfl⟩) (hb hby d15_135) (by decide) (by decide) (by rw [eh_1]; exact ⟨1, rfl, Or.inl ⟨by omega, rfl⟩, N_1, rfl⟩)
theorem d2_0 : decode prog_1_method_5_code 0 = .ok (.aload_n 0, 1) := by decide +kernel
theorem d2_1 : decode prog_1_method_5_code 1 = .ok (.getstatic 3, 3) := by decide +kernel
theorem d2_4 : decode prog_1_method_5_code 4 = .ok (.if_acmp .eq 10, 3) := by decide +kernel
theorem d2_7 : decode prog_1_method_5_code 7 = .ok (.aload_n 0, 1) := by decide +kernel
theorem d2_8 : decode prog_1_method_5_code 8 = .ok (.getstatic 7, 3) := by decide +kernel
theorem d2_11 : decode prog_1_method_5_code 11 = .ok (.if_acmp .ne 7, 3) := by decide +kernel
theorem d2_14 : decode prog_1_method_5_code 14 = .ok (.iconst 1, 1) := by decide +kernel
theorem d2_15 : decode prog_1_method_5_code 15 = .ok (.goto 4, 3) := by decide +kernel
theorem d2_18 : decode prog_1_method_5_code 18 = .ok (.iconst 0, 1) := by decide +kernel
theorem d2_19 : decode prog_1_method_5_code 19 = .ok (.ireturn, 1) := by decide +kernel
theorem pn_2 : plainName "com/example/geofence/geofence/Comparison" = true := by first | (simp [plainName, overriddenIn]; done) | decide +kernel
theorem ef_2 (m : MethodId) (x0 : Addr) : entryFrame m #[(.ref x0)] 1 = mkF m 0 #[.val (.ref x0)] [] := by first | (simp [entryFrame, mkF, argsToLocals, Value.category]; done) | rfl
def Q2 (Z : State) (a : Addr) (en0 : Addr) (en1 : Addr) (h0 : Heap) (n0 : Nat) (v : Option Value) (h : Heap) (L : List Loc) : Prop := ∃ r : Int32, v = some (.int r) ∧ (((a = en0 ∨ a = en1) ∧ r.toInt = 1) ∨ (¬ a = en0 ∧ ¬ a = en1 ∧ r.toInt = 0)) ∧ Fr n0 L ∧ h = h0
set_option maxRecDepth 65536 in
set_option maxHeartbeats 40000000 in
theorem rm2 (l : Launch) (Z : State) (a0 : Array Value) (hw : ∀ d ∈ tables_1, d.before a0 Z = true) (ws : List Jvm.Cond) (a : Addr) (en0 : Addr) (en1 : Addr) (h0 : Heap) (n0 : Nat) (Z0 : n0 ≤ h0.size) (S0 : Sta Z h0 "com/example/geofence/geofence/Comparison" "EQUAL" "Lcom/example/geofence/geofence/Comparison;" (.ref en0)) (S1 : Sta Z h0 "com/example/geofence/geofence/Comparison" "NOT_EQUAL" "Lcom/example/geofence/geofence/Comparison;" (.ref en1)) :
    MetFree l (⟨"com/example/geofence/geofence/Comparison", "isEquality", "()Z"⟩ : MethodName) (head1 (Jvm.Cond.code (⟨"com/example/geofence/geofence/Comparison", "isEquality", "()Z"⟩ : MethodName) prog_1_method_5_code 1 (some .boolean) :: ws) ({ frames := 0, cells := 0, slots := 0, locals := 0 } : Room)) (fun a_ U => a_ = #[(.ref a)] ∧ Z.Warmed39 U.vm ∧ U.heap = h0) (fun _ _ _ _ _ => True) (fun _ U o U' => ∃ v L, o = .returned v ∧ Q2 Z a en0 en1 h0 n0 v U'.heap L ∧ FrameEnd U o U' L (({ frames := 0, cells := 0, slots := 0, locals := 0 } : Room)).cells (({ frames := 0, cells := 0, slots := 0, locals := 0 } : Room)).slots) := by
  refine MetFree.of_bodySF (plainFor_of_name pn_2) hisR ?_
  intro p e s m args below meth c s₁ Bd hml0 hP0 hK
  obtain ⟨rfl, hZ, hh⟩ := hP0
  have hx := Bd.exec
  have hby := Bd.bytes
  have hml : c.maxLocals = 1 := hml0
  have hown : s.vm.findClass "com/example/geofence/geofence/Comparison" = some m.cls := findClass_of_methodNamed Bd.named
  have hnm := (name_of_methodNamed Bd.named Bd.method).1
  have X0 : Stand p l e ({ frames := 0, cells := 0, slots := 0, locals := 0 } : Room) s m #[(.ref a)] below meth c s₁ [] 0 0 := Stand.of_body Bd
  have e0 : s₁.heap = h0 := by rw [← hh, Bd.state]; rfl
  have N0 := Fr.nil n0
  have hlk : meth.locks = false := BodyLoose.notSynchronized Bd
  refine Go.start (P₀ := fun s₂ o => ∃ v L, o = .returned v ∧ Q2 Z a en0 en1 h0 n0 v s₂.heap L ∧ FrameEnd s o s₂ L (({ frames := 0, cells := 0, slots := 0, locals := 0 } : Room)).cells (({ frames := 0, cells := 0, slots := 0, locals := 0 } : Room)).slots) (congrArg s₁.setTop (ef_2 m a)) ?_
  intro P hP
  show Go p.tables e below P (s₁.setTop (mkF m 0 #[.val (.ref a)] []))
  refine Go.step (fun t k => XS.aloadN X0.here hx rfl (hb hby d2_0) rfl rfl k) ?_
  show Go p.tables e below P (s₁.setTop (mkF m 1 #[.val (.ref a)] [(.ref a)]))
  obtain ⟨T_1, X_1, e_1, st_1⟩ := getS2 X0 hx hZ hown (host := "") (Or.inl (hw _ (List.mem_of_getElem? (i := 22) rfl))) Via.refl e0 S0 (g := (mkF m 1 #[.val (.ref a)] [(.ref a)])) rfl (hb hby d2_1)
  refine Go.step (fun t k => st_1 t k) ?_
  show Go p.tables e below P (T_1.setTop (mkF m 4 #[.val (.ref a)] [(.ref en0), (.ref a)]))
  by_cases hc4 : a = en0
  · refine Go.step (fun t k => XS.acmpYes X_1.here hx rfl (pc0 := 4) (pc' := 14) rfl (hb hby d2_4) rfl (acY_eq hc4) (by decide) (by decide) k) ?_
    show Go p.tables e below P (T_1.setTop (mkF m 14 #[.val (.ref a)] []))
    refine Go.step (fun t k => XS.iconst X_1.here hx rfl (hb hby d2_14) k) ?_
    show Go p.tables e below P (T_1.setTop (mkF m 15 #[.val (.ref a)] [(.int (1 : Int32))]))
    refine Go.step (fun t k => XS.goto X_1.here hx rfl (pc0 := 15) (pc' := 19) rfl (hb hby d2_15) (by decide) (by decide) k) ?_
    show Go p.tables e below P (T_1.setTop (mkF m 19 #[.val (.ref a)] [(.int (1 : Int32))]))
    exact retGo X_1 hx hP Bd.returns hlk rfl (Or.inl ⟨rfl, Or.inr (Or.inl rfl), _, rfl⟩) (hb hby d2_19) (by decide) (by decide) (by rw [e_1]; exact ⟨1, rfl, Or.inl ⟨Or.inl hc4, rfl⟩, N0, rfl⟩)
  · refine Go.step (fun t k => XS.acmpNo X_1.here hx rfl (hb hby d2_4) rfl (acN_eq hc4) k) ?_
    show Go p.tables e below P (T_1.setTop (mkF m 7 #[.val (.ref a)] []))
    refine Go.step (fun t k => XS.aloadN X_1.here hx rfl (hb hby d2_7) rfl rfl k) ?_
    show Go p.tables e below P (T_1.setTop (mkF m 8 #[.val (.ref a)] [(.ref a)]))
    obtain ⟨T_2, X_2, e_2, st_2⟩ := getS2 X_1 hx hZ hown (host := "") (Or.inl (hw _ (List.mem_of_getElem? (i := 38) rfl))) Via.refl e_1 S1 (g := (mkF m 8 #[.val (.ref a)] [(.ref a)])) rfl (hb hby d2_8)
    refine Go.step (fun t k => st_2 t k) ?_
    show Go p.tables e below P (T_2.setTop (mkF m 11 #[.val (.ref a)] [(.ref en1), (.ref a)]))
    by_cases hc11 : ¬ a = en1
    · refine Go.step (fun t k => XS.acmpYes X_2.here hx rfl (pc0 := 11) (pc' := 18) rfl (hb hby d2_11) rfl (acY_ne hc11) (by decide) (by decide) k) ?_
      show Go p.tables e below P (T_2.setTop (mkF m 18 #[.val (.ref a)] []))
      refine Go.step (fun t k => XS.iconst X_2.here hx rfl (hb hby d2_18) k) ?_
      show Go p.tables e below P (T_2.setTop (mkF m 19 #[.val (.ref a)] [(.int (0 : Int32))]))
      exact retGo X_2 hx hP Bd.returns hlk rfl (Or.inl ⟨rfl, Or.inr (Or.inl rfl), _, rfl⟩) (hb hby d2_19) (by decide) (by decide) (by rw [e_2]; exact ⟨0, rfl, Or.inr ⟨hc4, hc11, rfl⟩, N0, rfl⟩)
    · refine Go.step (fun t k => XS.acmpNo X_2.here hx rfl (hb hby d2_11) rfl (acN_ne hc11) k) ?_
      show Go p.tables e below P (T_2.setTop (mkF m 14 #[.val (.ref a)] []))
      refine Go.step (fun t k => XS.iconst X_2.here hx rfl (hb hby d2_14) k) ?_
      show Go p.tables e below P (T_2.setTop (mkF m 15 #[.val (.ref a)] [(.int (1 : Int32))]))
      refine Go.step (fun t k => XS.goto X_2.here hx rfl (pc0 := 15) (pc' := 19) rfl (hb hby d2_15) (by decide) (by decide) k) ?_
      show Go p.tables e below P (T_2.setTop (mkF m 19 #[.val (.ref a)] [(.int (1 : Int32))]))
      exact retGo X_2 hx hP Bd.returns hlk rfl (Or.inl ⟨rfl, Or.inr (Or.inl rfl), _, rfl⟩) (hb hby d2_19) (by decide) (by decide) (by rw [e_2]; exact ⟨1, rfl, Or.inl ⟨Or.inr (Classical.byContradiction hc11), rfl⟩, N0, rfl⟩)
theorem pn_0 : plainName "com/example/geofence/geofence/ComparisonIsEqualityPinLaw" = true := by first | (simp [plainName, overriddenIn]; done) | decide +kernel
theorem ef_0 (m : MethodId) (x0 : Int32) (x1 : Int32) (x2 : Int32) : entryFrame m #[(.int x0), (.int x1), (.int x2)] maxLocals = mkF m 0 #[.val (.int x0), .val (.int x1), .val (.int x2), .unset, .unset, .unset, .unset, .unset, .unset, .unset, .unset, .unset, .unset, .unset, .unset] [] := by first | (simp [entryFrame, mkF, argsToLocals, Value.category, maxLocals]; done) | rfl
def Q0 (Z : State) (p1 : Int32) (p2 : Int32) (p3 : Int32) (en0 : Addr) (en1 : Addr) (en2 : Addr) (en3 : Addr) (en4 : Addr) (en5 : Addr) (h0 : Heap) (n0 : Nat) (v : Option Value) (h : Heap) (L : List Loc) : Prop := v = some (.int 1) ∧ Fr n0 L
set_option maxRecDepth 65536 in
set_option maxHeartbeats 40000000 in
theorem rm0 (l : Launch) (Z : State) (a0 : Array Value) (hw : ∀ d ∈ tables_1, d.before a0 Z = true) (ws : List Jvm.Cond) (p1 : Int32) (p2 : Int32) (p3 : Int32) (en0 : Addr) (en1 : Addr) (en2 : Addr) (en3 : Addr) (en4 : Addr) (en5 : Addr) (h0 : Heap) (n0 : Nat) (Z0 : n0 ≤ h0.size) (E_en0 : Exa Z h0 en0 "com/example/geofence/geofence/Comparison") (E_en1 : Exa Z h0 en1 "com/example/geofence/geofence/Comparison") (E_en2 : Exa Z h0 en2 "com/example/geofence/geofence/Comparison") (E_en3 : Exa Z h0 en3 "com/example/geofence/geofence/Comparison") (E_en4 : Exa Z h0 en4 "com/example/geofence/geofence/Comparison") (E_en5 : Exa Z h0 en5 "com/example/geofence/geofence/Comparison") (S0 : Sta Z h0 "com/example/geofence/geofence/Comparison" "EQUAL" "Lcom/example/geofence/geofence/Comparison;" (.ref en0)) (S1 : Sta Z h0 "com/example/geofence/geofence/Comparison" "NOT_EQUAL" "Lcom/example/geofence/geofence/Comparison;" (.ref en1)) (S2 : Sta Z h0 "com/example/geofence/geofence/Comparison" "LESS" "Lcom/example/geofence/geofence/Comparison;" (.ref en2)) (S3 : Sta Z h0 "com/example/geofence/geofence/Comparison" "LESS_OR_EQUAL" "Lcom/example/geofence/geofence/Comparison;" (.ref en3)) (S4 : Sta Z h0 "com/example/geofence/geofence/Comparison" "GREATER" "Lcom/example/geofence/geofence/Comparison;" (.ref en4)) (S5 : Sta Z h0 "com/example/geofence/geofence/Comparison" "GREATER_OR_EQUAL" "Lcom/example/geofence/geofence/Comparison;" (.ref en5)) (O0 : Fld Z h0 en0 "java/lang/Enum" "ordinal" "I" (.int (0 : Int32))) (O1 : Fld Z h0 en1 "java/lang/Enum" "ordinal" "I" (.int (1 : Int32))) (O2 : Fld Z h0 en2 "java/lang/Enum" "ordinal" "I" (.int (2 : Int32))) (O3 : Fld Z h0 en3 "java/lang/Enum" "ordinal" "I" (.int (3 : Int32))) (O4 : Fld Z h0 en4 "java/lang/Enum" "ordinal" "I" (.int (4 : Int32))) (O5 : Fld Z h0 en5 "java/lang/Enum" "ordinal" "I" (.int (5 : Int32))) (n0_1 : en1 ≠ en0) (n0_2 : en2 ≠ en0) (n0_3 : en3 ≠ en0) (n0_4 : en4 ≠ en0) (n0_5 : en5 ≠ en0) (n1_2 : en2 ≠ en1) (n1_3 : en3 ≠ en1) (n1_4 : en4 ≠ en1) (n1_5 : en5 ≠ en1) :
    MetFree l x (head1 (Jvm.Cond.code x code maxLocals ret :: ws) room_1) (fun a_ U => a_ = #[(.int p1), (.int p2), (.int p3)] ∧ Z.Warmed39 U.vm ∧ U.heap = h0) (fun _ _ _ _ _ => True) (fun _ U o U' => ∃ v L, o = .returned v ∧ Q0 Z p1 p2 p3 en0 en1 en2 en3 en4 en5 h0 n0 v U'.heap L ∧ FrameEnd U o U' L 16 128) := by
  refine MetFree.of_bodySF (plainFor_of_name pn_0) hisR ?_
  intro p e s m args below meth c s₁ Bd hml0 hP0 hK
  obtain ⟨rfl, hZ, hh⟩ := hP0
  have hx := Bd.exec
  have hby := Bd.bytes
  have hml : c.maxLocals = 15 := hml0
  have hown : s.vm.findClass "com/example/geofence/geofence/ComparisonIsEqualityPinLaw" = some m.cls := findClass_of_methodNamed Bd.named
  have hnm := (name_of_methodNamed Bd.named Bd.method).1
  have X0 : Stand p l e room_1 s m #[(.int p1), (.int p2), (.int p3)] below meth c s₁ [] 0 0 := Stand.of_body Bd
  have e0 : s₁.heap = h0 := by rw [← hh, Bd.state]; rfl
  have N0 := Fr.nil n0
  have hlk : meth.locks = false := BodyLoose.notSynchronized Bd
  refine Go.start (P₀ := fun s₂ o => ∃ v L, o = .returned v ∧ Q0 Z p1 p2 p3 en0 en1 en2 en3 en4 en5 h0 n0 v s₂.heap L ∧ FrameEnd s o s₂ L 16 128) (congrArg s₁.setTop (ef_0 m p1 p2 p3)) ?_
  intro P hP
  show Go p.tables e below P (s₁.setTop (mkF m 0 #[.val (.int p1), .val (.int p2), .val (.int p3), .unset, .unset, .unset, .unset, .unset, .unset, .unset, .unset, .unset, .unset, .unset, .unset] []))
  refine Go.step (fun t k => XS.bipush X0.here hx rfl (hb hby at_0) k) ?_
  show Go p.tables e below P (s₁.setTop (mkF m 2 #[.val (.int p1), .val (.int p2), .val (.int p3), .unset, .unset, .unset, .unset, .unset, .unset, .unset, .unset, .unset, .unset, .unset, .unset] [(.int (6 : Int32))]))
  obtain ⟨T_1, h_1, k_1, X_1, e_1, E_1, A_1, O_1, st_1⟩ := newR X0 hx hZ hown (hw _ (List.mem_of_getElem? (i := 0) rfl)) (hw _ (List.mem_of_getElem? (i := 1) rfl)) e0 (g := (mkF m 2 #[.val (.int p1), .val (.int p2), .val (.int p3), .unset, .unset, .unset, .unset, .unset, .unset, .unset, .unset, .unset, .unset, .unset, .unset] [(.int (6 : Int32))])) rfl (hb hby at_2) rfl (by decide) (cap := 6) (by decide) (by decide) (by decide) (by decide)
  obtain ⟨arr, g_1⟩ : ∃ z, z = h0.size := ⟨_, rfl⟩
  rw [← g_1] at A_1 st_1
  have g_arr : n0 ≤ arr := Nat.le_trans Z0 (Nat.le_of_eq g_1.symm)
  have sz_arr : h0.size ≤ arr := Nat.le_trans (Keep.refl h0 []).1 (Nat.le_of_eq g_1.symm)
  have lt_en0_arr : en0 < arr := Nat.lt_of_lt_of_le E_en0.lt (Nat.le_of_eq g_1.symm)
  have ne_en0_arr : en0 ≠ arr := Nat.ne_of_lt lt_en0_arr
  have lt_en1_arr : en1 < arr := Nat.lt_of_lt_of_le E_en1.lt (Nat.le_of_eq g_1.symm)
  have ne_en1_arr : en1 ≠ arr := Nat.ne_of_lt lt_en1_arr
  have lt_en2_arr : en2 < arr := Nat.lt_of_lt_of_le E_en2.lt (Nat.le_of_eq g_1.symm)
  have ne_en2_arr : en2 ≠ arr := Nat.ne_of_lt lt_en2_arr
  have lt_en3_arr : en3 < arr := Nat.lt_of_lt_of_le E_en3.lt (Nat.le_of_eq g_1.symm)
  have ne_en3_arr : en3 ≠ arr := Nat.ne_of_lt lt_en3_arr
  have lt_en4_arr : en4 < arr := Nat.lt_of_lt_of_le E_en4.lt (Nat.le_of_eq g_1.symm)
  have ne_en4_arr : en4 ≠ arr := Nat.ne_of_lt lt_en4_arr
  have lt_en5_arr : en5 < arr := Nat.lt_of_lt_of_le E_en5.lt (Nat.le_of_eq g_1.symm)
  have ne_en5_arr : en5 ≠ arr := Nat.ne_of_lt lt_en5_arr
  have V_1 : Arv Z h_1 arr k_1 (.object "com/example/geofence/geofence/Comparison") (6 : Int32) [.null, .null, .null, .null, .null, .null] .null := (Arv.new A_1 (by decide)).pad (pad_rep [] .null 6)
  have K_1 : Keep h0 h_1 [] := (Keep.refl h0 []).ext E_1
  have Z_1 : n0 ≤ h_1.size := Nat.le_trans Z0 E_1.1
  refine Go.step (fun t k => st_1 t k) ?_
  show Go p.tables e below P (T_1.setTop (mkF m 5 #[.val (.int p1), .val (.int p2), .val (.int p3), .unset, .unset, .unset, .unset, .unset, .unset, .unset, .unset, .unset, .unset, .unset, .unset] [(.ref arr)]))
  refine Go.step (fun t k => XS.dup X_1.here hx rfl (hb hby at_5) rfl rfl k) ?_
  show Go p.tables e below P (T_1.setTop (mkF m 6 #[.val (.int p1), .val (.int p2), .val (.int p3), .unset, .unset, .unset, .unset, .unset, .unset, .unset, .unset, .unset, .unset, .unset, .unset] [(.ref arr), (.ref arr)]))
  refine Go.step (fun t k => XS.iconst X_1.here hx rfl (hb hby at_6) k) ?_
  show Go p.tables e below P (T_1.setTop (mkF m 7 #[.val (.int p1), .val (.int p2), .val (.int p3), .unset, .unset, .unset, .unset, .unset, .unset, .unset, .unset, .unset, .unset, .unset, .unset] [(.int (0 : Int32)), (.ref arr), (.ref arr)]))
  obtain ⟨T_2, X_2, e_2, st_2⟩ := getS2 X_1 hx hZ hown (host := "") (Or.inl (hw _ (List.mem_of_getElem? (i := 2) rfl))) Via.refl e_1 (Sta_keep0 S0 K_1) (g := (mkF m 7 #[.val (.int p1), .val (.int p2), .val (.int p3), .unset, .unset, .unset, .unset, .unset, .unset, .unset, .unset, .unset, .unset, .unset, .unset] [(.int (0 : Int32)), (.ref arr), (.ref arr)])) rfl (hb hby at_7)
  refine Go.step (fun t k => st_2 t k) ?_
  show Go p.tables e below P (T_2.setTop (mkF m 10 #[.val (.int p1), .val (.int p2), .val (.int p3), .unset, .unset, .unset, .unset, .unset, .unset, .unset, .unset, .unset, .unset, .unset, .unset] [(.ref en0), (.int (0 : Int32)), (.ref arr), (.ref arr)]))
  have vq_3 := V_1
  obtain ⟨cl_3, Ar_3, q_3, S_3, Nn_3, H_3, G_3⟩ := vq_3
  have hin_3 : ¬ ((0 : Int32) < 0 ∨ cl_3.slots.size ≤ ((0 : Int32)).toNatClampNeg) := inb_of S_3 ⟨by decide, by decide⟩
  obtain ⟨T_4, h_4, X_4, e_4, W_4, st_4⟩ := stR X_2 hx hZ e_2 Ar_3 (j := (0 : Int32)) hin_3 rfl (Sto.ofV Ar_3 q_3 O_1 (Ins.self (E_en0.ext E_1))) (g := (mkF m 10 #[.val (.int p1), .val (.int p2), .val (.int p3), .unset, .unset, .unset, .unset, .unset, .unset, .unset, .unset, .unset, .unset, .unset, .unset] [(.ref en0), (.int (0 : Int32)), (.ref arr), (.ref arr)])) rfl rfl (hb hby at_10)
  have V_4 : Arv Z h_4 arr k_1 (.object "com/example/geofence/geofence/Comparison") (6 : Int32) [(.ref en0), .null, .null, .null, .null, .null] .null := Arv.set Ar_3 q_3 S_3 Nn_3 H_3 G_3 rfl W_4 0 rfl (Nat.le_of_ble_eq_true rfl)
  have N_4 := Fr.snoc X_4 N0 g_arr
  have K_4 : Keep h0 h_4 [] := K_1.wr W_4 (Or.inr sz_arr)
  have Z_4 : n0 ≤ h_4.size := Nat.le_trans Z_1 (Keep.of_wr W_4).1
  refine Go.step (fun t k => st_4 t k) ?_
  show Go p.tables e below P (T_4.setTop (mkF m 11 #[.val (.int p1), .val (.int p2), .val (.int p3), .unset, .unset, .unset, .unset, .unset, .unset, .unset, .unset, .unset, .unset, .unset, .unset] [(.ref arr)]))
  refine Go.step (fun t k => XS.dup X_4.here hx rfl (hb hby at_11) rfl rfl k) ?_
  show Go p.tables e below P (T_4.setTop (mkF m 12 #[.val (.int p1), .val (.int p2), .val (.int p3), .unset, .unset, .unset, .unset, .unset, .unset, .unset, .unset, .unset, .unset, .unset, .unset] [(.ref arr), (.ref arr)]))
  refine Go.step (fun t k => XS.iconst X_4.here hx rfl (hb hby at_12) k) ?_
  show Go p.tables e below P (T_4.setTop (mkF m 13 #[.val (.int p1), .val (.int p2), .val (.int p3), .unset, .unset, .unset, .unset, .unset, .unset, .unset, .unset, .unset, .unset, .unset, .unset] [(.int (1 : Int32)), (.ref arr), (.ref arr)]))
  obtain ⟨T_5, X_5, e_5, st_5⟩ := getS2 X_4 hx hZ hown (host := "") (Or.inl (hw _ (List.mem_of_getElem? (i := 6) rfl))) Via.refl e_4 (Sta_keep0 S1 K_4) (g := (mkF m 13 #[.val (.int p1), .val (.int p2), .val (.int p3), .unset, .unset, .unset, .unset, .unset, .unset, .unset, .unset, .unset, .unset, .unset, .unset] [(.int (1 : Int32)), (.ref arr), (.ref arr)])) rfl (hb hby at_13)
  refine Go.step (fun t k => st_5 t k) ?_
  show Go p.tables e below P (T_5.setTop (mkF m 16 #[.val (.int p1), .val (.int p2), .val (.int p3), .unset, .unset, .unset, .unset, .unset, .unset, .unset, .unset, .unset, .unset, .unset, .unset] [(.ref en1), (.int (1 : Int32)), (.ref arr), (.ref arr)]))
  have vq_6 := V_4
  obtain ⟨cl_6, Ar_6, q_6, S_6, Nn_6, H_6, G_6⟩ := vq_6
  have hin_6 : ¬ ((1 : Int32) < 0 ∨ cl_6.slots.size ≤ ((1 : Int32)).toNatClampNeg) := inb_of S_6 ⟨by decide, by decide⟩
  obtain ⟨T_7, h_7, X_7, e_7, W_7, st_7⟩ := stR X_5 hx hZ e_5 Ar_6 (j := (1 : Int32)) hin_6 rfl (Sto.ofV Ar_6 q_6 O_1 (Ins.self ((E_en1.ext E_1).wr W_4))) (g := (mkF m 16 #[.val (.int p1), .val (.int p2), .val (.int p3), .unset, .unset, .unset, .unset, .unset, .unset, .unset, .unset, .unset, .unset, .unset, .unset] [(.ref en1), (.int (1 : Int32)), (.ref arr), (.ref arr)])) rfl rfl (hb hby at_16)
  have V_7 : Arv Z h_7 arr k_1 (.object "com/example/geofence/geofence/Comparison") (6 : Int32) [(.ref en0), (.ref en1), .null, .null, .null, .null] .null := Arv.set Ar_6 q_6 S_6 Nn_6 H_6 G_6 rfl W_7 1 rfl (Nat.le_of_ble_eq_true rfl)
  have N_7 := Fr.snoc X_7 N_4 g_arr
  have K_7 : Keep h0 h_7 [] := K_4.wr W_7 (Or.inr sz_arr)
  have Z_7 : n0 ≤ h_7.size := Nat.le_trans Z_4 (Keep.of_wr W_7).1
  refine Go.step (fun t k => st_7 t k) ?_
  show Go p.tables e below P (T_7.setTop (mkF m 17 #[.val (.int p1), .val (.int p2), .val (.int p3), .unset, .unset, .unset, .unset, .unset, .unset, .unset, .unset, .unset, .unset, .unset, .unset] [(.ref arr)]))
  refine Go.step (fun t k => XS.dup X_7.here hx rfl (hb hby at_17) rfl rfl k) ?_
  show Go p.tables e below P (T_7.setTop (mkF m 18 #[.val (.int p1), .val (.int p2), .val (.int p3), .unset, .unset, .unset, .unset, .unset, .unset, .unset, .unset, .unset, .unset, .unset, .unset] [(.ref arr), (.ref arr)]))
  refine Go.step (fun t k => XS.iconst X_7.here hx rfl (hb hby at_18) k) ?_
  show Go p.tables e below P (T_7.setTop (mkF m 19 #[.val (.int p1), .val (.int p2), .val (.int p3), .unset, .unset, .unset, .unset, .unset, .unset, .unset, .unset, .unset, .unset, .unset, .unset] [(.int (2 : Int32)), (.ref arr), (.ref arr)]))
  obtain ⟨T_8, X_8, e_8, st_8⟩ := getS2 X_7 hx hZ hown (host := "") (Or.inl (hw _ (List.mem_of_getElem? (i := 8) rfl))) Via.refl e_7 (Sta_keep0 S2 K_7) (g := (mkF m 19 #[.val (.int p1), .val (.int p2), .val (.int p3), .unset, .unset, .unset, .unset, .unset, .unset, .unset, .unset, .unset, .unset, .unset, .unset] [(.int (2 : Int32)), (.ref arr), (.ref arr)])) rfl (hb hby at_19)
  refine Go.step (fun t k => st_8 t k) ?_
  show Go p.tables e below P (T_8.setTop (mkF m 22 #[.val (.int p1), .val (.int p2), .val (.int p3), .unset, .unset, .unset, .unset, .unset, .unset, .unset, .unset, .unset, .unset, .unset, .unset] [(.ref en2), (.int (2 : Int32)), (.ref arr), (.ref arr)]))
  have vq_9 := V_7
  obtain ⟨cl_9, Ar_9, q_9, S_9, Nn_9, H_9, G_9⟩ := vq_9
  have hin_9 : ¬ ((2 : Int32) < 0 ∨ cl_9.slots.size ≤ ((2 : Int32)).toNatClampNeg) := inb_of S_9 ⟨by decide, by decide⟩
  obtain ⟨T_10, h_10, X_10, e_10, W_10, st_10⟩ := stR X_8 hx hZ e_8 Ar_9 (j := (2 : Int32)) hin_9 rfl (Sto.ofV Ar_9 q_9 O_1 (Ins.self (((E_en2.ext E_1).wr W_4).wr W_7))) (g := (mkF m 22 #[.val (.int p1), .val (.int p2), .val (.int p3), .unset, .unset, .unset, .unset, .unset, .unset, .unset, .unset, .unset, .unset, .unset, .unset] [(.ref en2), (.int (2 : Int32)), (.ref arr), (.ref arr)])) rfl rfl (hb hby at_22)
  have V_10 : Arv Z h_10 arr k_1 (.object "com/example/geofence/geofence/Comparison") (6 : Int32) [(.ref en0), (.ref en1), (.ref en2), .null, .null, .null] .null := Arv.set Ar_9 q_9 S_9 Nn_9 H_9 G_9 rfl W_10 2 rfl (Nat.le_of_ble_eq_true rfl)
  have N_10 := Fr.snoc X_10 N_7 g_arr
  have K_10 : Keep h0 h_10 [] := K_7.wr W_10 (Or.inr sz_arr)
  have Z_10 : n0 ≤ h_10.size := Nat.le_trans Z_7 (Keep.of_wr W_10).1
  refine Go.step (fun t k => st_10 t k) ?_
  show Go p.tables e below P (T_10.setTop (mkF m 23 #[.val (.int p1), .val (.int p2), .val (.int p3), .unset, .unset, .unset, .unset, .unset, .unset, .unset, .unset, .unset, .unset, .unset, .unset] [(.ref arr)]))
  refine Go.step (fun t k => XS.dup X_10.here hx rfl (hb hby at_23) rfl rfl k) ?_
  show Go p.tables e below P (T_10.setTop (mkF m 24 #[.val (.int p1), .val (.int p2), .val (.int p3), .unset, .unset, .unset, .unset, .unset, .unset, .unset, .unset, .unset, .unset, .unset, .unset] [(.ref arr), (.ref arr)]))
  refine Go.step (fun t k => XS.iconst X_10.here hx rfl (hb hby at_24) k) ?_
  show Go p.tables e below P (T_10.setTop (mkF m 25 #[.val (.int p1), .val (.int p2), .val (.int p3), .unset, .unset, .unset, .unset, .unset, .unset, .unset, .unset, .unset, .unset, .unset, .unset] [(.int (3 : Int32)), (.ref arr), (.ref arr)]))
  obtain ⟨T_11, X_11, e_11, st_11⟩ := getS2 X_10 hx hZ hown (host := "") (Or.inl (hw _ (List.mem_of_getElem? (i := 10) rfl))) Via.refl e_10 (Sta_keep0 S3 K_10) (g := (mkF m 25 #[.val (.int p1), .val (.int p2), .val (.int p3), .unset, .unset, .unset, .unset, .unset, .unset, .unset, .unset, .unset, .unset, .unset, .unset] [(.int (3 : Int32)), (.ref arr), (.ref arr)])) rfl (hb hby at_25)
  refine Go.step (fun t k => st_11 t k) ?_
  show Go p.tables e below P (T_11.setTop (mkF m 28 #[.val (.int p1), .val (.int p2), .val (.int p3), .unset, .unset, .unset, .unset, .unset, .unset, .unset, .unset, .unset, .unset, .unset, .unset] [(.ref en3), (.int (3 : Int32)), (.ref arr), (.ref arr)]))
  have vq_12 := V_10
  obtain ⟨cl_12, Ar_12, q_12, S_12, Nn_12, H_12, G_12⟩ := vq_12
  have hin_12 : ¬ ((3 : Int32) < 0 ∨ cl_12.slots.size ≤ ((3 : Int32)).toNatClampNeg) := inb_of S_12 ⟨by decide, by decide⟩
  obtain ⟨T_13, h_13, X_13, e_13, W_13, st_13⟩ := stR X_11 hx hZ e_11 Ar_12 (j := (3 : Int32)) hin_12 rfl (Sto.ofV Ar_12 q_12 O_1 (Ins.self ((((E_en3.ext E_1).wr W_4).wr W_7).wr W_10))) (g := (mkF m 28 #[.val (.int p1), .val (.int p2), .val (.int p3), .unset, .unset, .unset, .unset, .unset, .unset, .unset, .unset, .unset, .unset, .unset, .unset] [(.ref en3), (.int (3 : Int32)), (.ref arr), (.ref arr)])) rfl rfl (hb hby at_28)
  have V_13 : Arv Z h_13 arr k_1 (.object "com/example/geofence/geofence/Comparison") (6 : Int32) [(.ref en0), (.ref en1), (.ref en2), (.ref en3), .null, .null] .null := Arv.set Ar_12 q_12 S_12 Nn_12 H_12 G_12 rfl W_13 3 rfl (Nat.le_of_ble_eq_true rfl)
  have N_13 := Fr.snoc X_13 N_10 g_arr
  have K_13 : Keep h0 h_13 [] := K_10.wr W_13 (Or.inr sz_arr)
  have Z_13 : n0 ≤ h_13.size := Nat.le_trans Z_10 (Keep.of_wr W_13).1
  refine Go.step (fun t k => st_13 t k) ?_
  show Go p.tables e below P (T_13.setTop (mkF m 29 #[.val (.int p1), .val (.int p2), .val (.int p3), .unset, .unset, .unset, .unset, .unset, .unset, .unset, .unset, .unset, .unset, .unset, .unset] [(.ref arr)]))
  refine Go.step (fun t k => XS.dup X_13.here hx rfl (hb hby at_29) rfl rfl k) ?_
  show Go p.tables e below P (T_13.setTop (mkF m 30 #[.val (.int p1), .val (.int p2), .val (.int p3), .unset, .unset, .unset, .unset, .unset, .unset, .unset, .unset, .unset, .unset, .unset, .unset] [(.ref arr), (.ref arr)]))
  refine Go.step (fun t k => XS.iconst X_13.here hx rfl (hb hby at_30) k) ?_
  show Go p.tables e below P (T_13.setTop (mkF m 31 #[.val (.int p1), .val (.int p2), .val (.int p3), .unset, .unset, .unset, .unset, .unset, .unset, .unset, .unset, .unset, .unset, .unset, .unset] [(.int (4 : Int32)), (.ref arr), (.ref arr)]))
  obtain ⟨T_14, X_14, e_14, st_14⟩ := getS2 X_13 hx hZ hown (host := "") (Or.inl (hw _ (List.mem_of_getElem? (i := 12) rfl))) Via.refl e_13 (Sta_keep0 S4 K_13) (g := (mkF m 31 #[.val (.int p1), .val (.int p2), .val (.int p3), .unset, .unset, .unset, .unset, .unset, .unset, .unset, .unset, .unset, .unset, .unset, .unset] [(.int (4 : Int32)), (.ref arr), (.ref arr)])) rfl (hb hby at_31)
  refine Go.step (fun t k => st_14 t k) ?_
  show Go p.tables e below P (T_14.setTop (mkF m 34 #[.val (.int p1), .val (.int p2), .val (.int p3), .unset, .unset, .unset, .unset, .unset, .unset, .unset, .unset, .unset, .unset, .unset, .unset] [(.ref en4), (.int (4 : Int32)), (.ref arr), (.ref arr)]))
  have vq_15 := V_13
  obtain ⟨cl_15, Ar_15, q_15, S_15, Nn_15, H_15, G_15⟩ := vq_15
  have hin_15 : ¬ ((4 : Int32) < 0 ∨ cl_15.slots.size ≤ ((4 : Int32)).toNatClampNeg) := inb_of S_15 ⟨by decide, by decide⟩
  obtain ⟨T_16, h_16, X_16, e_16, W_16, st_16⟩ := stR X_14 hx hZ e_14 Ar_15 (j := (4 : Int32)) hin_15 rfl (Sto.ofV Ar_15 q_15 O_1 (Ins.self (((((E_en4.ext E_1).wr W_4).wr W_7).wr W_10).wr W_13))) (g := (mkF m 34 #[.val (.int p1), .val (.int p2), .val (.int p3), .unset, .unset, .unset, .unset, .unset, .unset, .unset, .unset, .unset, .unset, .unset, .unset] [(.ref en4), (.int (4 : Int32)), (.ref arr), (.ref arr)])) rfl rfl (hb hby at_34)
  have V_16 : Arv Z h_16 arr k_1 (.object "com/example/geofence/geofence/Comparison") (6 : Int32) [(.ref en0), (.ref en1), (.ref en2), (.ref en3), (.ref en4), .null] .null := Arv.set Ar_15 q_15 S_15 Nn_15 H_15 G_15 rfl W_16 4 rfl (Nat.le_of_ble_eq_true rfl)
  have N_16 := Fr.snoc X_16 N_13 g_arr
  have K_16 : Keep h0 h_16 [] := K_13.wr W_16 (Or.inr sz_arr)
  have Z_16 : n0 ≤ h_16.size := Nat.le_trans Z_13 (Keep.of_wr W_16).1
  refine Go.step (fun t k => st_16 t k) ?_
  show Go p.tables e below P (T_16.setTop (mkF m 35 #[.val (.int p1), .val (.int p2), .val (.int p3), .unset, .unset, .unset, .unset, .unset, .unset, .unset, .unset, .unset, .unset, .unset, .unset] [(.ref arr)]))
  refine Go.step (fun t k => XS.dup X_16.here hx rfl (hb hby at_35) rfl rfl k) ?_
  show Go p.tables e below P (T_16.setTop (mkF m 36 #[.val (.int p1), .val (.int p2), .val (.int p3), .unset, .unset, .unset, .unset, .unset, .unset, .unset, .unset, .unset, .unset, .unset, .unset] [(.ref arr), (.ref arr)]))
  refine Go.step (fun t k => XS.iconst X_16.here hx rfl (hb hby at_36) k) ?_
  show Go p.tables e below P (T_16.setTop (mkF m 37 #[.val (.int p1), .val (.int p2), .val (.int p3), .unset, .unset, .unset, .unset, .unset, .unset, .unset, .unset, .unset, .unset, .unset, .unset] [(.int (5 : Int32)), (.ref arr), (.ref arr)]))
  obtain ⟨T_17, X_17, e_17, st_17⟩ := getS2 X_16 hx hZ hown (host := "") (Or.inl (hw _ (List.mem_of_getElem? (i := 14) rfl))) Via.refl e_16 (Sta_keep0 S5 K_16) (g := (mkF m 37 #[.val (.int p1), .val (.int p2), .val (.int p3), .unset, .unset, .unset, .unset, .unset, .unset, .unset, .unset, .unset, .unset, .unset, .unset] [(.int (5 : Int32)), (.ref arr), (.ref arr)])) rfl (hb hby at_37)
  refine Go.step (fun t k => st_17 t k) ?_
  show Go p.tables e below P (T_17.setTop (mkF m 40 #[.val (.int p1), .val (.int p2), .val (.int p3), .unset, .unset, .unset, .unset, .unset, .unset, .unset, .unset, .unset, .unset, .unset, .unset] [(.ref en5), (.int (5 : Int32)), (.ref arr), (.ref arr)]))
  have vq_18 := V_16
  obtain ⟨cl_18, Ar_18, q_18, S_18, Nn_18, H_18, G_18⟩ := vq_18
  have hin_18 : ¬ ((5 : Int32) < 0 ∨ cl_18.slots.size ≤ ((5 : Int32)).toNatClampNeg) := inb_of S_18 ⟨by decide, by decide⟩
  obtain ⟨T_19, h_19, X_19, e_19, W_19, st_19⟩ := stR X_17 hx hZ e_17 Ar_18 (j := (5 : Int32)) hin_18 rfl (Sto.ofV Ar_18 q_18 O_1 (Ins.self ((((((E_en5.ext E_1).wr W_4).wr W_7).wr W_10).wr W_13).wr W_16))) (g := (mkF m 40 #[.val (.int p1), .val (.int p2), .val (.int p3), .unset, .unset, .unset, .unset, .unset, .unset, .unset, .unset, .unset, .unset, .unset, .unset] [(.ref en5), (.int (5 : Int32)), (.ref arr), (.ref arr)])) rfl rfl (hb hby at_40)
  have V_19 : Arv Z h_19 arr k_1 (.object "com/example/geofence/geofence/Comparison") (6 : Int32) [(.ref en0), (.ref en1), (.ref en2), (.ref en3), (.ref en4), (.ref en5)] .null := Arv.set Ar_18 q_18 S_18 Nn_18 H_18 G_18 rfl W_19 5 rfl (Nat.le_of_ble_eq_true rfl)
  have N_19 := Fr.snoc X_19 N_16 g_arr
  have K_19 : Keep h0 h_19 [] := K_16.wr W_19 (Or.inr sz_arr)
  have Z_19 : n0 ≤ h_19.size := Nat.le_trans Z_16 (Keep.of_wr W_19).1
  refine Go.step (fun t k => st_19 t k) ?_
  show Go p.tables e below P (T_19.setTop (mkF m 41 #[.val (.int p1), .val (.int p2), .val (.int p3), .unset, .unset, .unset, .unset, .unset, .unset, .unset, .unset, .unset, .unset, .unset, .unset] [(.ref arr)]))
  refine Go.step (fun t k => XS.astoreN X_19.here hx rfl (hb hby at_41) rfl rfl (l' := #[.val (.int p1), .val (.int p2), .val (.int p3), .val (.ref arr), .unset, .unset, .unset, .unset, .unset, .unset, .unset, .unset, .unset, .unset, .unset]) rfl k) ?_
  show Go p.tables e below P (T_19.setTop (mkF m 42 #[.val (.int p1), .val (.int p2), .val (.int p3), .val (.ref arr), .unset, .unset, .unset, .unset, .unset, .unset, .unset, .unset, .unset, .unset, .unset] []))
  refine Go.step (fun t k => XS.iloadN X_19.here hx rfl (hb hby at_42) rfl  k) ?_
  show Go p.tables e below P (T_19.setTop (mkF m 43 #[.val (.int p1), .val (.int p2), .val (.int p3), .val (.ref arr), .unset, .unset, .unset, .unset, .unset, .unset, .unset, .unset, .unset, .unset, .unset] [(.int p1)]))
  refine Go.step (fun t k => X_19.ldcInt hx hown (mvT hZ (hw _ (List.mem_of_getElem? (i := 16) rfl))) (g := (mkF m 43 #[.val (.int p1), .val (.int p2), .val (.int p3), .val (.ref arr), .unset, .unset, .unset, .unset, .unset, .unset, .unset, .unset, .unset, .unset, .unset] [(.int p1)])) rfl (hb hby at_43) t k) ?_
  show Go p.tables e below P (T_19.setTop (mkF m 45 #[.val (.int p1), .val (.int p2), .val (.int p3), .val (.ref arr), .unset, .unset, .unset, .unset, .unset, .unset, .unset, .unset, .unset, .unset, .unset] [(.int (2147483647 : Int32)), (.int p1)]))
  obtain ⟨i45, hi45⟩ : ∃ z : Int32, p1 &&& (2147483647 : Int32) = z := ⟨_, rfl⟩
  refine Go.step (fun t k => iand_v X_19.here hx rfl (hb hby at_45) rfl  hi45 k) ?_
  show Go p.tables e below P (T_19.setTop (mkF m 46 #[.val (.int p1), .val (.int p2), .val (.int p3), .val (.ref arr), .unset, .unset, .unset, .unset, .unset, .unset, .unset, .unset, .unset, .unset, .unset] [(.int i45)]))
  refine Go.step (fun t k => XS.bipush X_19.here hx rfl (hb hby at_46) k) ?_
  show Go p.tables e below P (T_19.setTop (mkF m 48 #[.val (.int p1), .val (.int p2), .val (.int p3), .val (.ref arr), .unset, .unset, .unset, .unset, .unset, .unset, .unset, .unset, .unset, .unset, .unset] [(.int (6 : Int32)), (.int i45)]))
  obtain ⟨i48, hi48⟩ : ∃ z : Int32, i45 % (6 : Int32) = z := ⟨_, rfl⟩
  refine Go.step (fun t k => irem_v X_19.here hx rfl (hb hby at_48) rfl (by decide) hi48 k) ?_
  show Go p.tables e below P (T_19.setTop (mkF m 49 #[.val (.int p1), .val (.int p2), .val (.int p3), .val (.ref arr), .unset, .unset, .unset, .unset, .unset, .unset, .unset, .unset, .unset, .unset, .unset] [(.int i48)]))
  have f45 := c_mask p1 (2147483647 : Int32) 31 (by decide) rfl; rw [hi45] at f45
  have f48 := c_irem i45 (6 : Int32) 6 rfl; rw [hi48] at f48
  have f48' := f48.1 (by omega)
  have b48 : 0 ≤ i48.toInt ∧ i48.toInt < 6 := by omega
  clear f45 f48 f48' hi48
  refine Go.step (fun t k => XS.istore X_19.here hx rfl (hb hby at_49) rfl (l' := #[.val (.int p1), .val (.int p2), .val (.int p3), .val (.ref arr), .val (.int i48), .unset, .unset, .unset, .unset, .unset, .unset, .unset, .unset, .unset, .unset]) rfl k) ?_
  show Go p.tables e below P (T_19.setTop (mkF m 51 #[.val (.int p1), .val (.int p2), .val (.int p3), .val (.ref arr), .val (.int i48), .unset, .unset, .unset, .unset, .unset, .unset, .unset, .unset, .unset, .unset] []))
  refine Go.step (fun t k => XS.aloadN X_19.here hx rfl (hb hby at_51) rfl rfl k) ?_
  show Go p.tables e below P (T_19.setTop (mkF m 52 #[.val (.int p1), .val (.int p2), .val (.int p3), .val (.ref arr), .val (.int i48), .unset, .unset, .unset, .unset, .unset, .unset, .unset, .unset, .unset, .unset] [(.ref arr)]))
  refine Go.step (fun t k => XS.iload X_19.here hx rfl (hb hby at_52) rfl  k) ?_
  show Go p.tables e below P (T_19.setTop (mkF m 54 #[.val (.int p1), .val (.int p2), .val (.int p3), .val (.ref arr), .val (.int i48), .unset, .unset, .unset, .unset, .unset, .unset, .unset, .unset, .unset, .unset] [(.int i48), (.ref arr)]))
  have hj48 : i48 = (0 : Int32) ∨ i48 = (1 : Int32) ∨ i48 = (2 : Int32) ∨ i48 = (3 : Int32) ∨ i48 = (4 : Int32) ∨ i48 = (5 : Int32) := by
    have hh : i48.toInt = 0 ∨ i48.toInt = 1 ∨ i48.toInt = 2 ∨ i48.toInt = 3 ∨ i48.toInt = 4 ∨ i48.toInt = 5 := by omega
    rcases hh with hh | hh | hh | hh | hh | hh
    · exact Or.inl (Int32.toInt_inj.mp (hh.trans rfl))
    · exact Or.inr (Or.inl (Int32.toInt_inj.mp (hh.trans rfl)))
    · exact Or.inr (Or.inr (Or.inl (Int32.toInt_inj.mp (hh.trans rfl))))
    · exact Or.inr (Or.inr (Or.inr (Or.inl (Int32.toInt_inj.mp (hh.trans rfl)))))
    · exact Or.inr (Or.inr (Or.inr (Or.inr (Or.inl (Int32.toInt_inj.mp (hh.trans rfl))))))
    · exact Or.inr (Or.inr (Or.inr (Or.inr (Or.inr ((Int32.toInt_inj.mp (hh.trans rfl)))))))
  rcases hj48 with ej48 | ej48 | ej48 | ej48 | ej48 | ej48
  · subst ej48
    show Go p.tables e below P (T_19.setTop (mkF m 54 #[.val (.int p1), .val (.int p2), .val (.int p3), .val (.ref arr), .val (.int (0 : Int32)), .unset, .unset, .unset, .unset, .unset, .unset, .unset, .unset, .unset, .unset] [(.int (0 : Int32)), (.ref arr)]))
    have vq_20 := V_19
    obtain ⟨cl_20, Ar_20, q_20, S_20, Nn_20, H_20, G_20⟩ := vq_20
    have hin_20 : ¬ ((0 : Int32) < 0 ∨ cl_20.slots.size ≤ ((0 : Int32)).toNatClampNeg) := inb_of S_20 ⟨by decide, by decide⟩
    have hat_20 : cl_20.slots[((0 : Int32)).toNatClampNeg]? = some (.ref en0) := Has.at H_20 hin_20 rfl
    refine Go.step (fun t k => X_19.aaload hx (j := (0 : Int32)) (v := (.ref en0)) (by rw [e_19]; exact Ar_20.1) (State.isArrayOf_alike hZ.alike Ar_20.2.1) rfl Ar_20.2.2 hin_20 hat_20 (g := (mkF m 54 #[.val (.int p1), .val (.int p2), .val (.int p3), .val (.ref arr), .val (.int (0 : Int32)), .unset, .unset, .unset, .unset, .unset, .unset, .unset, .unset, .unset, .unset] [(.int (0 : Int32)), (.ref arr)])) rfl rfl (hb hby at_54) t k) ?_
    show Go p.tables e below P (T_19.setTop (mkF m 55 #[.val (.int p1), .val (.int p2), .val (.int p3), .val (.ref arr), .val (.int (0 : Int32)), .unset, .unset, .unset, .unset, .unset, .unset, .unset, .unset, .unset, .unset] [(.ref en0)]))
    refine Go.step (fun t k => XS.astore X_19.here hx rfl (hb hby at_55) rfl rfl (l' := #[.val (.int p1), .val (.int p2), .val (.int p3), .val (.ref arr), .val (.int (0 : Int32)), .val (.ref en0), .unset, .unset, .unset, .unset, .unset, .unset, .unset, .unset, .unset]) rfl k) ?_
    show Go p.tables e below P (T_19.setTop (mkF m 57 #[.val (.int p1), .val (.int p2), .val (.int p3), .val (.ref arr), .val (.int (0 : Int32)), .val (.ref en0), .unset, .unset, .unset, .unset, .unset, .unset, .unset, .unset, .unset] []))
    refine Go.step (fun t k => XS.aload X_19.here hx rfl (hb hby at_57) rfl rfl k) ?_
    show Go p.tables e below P (T_19.setTop (mkF m 59 #[.val (.int p1), .val (.int p2), .val (.int p3), .val (.ref arr), .val (.int (0 : Int32)), .val (.ref en0), .unset, .unset, .unset, .unset, .unset, .unset, .unset, .unset, .unset] [(.ref en0)]))
    obtain ⟨cq_21, kq_21, q_21a, q_21b, q_21c⟩ := isOf hZ e_19 (((((((E_en0.ext E_1).wr W_4).wr W_7).wr W_10).wr W_13).wr W_16).wr W_19)
    obtain ⟨_, _, ⟨T_21, L_21, k_21, n_21⟩, -, X_21, ⟨Lc_21, hQ_21, l_21, y_21, z_21⟩, st_21⟩ := X_19.virtualBack hx (y := (⟨"com/example/geofence/geofence/Comparison", "isEquality", "()Z"⟩ : MethodName)) (z := (⟨"com/example/geofence/geofence/Comparison", "isEquality", "()Z"⟩ : MethodName)) hown (mvT hZ (hw _ (List.mem_of_getElem? (i := 17) rfl))) (mvT hZ (hw _ (List.mem_of_getElem? (i := 18) rfl))) (notFace_of_selects (args := #[]) (mvT hZ (hw _ (List.mem_of_getElem? (i := 20) rfl)))) (mvT hZ (hw _ (List.mem_of_getElem? (i := 20) rfl))) (mvT hZ (hw _ (List.mem_of_getElem? (i := 19) rfl))) (by decide) (backOf (W := 0) (rm2 l Z a0 hw [] en0 en0 en1 h_19 n0 Z_19 (Sta_keep0 S0 K_19) (Sta_keep0 S1 K_19)) hZ (hw _ (List.mem_of_getElem? (i := 21) rfl)) (hw _ (List.mem_of_getElem? (i := 3) rfl)) (by decide) (by decide)) q_21a q_21c (g := (mkF m 59 #[.val (.int p1), .val (.int p2), .val (.int p3), .val (.ref arr), .val (.int (0 : Int32)), .val (.ref en0), .unset, .unset, .unset, .unset, .unset, .unset, .unset, .unset, .unset] [(.ref en0)])) rfl (by rw [hml]; rfl) (Steps.refl _) (argsL := []) (rest := []) (lenOf pd_1 rfl) rfl (by show 2 * 0 + _ ≤ _; exact Nat.le_of_eq rfl) (hb hby at_59) (fun _ _ => ⟨rfl, e_19, (by decide : 1 + 0 ≤ _), (by decide : 6 + 0 ≤ _)⟩)
    dsimp only [Pt.U, Pt.locs, Pt.cells, Pt.slots] at X_21 l_21 y_21 z_21 st_21 hQ_21
    subst l_21 y_21 z_21
    obtain ⟨r6, rfl, hr6, N_21q, eh_21⟩ := hQ_21
    have N_21 := Fr.app N_19 N_21q
    refine Go.tr st_21 ?_
    show Go p.tables e below P (T_21.setTop (mkF m 62 #[.val (.int p1), .val (.int p2), .val (.int p3), .val (.ref arr), .val (.int (0 : Int32)), .val (.ref en0), .unset, .unset, .unset, .unset, .unset, .unset, .unset, .unset, .unset] [(.int r6)]))
    have v6 : r6.toInt = 1 := by rcases hr6 with ⟨h1, h2⟩ | ⟨h1, h2, h3⟩; exact h2; exact absurd rfl h1
    clear hr6
    refine Go.step (fun t k => XS.istore X_21.here hx rfl (hb hby at_62) rfl (l' := #[.val (.int p1), .val (.int p2), .val (.int p3), .val (.ref arr), .val (.int (0 : Int32)), .val (.ref en0), .val (.int r6), .unset, .unset, .unset, .unset, .unset, .unset, .unset, .unset]) rfl k) ?_
    show Go p.tables e below P (T_21.setTop (mkF m 64 #[.val (.int p1), .val (.int p2), .val (.int p3), .val (.ref arr), .val (.int (0 : Int32)), .val (.ref en0), .val (.int r6), .unset, .unset, .unset, .unset, .unset, .unset, .unset, .unset] []))
    refine Go.step (fun t k => XS.iload X_21.here hx rfl (hb hby at_64) rfl  k) ?_
    show Go p.tables e below P (T_21.setTop (mkF m 66 #[.val (.int p1), .val (.int p2), .val (.int p3), .val (.ref arr), .val (.int (0 : Int32)), .val (.ref en0), .val (.int r6), .unset, .unset, .unset, .unset, .unset, .unset, .unset, .unset] [(.int (0 : Int32))]))
    refine Go.step (fun t k => XS.iconst X_21.here hx rfl (hb hby at_66) k) ?_
    show Go p.tables e below P (T_21.setTop (mkF m 67 #[.val (.int p1), .val (.int p2), .val (.int p3), .val (.ref arr), .val (.int (0 : Int32)), .val (.ref en0), .val (.int r6), .unset, .unset, .unset, .unset, .unset, .unset, .unset, .unset] [(.int (2 : Int32)), (.int (0 : Int32))]))
    refine Go.step (fun t k => XS.icmpNo X_21.here hx rfl (hb hby at_67) rfl (icN (cd := .ge) (by decide : ¬ ((2 : Int) ≤ (0 : Int)))) k) ?_
    show Go p.tables e below P (T_21.setTop (mkF m 70 #[.val (.int p1), .val (.int p2), .val (.int p3), .val (.ref arr), .val (.int (0 : Int32)), .val (.ref en0), .val (.int r6), .unset, .unset, .unset, .unset, .unset, .unset, .unset, .unset] []))
    refine Go.step (fun t k => XS.iconst X_21.here hx rfl (hb hby at_70) k) ?_
    show Go p.tables e below P (T_21.setTop (mkF m 71 #[.val (.int p1), .val (.int p2), .val (.int p3), .val (.ref arr), .val (.int (0 : Int32)), .val (.ref en0), .val (.int r6), .unset, .unset, .unset, .unset, .unset, .unset, .unset, .unset] [(.int (1 : Int32))]))
    refine Go.step (fun t k => XS.goto X_21.here hx rfl (pc0 := 71) (pc' := 75) rfl (hb hby at_71) (by decide) (by decide) k) ?_
    show Go p.tables e below P (T_21.setTop (mkF m 75 #[.val (.int p1), .val (.int p2), .val (.int p3), .val (.ref arr), .val (.int (0 : Int32)), .val (.ref en0), .val (.int r6), .unset, .unset, .unset, .unset, .unset, .unset, .unset, .unset] [(.int (1 : Int32))]))
    refine Go.step (fun t k => XS.istore X_21.here hx rfl (hb hby at_75) rfl (l' := #[.val (.int p1), .val (.int p2), .val (.int p3), .val (.ref arr), .val (.int (0 : Int32)), .val (.ref en0), .val (.int r6), .val (.int (1 : Int32)), .unset, .unset, .unset, .unset, .unset, .unset, .unset]) rfl k) ?_
    show Go p.tables e below P (T_21.setTop (mkF m 77 #[.val (.int p1), .val (.int p2), .val (.int p3), .val (.ref arr), .val (.int (0 : Int32)), .val (.ref en0), .val (.int r6), .val (.int (1 : Int32)), .unset, .unset, .unset, .unset, .unset, .unset, .unset] []))
    refine Go.step (fun t k => XS.aload X_21.here hx rfl (hb hby at_77) rfl rfl k) ?_
    show Go p.tables e below P (T_21.setTop (mkF m 79 #[.val (.int p1), .val (.int p2), .val (.int p3), .val (.ref arr), .val (.int (0 : Int32)), .val (.ref en0), .val (.int r6), .val (.int (1 : Int32)), .unset, .unset, .unset, .unset, .unset, .unset, .unset] [(.ref en0)]))
    refine Go.step (fun t k => XS.dconst1 X_21.here hx rfl (hb hby at_79) rfl k) ?_
    show Go p.tables e below P (T_21.setTop (mkF m 80 #[.val (.int p1), .val (.int p2), .val (.int p3), .val (.ref arr), .val (.int (0 : Int32)), .val (.ref en0), .val (.int r6), .val (.int (1 : Int32)), .unset, .unset, .unset, .unset, .unset, .unset, .unset] [(.double FP.dconst1), (.ref en0)]))
    refine Go.step (fun t k => X_21.ldc2DoubleC hx hown (mvT hZ (hw _ (List.mem_of_getElem? (i := 23) rfl))) (g := (mkF m 80 #[.val (.int p1), .val (.int p2), .val (.int p3), .val (.ref arr), .val (.int (0 : Int32)), .val (.ref en0), .val (.int r6), .val (.int (1 : Int32)), .unset, .unset, .unset, .unset, .unset, .unset, .unset] [(.double FP.dconst1), (.ref en0)])) rfl (hb hby at_80) t k) ?_
    show Go p.tables e below P (T_21.setTop (mkF m 83 #[.val (.int p1), .val (.int p2), .val (.int p3), .val (.ref arr), .val (.int (0 : Int32)), .val (.ref en0), .val (.int r6), .val (.int (1 : Int32)), .unset, .unset, .unset, .unset, .unset, .unset, .unset] [(.double (4611686018427387904 : UInt64)), (.double FP.dconst1), (.ref en0)]))
    obtain ⟨cq_22, kq_22, q_22a, q_22b, q_22c⟩ := isOf hZ eh_21 (((((((E_en0.ext E_1).wr W_4).wr W_7).wr W_10).wr W_13).wr W_16).wr W_19)
    obtain ⟨_, _, ⟨T_22, L_22, k_22, n_22⟩, -, X_22, ⟨Lc_22, hQ_22, l_22, y_22, z_22⟩, st_22⟩ := X_21.virtualBack hx (y := (⟨"com/example/geofence/geofence/Comparison", "holds", "(DD)Z"⟩ : MethodName)) (z := (⟨"com/example/geofence/geofence/Comparison", "holds", "(DD)Z"⟩ : MethodName)) hown (mvT hZ (hw _ (List.mem_of_getElem? (i := 24) rfl))) (mvT hZ (hw _ (List.mem_of_getElem? (i := 25) rfl))) (notFace_of_selects (args := #[]) (mvT hZ (hw _ (List.mem_of_getElem? (i := 27) rfl)))) (mvT hZ (hw _ (List.mem_of_getElem? (i := 27) rfl))) (mvT hZ (hw _ (List.mem_of_getElem? (i := 26) rfl))) (by decide) (backOf (W := 0) (holds0 l Z a0 hw [] en0 FP.dconst1 (4611686018427387904 : UInt64) (1) (2) h_19 n0 Z_19 (((((((E_en0.ext E_1).wr W_4).wr W_7).wr W_10).wr W_13).wr W_16).wr W_19) (((((((O0.ext E_1).other W_4 (Or.inl ne_en0_arr)).other W_7 (Or.inl ne_en0_arr)).other W_10 (Or.inl ne_en0_arr)).other W_13 (Or.inl ne_en0_arr)).other W_16 (Or.inl ne_en0_arr)).other W_19 (Or.inl ne_en0_arr)) one_e two_e) hZ (hw _ (List.mem_of_getElem? (i := 28) rfl)) (hw _ (List.mem_of_getElem? (i := 3) rfl)) (by decide) (by decide)) q_22a q_22c (g := (mkF m 83 #[.val (.int p1), .val (.int p2), .val (.int p3), .val (.ref arr), .val (.int (0 : Int32)), .val (.ref en0), .val (.int r6), .val (.int (1 : Int32)), .unset, .unset, .unset, .unset, .unset, .unset, .unset] [(.double (4611686018427387904 : UInt64)), (.double FP.dconst1), (.ref en0)])) rfl (by rw [hml]; rfl) (Steps.refl _) (argsL := [(.double FP.dconst1), (.double (4611686018427387904 : UInt64))]) (rest := []) (lenOf pd_2 rfl) rfl (by show 2 * 0 + _ ≤ _; exact Nat.le_of_eq rfl) (hb hby at_83) (fun _ _ => ⟨rfl, eh_21, (by decide : 1 + 0 ≤ _), (by decide : 6 + 0 ≤ _)⟩)
    dsimp only [Pt.U, Pt.locs, Pt.cells, Pt.slots] at X_22 l_22 y_22 z_22 st_22 hQ_22
    subst l_22 y_22 z_22
    obtain ⟨r8, rfl, hr8, N_22q, eh_22⟩ := hQ_22
    have N_22 := Fr.app N_21 N_22q
    refine Go.tr st_22 ?_
    show Go p.tables e below P (T_22.setTop (mkF m 86 #[.val (.int p1), .val (.int p2), .val (.int p3), .val (.ref arr), .val (.int (0 : Int32)), .val (.ref en0), .val (.int r6), .val (.int (1 : Int32)), .unset, .unset, .unset, .unset, .unset, .unset, .unset] [(.int r8)]))
    refine Go.step (fun t k => XS.istore X_22.here hx rfl (hb hby at_86) rfl (l' := #[.val (.int p1), .val (.int p2), .val (.int p3), .val (.ref arr), .val (.int (0 : Int32)), .val (.ref en0), .val (.int r6), .val (.int (1 : Int32)), .val (.int r8), .unset, .unset, .unset, .unset, .unset, .unset]) rfl k) ?_
    show Go p.tables e below P (T_22.setTop (mkF m 88 #[.val (.int p1), .val (.int p2), .val (.int p3), .val (.ref arr), .val (.int (0 : Int32)), .val (.ref en0), .val (.int r6), .val (.int (1 : Int32)), .val (.int r8), .unset, .unset, .unset, .unset, .unset, .unset] []))
    refine Go.step (fun t k => XS.aload X_22.here hx rfl (hb hby at_88) rfl rfl k) ?_
    show Go p.tables e below P (T_22.setTop (mkF m 90 #[.val (.int p1), .val (.int p2), .val (.int p3), .val (.ref arr), .val (.int (0 : Int32)), .val (.ref en0), .val (.int r6), .val (.int (1 : Int32)), .val (.int r8), .unset, .unset, .unset, .unset, .unset, .unset] [(.ref en0)]))
    refine Go.step (fun t k => X_22.ldc2DoubleC hx hown (mvT hZ (hw _ (List.mem_of_getElem? (i := 23) rfl))) (g := (mkF m 90 #[.val (.int p1), .val (.int p2), .val (.int p3), .val (.ref arr), .val (.int (0 : Int32)), .val (.ref en0), .val (.int r6), .val (.int (1 : Int32)), .val (.int r8), .unset, .unset, .unset, .unset, .unset, .unset] [(.ref en0)])) rfl (hb hby at_90) t k) ?_
    show Go p.tables e below P (T_22.setTop (mkF m 93 #[.val (.int p1), .val (.int p2), .val (.int p3), .val (.ref arr), .val (.int (0 : Int32)), .val (.ref en0), .val (.int r6), .val (.int (1 : Int32)), .val (.int r8), .unset, .unset, .unset, .unset, .unset, .unset] [(.double (4611686018427387904 : UInt64)), (.ref en0)]))
    refine Go.step (fun t k => XS.dconst1 X_22.here hx rfl (hb hby at_93) rfl k) ?_
    show Go p.tables e below P (T_22.setTop (mkF m 94 #[.val (.int p1), .val (.int p2), .val (.int p3), .val (.ref arr), .val (.int (0 : Int32)), .val (.ref en0), .val (.int r6), .val (.int (1 : Int32)), .val (.int r8), .unset, .unset, .unset, .unset, .unset, .unset] [(.double FP.dconst1), (.double (4611686018427387904 : UInt64)), (.ref en0)]))
    obtain ⟨cq_23, kq_23, q_23a, q_23b, q_23c⟩ := isOf hZ eh_22 (((((((E_en0.ext E_1).wr W_4).wr W_7).wr W_10).wr W_13).wr W_16).wr W_19)
    obtain ⟨_, _, ⟨T_23, L_23, k_23, n_23⟩, -, X_23, ⟨Lc_23, hQ_23, l_23, y_23, z_23⟩, st_23⟩ := X_22.virtualBack hx (y := (⟨"com/example/geofence/geofence/Comparison", "holds", "(DD)Z"⟩ : MethodName)) (z := (⟨"com/example/geofence/geofence/Comparison", "holds", "(DD)Z"⟩ : MethodName)) hown (mvT hZ (hw _ (List.mem_of_getElem? (i := 24) rfl))) (mvT hZ (hw _ (List.mem_of_getElem? (i := 25) rfl))) (notFace_of_selects (args := #[]) (mvT hZ (hw _ (List.mem_of_getElem? (i := 27) rfl)))) (mvT hZ (hw _ (List.mem_of_getElem? (i := 27) rfl))) (mvT hZ (hw _ (List.mem_of_getElem? (i := 26) rfl))) (by decide) (backOf (W := 0) (holds0 l Z a0 hw [] en0 (4611686018427387904 : UInt64) FP.dconst1 (2) (1) h_19 n0 Z_19 (((((((E_en0.ext E_1).wr W_4).wr W_7).wr W_10).wr W_13).wr W_16).wr W_19) (((((((O0.ext E_1).other W_4 (Or.inl ne_en0_arr)).other W_7 (Or.inl ne_en0_arr)).other W_10 (Or.inl ne_en0_arr)).other W_13 (Or.inl ne_en0_arr)).other W_16 (Or.inl ne_en0_arr)).other W_19 (Or.inl ne_en0_arr)) two_e one_e) hZ (hw _ (List.mem_of_getElem? (i := 28) rfl)) (hw _ (List.mem_of_getElem? (i := 3) rfl)) (by decide) (by decide)) q_23a q_23c (g := (mkF m 94 #[.val (.int p1), .val (.int p2), .val (.int p3), .val (.ref arr), .val (.int (0 : Int32)), .val (.ref en0), .val (.int r6), .val (.int (1 : Int32)), .val (.int r8), .unset, .unset, .unset, .unset, .unset, .unset] [(.double FP.dconst1), (.double (4611686018427387904 : UInt64)), (.ref en0)])) rfl (by rw [hml]; rfl) (Steps.refl _) (argsL := [(.double (4611686018427387904 : UInt64)), (.double FP.dconst1)]) (rest := []) (lenOf pd_2 rfl) rfl (by show 2 * 0 + _ ≤ _; exact Nat.le_of_eq rfl) (hb hby at_94) (fun _ _ => ⟨rfl, eh_22, (by decide : 1 + 0 ≤ _), (by decide : 6 + 0 ≤ _)⟩)
    dsimp only [Pt.U, Pt.locs, Pt.cells, Pt.slots] at X_23 l_23 y_23 z_23 st_23 hQ_23
    subst l_23 y_23 z_23
    obtain ⟨r9, rfl, hr9, N_23q, eh_23⟩ := hQ_23
    have N_23 := Fr.app N_22 N_23q
    refine Go.tr st_23 ?_
    show Go p.tables e below P (T_23.setTop (mkF m 97 #[.val (.int p1), .val (.int p2), .val (.int p3), .val (.ref arr), .val (.int (0 : Int32)), .val (.ref en0), .val (.int r6), .val (.int (1 : Int32)), .val (.int r8), .unset, .unset, .unset, .unset, .unset, .unset] [(.int r9)]))
    refine Go.step (fun t k => XS.istore X_23.here hx rfl (hb hby at_97) rfl (l' := #[.val (.int p1), .val (.int p2), .val (.int p3), .val (.ref arr), .val (.int (0 : Int32)), .val (.ref en0), .val (.int r6), .val (.int (1 : Int32)), .val (.int r8), .val (.int r9), .unset, .unset, .unset, .unset, .unset]) rfl k) ?_
    show Go p.tables e below P (T_23.setTop (mkF m 99 #[.val (.int p1), .val (.int p2), .val (.int p3), .val (.ref arr), .val (.int (0 : Int32)), .val (.ref en0), .val (.int r6), .val (.int (1 : Int32)), .val (.int r8), .val (.int r9), .unset, .unset, .unset, .unset, .unset] []))
    refine Go.step (fun t k => XS.iloadN X_23.here hx rfl (hb hby at_99) rfl  k) ?_
    show Go p.tables e below P (T_23.setTop (mkF m 100 #[.val (.int p1), .val (.int p2), .val (.int p3), .val (.ref arr), .val (.int (0 : Int32)), .val (.ref en0), .val (.int r6), .val (.int (1 : Int32)), .val (.int r8), .val (.int r9), .unset, .unset, .unset, .unset, .unset] [(.int p2)]))
    obtain ⟨d100, hd100⟩ : ∃ z : UInt64, FP.i2d p2 = z := ⟨_, rfl⟩
    refine Go.step (fun t k => XS.i2dS X_23.here hx rfl (hb hby at_100) rfl hd100 k) ?_
    show Go p.tables e below P (T_23.setTop (mkF m 101 #[.val (.int p1), .val (.int p2), .val (.int p3), .val (.ref arr), .val (.int (0 : Int32)), .val (.ref en0), .val (.int r6), .val (.int (1 : Int32)), .val (.int r8), .val (.int r9), .unset, .unset, .unset, .unset, .unset] [(.double d100)]))
    have q100 := i2d_e p2; rw [hd100] at q100
    refine Go.step (fun t k => XS.dstore X_23.here hx rfl (hb hby at_101) rfl (l' := #[.val (.int p1), .val (.int p2), .val (.int p3), .val (.ref arr), .val (.int (0 : Int32)), .val (.ref en0), .val (.int r6), .val (.int (1 : Int32)), .val (.int r8), .val (.int r9), .val (.double d100), .second, .unset, .unset, .unset]) rfl k) ?_
    show Go p.tables e below P (T_23.setTop (mkF m 103 #[.val (.int p1), .val (.int p2), .val (.int p3), .val (.ref arr), .val (.int (0 : Int32)), .val (.ref en0), .val (.int r6), .val (.int (1 : Int32)), .val (.int r8), .val (.int r9), .val (.double d100), .second, .unset, .unset, .unset] []))
    refine Go.step (fun t k => XS.iloadN X_23.here hx rfl (hb hby at_103) rfl  k) ?_
    show Go p.tables e below P (T_23.setTop (mkF m 104 #[.val (.int p1), .val (.int p2), .val (.int p3), .val (.ref arr), .val (.int (0 : Int32)), .val (.ref en0), .val (.int r6), .val (.int (1 : Int32)), .val (.int r8), .val (.int r9), .val (.double d100), .second, .unset, .unset, .unset] [(.int p3)]))
    obtain ⟨d104, hd104⟩ : ∃ z : UInt64, FP.i2d p3 = z := ⟨_, rfl⟩
    refine Go.step (fun t k => XS.i2dS X_23.here hx rfl (hb hby at_104) rfl hd104 k) ?_
    show Go p.tables e below P (T_23.setTop (mkF m 105 #[.val (.int p1), .val (.int p2), .val (.int p3), .val (.ref arr), .val (.int (0 : Int32)), .val (.ref en0), .val (.int r6), .val (.int (1 : Int32)), .val (.int r8), .val (.int r9), .val (.double d100), .second, .unset, .unset, .unset] [(.double d104)]))
    have q104 := i2d_e p3; rw [hd104] at q104
    refine Go.step (fun t k => XS.dstore X_23.here hx rfl (hb hby at_105) rfl (l' := #[.val (.int p1), .val (.int p2), .val (.int p3), .val (.ref arr), .val (.int (0 : Int32)), .val (.ref en0), .val (.int r6), .val (.int (1 : Int32)), .val (.int r8), .val (.int r9), .val (.double d100), .second, .val (.double d104), .second, .unset]) rfl k) ?_
    show Go p.tables e below P (T_23.setTop (mkF m 107 #[.val (.int p1), .val (.int p2), .val (.int p3), .val (.ref arr), .val (.int (0 : Int32)), .val (.ref en0), .val (.int r6), .val (.int (1 : Int32)), .val (.int r8), .val (.int r9), .val (.double d100), .second, .val (.double d104), .second, .unset] []))
    refine Go.step (fun t k => XS.aload X_23.here hx rfl (hb hby at_107) rfl rfl k) ?_
    show Go p.tables e below P (T_23.setTop (mkF m 109 #[.val (.int p1), .val (.int p2), .val (.int p3), .val (.ref arr), .val (.int (0 : Int32)), .val (.ref en0), .val (.int r6), .val (.int (1 : Int32)), .val (.int r8), .val (.int r9), .val (.double d100), .second, .val (.double d104), .second, .unset] [(.ref en0)]))
    refine Go.step (fun t k => XS.dload X_23.here hx rfl (hb hby at_109) rfl  k) ?_
    show Go p.tables e below P (T_23.setTop (mkF m 111 #[.val (.int p1), .val (.int p2), .val (.int p3), .val (.ref arr), .val (.int (0 : Int32)), .val (.ref en0), .val (.int r6), .val (.int (1 : Int32)), .val (.int r8), .val (.int r9), .val (.double d100), .second, .val (.double d104), .second, .unset] [(.double d100), (.ref en0)]))
    refine Go.step (fun t k => XS.dload X_23.here hx rfl (hb hby at_111) rfl  k) ?_
    show Go p.tables e below P (T_23.setTop (mkF m 113 #[.val (.int p1), .val (.int p2), .val (.int p3), .val (.ref arr), .val (.int (0 : Int32)), .val (.ref en0), .val (.int r6), .val (.int (1 : Int32)), .val (.int r8), .val (.int r9), .val (.double d100), .second, .val (.double d104), .second, .unset] [(.double d104), (.double d100), (.ref en0)]))
    obtain ⟨cq_24, kq_24, q_24a, q_24b, q_24c⟩ := isOf hZ eh_23 (((((((E_en0.ext E_1).wr W_4).wr W_7).wr W_10).wr W_13).wr W_16).wr W_19)
    obtain ⟨_, _, ⟨T_24, L_24, k_24, n_24⟩, -, X_24, ⟨Lc_24, hQ_24, l_24, y_24, z_24⟩, st_24⟩ := X_23.virtualBack hx (y := (⟨"com/example/geofence/geofence/Comparison", "holds", "(DD)Z"⟩ : MethodName)) (z := (⟨"com/example/geofence/geofence/Comparison", "holds", "(DD)Z"⟩ : MethodName)) hown (mvT hZ (hw _ (List.mem_of_getElem? (i := 24) rfl))) (mvT hZ (hw _ (List.mem_of_getElem? (i := 25) rfl))) (notFace_of_selects (args := #[]) (mvT hZ (hw _ (List.mem_of_getElem? (i := 27) rfl)))) (mvT hZ (hw _ (List.mem_of_getElem? (i := 27) rfl))) (mvT hZ (hw _ (List.mem_of_getElem? (i := 26) rfl))) (by decide) (backOf (W := 0) (holds0 l Z a0 hw [] en0 d100 d104 (p2.toInt) (p3.toInt) h_19 n0 Z_19 (((((((E_en0.ext E_1).wr W_4).wr W_7).wr W_10).wr W_13).wr W_16).wr W_19) (((((((O0.ext E_1).other W_4 (Or.inl ne_en0_arr)).other W_7 (Or.inl ne_en0_arr)).other W_10 (Or.inl ne_en0_arr)).other W_13 (Or.inl ne_en0_arr)).other W_16 (Or.inl ne_en0_arr)).other W_19 (Or.inl ne_en0_arr)) q100 q104) hZ (hw _ (List.mem_of_getElem? (i := 28) rfl)) (hw _ (List.mem_of_getElem? (i := 3) rfl)) (by decide) (by decide)) q_24a q_24c (g := (mkF m 113 #[.val (.int p1), .val (.int p2), .val (.int p3), .val (.ref arr), .val (.int (0 : Int32)), .val (.ref en0), .val (.int r6), .val (.int (1 : Int32)), .val (.int r8), .val (.int r9), .val (.double d100), .second, .val (.double d104), .second, .unset] [(.double d104), (.double d100), (.ref en0)])) rfl (by rw [hml]; rfl) (Steps.refl _) (argsL := [(.double d100), (.double d104)]) (rest := []) (lenOf pd_2 rfl) rfl (by show 2 * 0 + _ ≤ _; exact Nat.le_of_eq rfl) (hb hby at_113) (fun _ _ => ⟨rfl, eh_23, (by decide : 1 + 0 ≤ _), (by decide : 6 + 0 ≤ _)⟩)
    dsimp only [Pt.U, Pt.locs, Pt.cells, Pt.slots] at X_24 l_24 y_24 z_24 st_24 hQ_24
    subst l_24 y_24 z_24
    obtain ⟨ra, rfl, hra, N_24q, eh_24⟩ := hQ_24
    have N_24 := Fr.app N_23 N_24q
    refine Go.tr st_24 ?_
    show Go p.tables e below P (T_24.setTop (mkF m 116 #[.val (.int p1), .val (.int p2), .val (.int p3), .val (.ref arr), .val (.int (0 : Int32)), .val (.ref en0), .val (.int r6), .val (.int (1 : Int32)), .val (.int r8), .val (.int r9), .val (.double d100), .second, .val (.double d104), .second, .unset] [(.int ra)]))
    refine Go.step (fun t k => XS.aload X_24.here hx rfl (hb hby at_116) rfl rfl k) ?_
    show Go p.tables e below P (T_24.setTop (mkF m 118 #[.val (.int p1), .val (.int p2), .val (.int p3), .val (.ref arr), .val (.int (0 : Int32)), .val (.ref en0), .val (.int r6), .val (.int (1 : Int32)), .val (.int r8), .val (.int r9), .val (.double d100), .second, .val (.double d104), .second, .unset] [(.ref en0), (.int ra)]))
    refine Go.step (fun t k => XS.dload X_24.here hx rfl (hb hby at_118) rfl  k) ?_
    show Go p.tables e below P (T_24.setTop (mkF m 120 #[.val (.int p1), .val (.int p2), .val (.int p3), .val (.ref arr), .val (.int (0 : Int32)), .val (.ref en0), .val (.int r6), .val (.int (1 : Int32)), .val (.int r8), .val (.int r9), .val (.double d100), .second, .val (.double d104), .second, .unset] [(.double d104), (.ref en0), (.int ra)]))
    refine Go.step (fun t k => XS.dload X_24.here hx rfl (hb hby at_120) rfl  k) ?_
    show Go p.tables e below P (T_24.setTop (mkF m 122 #[.val (.int p1), .val (.int p2), .val (.int p3), .val (.ref arr), .val (.int (0 : Int32)), .val (.ref en0), .val (.int r6), .val (.int (1 : Int32)), .val (.int r8), .val (.int r9), .val (.double d100), .second, .val (.double d104), .second, .unset] [(.double d100), (.double d104), (.ref en0), (.int ra)]))
    obtain ⟨cq_25, kq_25, q_25a, q_25b, q_25c⟩ := isOf hZ eh_24 (((((((E_en0.ext E_1).wr W_4).wr W_7).wr W_10).wr W_13).wr W_16).wr W_19)
    obtain ⟨_, _, ⟨T_25, L_25, k_25, n_25⟩, -, X_25, ⟨Lc_25, hQ_25, l_25, y_25, z_25⟩, st_25⟩ := X_24.virtualBack hx (y := (⟨"com/example/geofence/geofence/Comparison", "holds", "(DD)Z"⟩ : MethodName)) (z := (⟨"com/example/geofence/geofence/Comparison", "holds", "(DD)Z"⟩ : MethodName)) hown (mvT hZ (hw _ (List.mem_of_getElem? (i := 24) rfl))) (mvT hZ (hw _ (List.mem_of_getElem? (i := 25) rfl))) (notFace_of_selects (args := #[]) (mvT hZ (hw _ (List.mem_of_getElem? (i := 27) rfl)))) (mvT hZ (hw _ (List.mem_of_getElem? (i := 27) rfl))) (mvT hZ (hw _ (List.mem_of_getElem? (i := 26) rfl))) (by decide) (backOf (W := 1) (holds0 l Z a0 hw [] en0 d104 d100 (p3.toInt) (p2.toInt) h_19 n0 Z_19 (((((((E_en0.ext E_1).wr W_4).wr W_7).wr W_10).wr W_13).wr W_16).wr W_19) (((((((O0.ext E_1).other W_4 (Or.inl ne_en0_arr)).other W_7 (Or.inl ne_en0_arr)).other W_10 (Or.inl ne_en0_arr)).other W_13 (Or.inl ne_en0_arr)).other W_16 (Or.inl ne_en0_arr)).other W_19 (Or.inl ne_en0_arr)) q104 q100) hZ (hw _ (List.mem_of_getElem? (i := 28) rfl)) (hw _ (List.mem_of_getElem? (i := 3) rfl)) (by decide) (by decide)) q_25a q_25c (g := (mkF m 122 #[.val (.int p1), .val (.int p2), .val (.int p3), .val (.ref arr), .val (.int (0 : Int32)), .val (.ref en0), .val (.int r6), .val (.int (1 : Int32)), .val (.int r8), .val (.int r9), .val (.double d100), .second, .val (.double d104), .second, .unset] [(.double d100), (.double d104), (.ref en0), (.int ra)])) rfl (by rw [hml]; rfl) (Steps.refl _) (argsL := [(.double d104), (.double d100)]) (rest := [(.int ra)]) (lenOf pd_2 rfl) rfl (by show 2 * 0 + _ ≤ _; exact Nat.le_of_eq rfl) (hb hby at_122) (fun _ _ => ⟨rfl, eh_24, (by decide : 1 + 0 ≤ _), (by decide : 6 + 0 ≤ _)⟩)
    dsimp only [Pt.U, Pt.locs, Pt.cells, Pt.slots] at X_25 l_25 y_25 z_25 st_25 hQ_25
    subst l_25 y_25 z_25
    obtain ⟨rb, rfl, hrb, N_25q, eh_25⟩ := hQ_25
    have N_25 := Fr.app N_24 N_25q
    refine Go.tr st_25 ?_
    show Go p.tables e below P (T_25.setTop (mkF m 125 #[.val (.int p1), .val (.int p2), .val (.int p3), .val (.ref arr), .val (.int (0 : Int32)), .val (.ref en0), .val (.int r6), .val (.int (1 : Int32)), .val (.int r8), .val (.int r9), .val (.double d100), .second, .val (.double d104), .second, .unset] [(.int rb), (.int ra)]))
    refine Go.step (fun t k => XS.icmpNo X_25.here hx rfl (hb hby at_125) rfl (icN (cd := .ne) (by omega : ¬ (¬ ra.toInt = rb.toInt))) k) ?_
    show Go p.tables e below P (T_25.setTop (mkF m 128 #[.val (.int p1), .val (.int p2), .val (.int p3), .val (.ref arr), .val (.int (0 : Int32)), .val (.ref en0), .val (.int r6), .val (.int (1 : Int32)), .val (.int r8), .val (.int r9), .val (.double d100), .second, .val (.double d104), .second, .unset] []))
    refine Go.step (fun t k => XS.iconst X_25.here hx rfl (hb hby at_128) k) ?_
    show Go p.tables e below P (T_25.setTop (mkF m 129 #[.val (.int p1), .val (.int p2), .val (.int p3), .val (.ref arr), .val (.int (0 : Int32)), .val (.ref en0), .val (.int r6), .val (.int (1 : Int32)), .val (.int r8), .val (.int r9), .val (.double d100), .second, .val (.double d104), .second, .unset] [(.int (1 : Int32))]))
    refine Go.step (fun t k => XS.goto X_25.here hx rfl (pc0 := 129) (pc' := 133) rfl (hb hby at_129) (by decide) (by decide) k) ?_
    show Go p.tables e below P (T_25.setTop (mkF m 133 #[.val (.int p1), .val (.int p2), .val (.int p3), .val (.ref arr), .val (.int (0 : Int32)), .val (.ref en0), .val (.int r6), .val (.int (1 : Int32)), .val (.int r8), .val (.int r9), .val (.double d100), .second, .val (.double d104), .second, .unset] [(.int (1 : Int32))]))
    refine Go.step (fun t k => XS.istore X_25.here hx rfl (hb hby at_133) rfl (l' := #[.val (.int p1), .val (.int p2), .val (.int p3), .val (.ref arr), .val (.int (0 : Int32)), .val (.ref en0), .val (.int r6), .val (.int (1 : Int32)), .val (.int r8), .val (.int r9), .val (.double d100), .second, .val (.double d104), .second, .val (.int (1 : Int32))]) rfl k) ?_
    show Go p.tables e below P (T_25.setTop (mkF m 135 #[.val (.int p1), .val (.int p2), .val (.int p3), .val (.ref arr), .val (.int (0 : Int32)), .val (.ref en0), .val (.int r6), .val (.int (1 : Int32)), .val (.int r8), .val (.int r9), .val (.double d100), .second, .val (.double d104), .second, .val (.int (1 : Int32))] []))
    refine Go.step (fun t k => XS.iload X_25.here hx rfl (hb hby at_135) rfl  k) ?_
    show Go p.tables e below P (T_25.setTop (mkF m 137 #[.val (.int p1), .val (.int p2), .val (.int p3), .val (.ref arr), .val (.int (0 : Int32)), .val (.ref en0), .val (.int r6), .val (.int (1 : Int32)), .val (.int r8), .val (.int r9), .val (.double d100), .second, .val (.double d104), .second, .val (.int (1 : Int32))] [(.int r6)]))
    refine Go.step (fun t k => XS.iload X_25.here hx rfl (hb hby at_137) rfl  k) ?_
    show Go p.tables e below P (T_25.setTop (mkF m 139 #[.val (.int p1), .val (.int p2), .val (.int p3), .val (.ref arr), .val (.int (0 : Int32)), .val (.ref en0), .val (.int r6), .val (.int (1 : Int32)), .val (.int r8), .val (.int r9), .val (.double d100), .second, .val (.double d104), .second, .val (.int (1 : Int32))] [(.int (1 : Int32)), (.int r6)]))
    refine Go.step (fun t k => XS.icmpNo X_25.here hx rfl (hb hby at_139) rfl (icN (cd := .ne) (by omega : ¬ (¬ r6.toInt = (1 : Int)))) k) ?_
    show Go p.tables e below P (T_25.setTop (mkF m 142 #[.val (.int p1), .val (.int p2), .val (.int p3), .val (.ref arr), .val (.int (0 : Int32)), .val (.ref en0), .val (.int r6), .val (.int (1 : Int32)), .val (.int r8), .val (.int r9), .val (.double d100), .second, .val (.double d104), .second, .val (.int (1 : Int32))] []))
    refine Go.step (fun t k => XS.iload X_25.here hx rfl (hb hby at_142) rfl  k) ?_
    show Go p.tables e below P (T_25.setTop (mkF m 144 #[.val (.int p1), .val (.int p2), .val (.int p3), .val (.ref arr), .val (.int (0 : Int32)), .val (.ref en0), .val (.int r6), .val (.int (1 : Int32)), .val (.int r8), .val (.int r9), .val (.double d100), .second, .val (.double d104), .second, .val (.int (1 : Int32))] [(.int r6)]))
    refine Go.step (fun t k => XS.iload X_25.here hx rfl (hb hby at_144) rfl  k) ?_
    show Go p.tables e below P (T_25.setTop (mkF m 146 #[.val (.int p1), .val (.int p2), .val (.int p3), .val (.ref arr), .val (.int (0 : Int32)), .val (.ref en0), .val (.int r6), .val (.int (1 : Int32)), .val (.int r8), .val (.int r9), .val (.double d100), .second, .val (.double d104), .second, .val (.int (1 : Int32))] [(.int r8), (.int r6)]))
    refine Go.step (fun t k => XS.iload X_25.here hx rfl (hb hby at_146) rfl  k) ?_
    show Go p.tables e below P (T_25.setTop (mkF m 148 #[.val (.int p1), .val (.int p2), .val (.int p3), .val (.ref arr), .val (.int (0 : Int32)), .val (.ref en0), .val (.int r6), .val (.int (1 : Int32)), .val (.int r8), .val (.int r9), .val (.double d100), .second, .val (.double d104), .second, .val (.int (1 : Int32))] [(.int r9), (.int r8), (.int r6)]))
    refine Go.step (fun t k => XS.icmpNo X_25.here hx rfl (hb hby at_148) rfl (icN (cd := .ne) (by omega : ¬ (¬ r8.toInt = r9.toInt))) k) ?_
    show Go p.tables e below P (T_25.setTop (mkF m 151 #[.val (.int p1), .val (.int p2), .val (.int p3), .val (.ref arr), .val (.int (0 : Int32)), .val (.ref en0), .val (.int r6), .val (.int (1 : Int32)), .val (.int r8), .val (.int r9), .val (.double d100), .second, .val (.double d104), .second, .val (.int (1 : Int32))] [(.int r6)]))
    refine Go.step (fun t k => XS.iconst X_25.here hx rfl (hb hby at_151) k) ?_
    show Go p.tables e below P (T_25.setTop (mkF m 152 #[.val (.int p1), .val (.int p2), .val (.int p3), .val (.ref arr), .val (.int (0 : Int32)), .val (.ref en0), .val (.int r6), .val (.int (1 : Int32)), .val (.int r8), .val (.int r9), .val (.double d100), .second, .val (.double d104), .second, .val (.int (1 : Int32))] [(.int (1 : Int32)), (.int r6)]))
    refine Go.step (fun t k => XS.goto X_25.here hx rfl (pc0 := 152) (pc' := 156) rfl (hb hby at_152) (by decide) (by decide) k) ?_
    show Go p.tables e below P (T_25.setTop (mkF m 156 #[.val (.int p1), .val (.int p2), .val (.int p3), .val (.ref arr), .val (.int (0 : Int32)), .val (.ref en0), .val (.int r6), .val (.int (1 : Int32)), .val (.int r8), .val (.int r9), .val (.double d100), .second, .val (.double d104), .second, .val (.int (1 : Int32))] [(.int (1 : Int32)), (.int r6)]))
    refine Go.step (fun t k => XS.icmpNo X_25.here hx rfl (hb hby at_156) rfl (icN (cd := .ne) (by omega : ¬ (¬ r6.toInt = (1 : Int)))) k) ?_
    show Go p.tables e below P (T_25.setTop (mkF m 159 #[.val (.int p1), .val (.int p2), .val (.int p3), .val (.ref arr), .val (.int (0 : Int32)), .val (.ref en0), .val (.int r6), .val (.int (1 : Int32)), .val (.int r8), .val (.int r9), .val (.double d100), .second, .val (.double d104), .second, .val (.int (1 : Int32))] []))
    refine Go.step (fun t k => XS.iload X_25.here hx rfl (hb hby at_159) rfl  k) ?_
    show Go p.tables e below P (T_25.setTop (mkF m 161 #[.val (.int p1), .val (.int p2), .val (.int p3), .val (.ref arr), .val (.int (0 : Int32)), .val (.ref en0), .val (.int r6), .val (.int (1 : Int32)), .val (.int r8), .val (.int r9), .val (.double d100), .second, .val (.double d104), .second, .val (.int (1 : Int32))] [(.int r6)]))
    refine Go.step (fun t k => XS.ifNo X_25.here hx rfl (hb hby at_161) rfl (ifN (cd := .eq) (by omega : ¬ (r6.toInt = 0))) k) ?_
    show Go p.tables e below P (T_25.setTop (mkF m 164 #[.val (.int p1), .val (.int p2), .val (.int p3), .val (.ref arr), .val (.int (0 : Int32)), .val (.ref en0), .val (.int r6), .val (.int (1 : Int32)), .val (.int r8), .val (.int r9), .val (.double d100), .second, .val (.double d104), .second, .val (.int (1 : Int32))] []))
    refine Go.step (fun t k => XS.iload X_25.here hx rfl (hb hby at_164) rfl  k) ?_
    show Go p.tables e below P (T_25.setTop (mkF m 166 #[.val (.int p1), .val (.int p2), .val (.int p3), .val (.ref arr), .val (.int (0 : Int32)), .val (.ref en0), .val (.int r6), .val (.int (1 : Int32)), .val (.int r8), .val (.int r9), .val (.double d100), .second, .val (.double d104), .second, .val (.int (1 : Int32))] [(.int (1 : Int32))]))
    refine Go.step (fun t k => XS.ifNo X_25.here hx rfl (hb hby at_166) rfl (ifN (cd := .eq) (by decide : ¬ ((1 : Int) = 0))) k) ?_
    show Go p.tables e below P (T_25.setTop (mkF m 169 #[.val (.int p1), .val (.int p2), .val (.int p3), .val (.ref arr), .val (.int (0 : Int32)), .val (.ref en0), .val (.int r6), .val (.int (1 : Int32)), .val (.int r8), .val (.int r9), .val (.double d100), .second, .val (.double d104), .second, .val (.int (1 : Int32))] []))
    refine Go.step (fun t k => XS.iconst X_25.here hx rfl (hb hby at_169) k) ?_
    show Go p.tables e below P (T_25.setTop (mkF m 170 #[.val (.int p1), .val (.int p2), .val (.int p3), .val (.ref arr), .val (.int (0 : Int32)), .val (.ref en0), .val (.int r6), .val (.int (1 : Int32)), .val (.int r8), .val (.int r9), .val (.double d100), .second, .val (.double d104), .second, .val (.int (1 : Int32))] [(.int (1 : Int32))]))
    refine Go.step (fun t k => XS.goto X_25.here hx rfl (pc0 := 170) (pc' := 174) rfl (hb hby at_170) (by decide) (by decide) k) ?_
    show Go p.tables e below P (T_25.setTop (mkF m 174 #[.val (.int p1), .val (.int p2), .val (.int p3), .val (.ref arr), .val (.int (0 : Int32)), .val (.ref en0), .val (.int r6), .val (.int (1 : Int32)), .val (.int r8), .val (.int r9), .val (.double d100), .second, .val (.double d104), .second, .val (.int (1 : Int32))] [(.int (1 : Int32))]))
    exact retGo X_25 hx hP Bd.returns hlk rfl (Or.inl ⟨rfl, Or.inr (Or.inl rfl), _, rfl⟩) (hb hby at_174) (by decide) (by decide) (by rw [eh_25]; exact ⟨rfl, N_25⟩)
  · subst ej48
    show Go p.tables e below P (T_19.setTop (mkF m 54 #[.val (.int p1), .val (.int p2), .val (.int p3), .val (.ref arr), .val (.int (1 : Int32)), .unset, .unset, .unset, .unset, .unset, .unset, .unset, .unset, .unset, .unset] [(.int (1 : Int32)), (.ref arr)]))
    have vq_26 := V_19
    obtain ⟨cl_26, Ar_26, q_26, S_26, Nn_26, H_26, G_26⟩ := vq_26
    have hin_26 : ¬ ((1 : Int32) < 0 ∨ cl_26.slots.size ≤ ((1 : Int32)).toNatClampNeg) := inb_of S_26 ⟨by decide, by decide⟩
    have hat_26 : cl_26.slots[((1 : Int32)).toNatClampNeg]? = some (.ref en1) := Has.at H_26 hin_26 rfl
    refine Go.step (fun t k => X_19.aaload hx (j := (1 : Int32)) (v := (.ref en1)) (by rw [e_19]; exact Ar_26.1) (State.isArrayOf_alike hZ.alike Ar_26.2.1) rfl Ar_26.2.2 hin_26 hat_26 (g := (mkF m 54 #[.val (.int p1), .val (.int p2), .val (.int p3), .val (.ref arr), .val (.int (1 : Int32)), .unset, .unset, .unset, .unset, .unset, .unset, .unset, .unset, .unset, .unset] [(.int (1 : Int32)), (.ref arr)])) rfl rfl (hb hby at_54) t k) ?_
    show Go p.tables e below P (T_19.setTop (mkF m 55 #[.val (.int p1), .val (.int p2), .val (.int p3), .val (.ref arr), .val (.int (1 : Int32)), .unset, .unset, .unset, .unset, .unset, .unset, .unset, .unset, .unset, .unset] [(.ref en1)]))
    refine Go.step (fun t k => XS.astore X_19.here hx rfl (hb hby at_55) rfl rfl (l' := #[.val (.int p1), .val (.int p2), .val (.int p3), .val (.ref arr), .val (.int (1 : Int32)), .val (.ref en1), .unset, .unset, .unset, .unset, .unset, .unset, .unset, .unset, .unset]) rfl k) ?_
    show Go p.tables e below P (T_19.setTop (mkF m 57 #[.val (.int p1), .val (.int p2), .val (.int p3), .val (.ref arr), .val (.int (1 : Int32)), .val (.ref en1), .unset, .unset, .unset, .unset, .unset, .unset, .unset, .unset, .unset] []))
    refine Go.step (fun t k => XS.aload X_19.here hx rfl (hb hby at_57) rfl rfl k) ?_
    show Go p.tables e below P (T_19.setTop (mkF m 59 #[.val (.int p1), .val (.int p2), .val (.int p3), .val (.ref arr), .val (.int (1 : Int32)), .val (.ref en1), .unset, .unset, .unset, .unset, .unset, .unset, .unset, .unset, .unset] [(.ref en1)]))
    obtain ⟨cq_27, kq_27, q_27a, q_27b, q_27c⟩ := isOf hZ e_19 (((((((E_en1.ext E_1).wr W_4).wr W_7).wr W_10).wr W_13).wr W_16).wr W_19)
    obtain ⟨_, _, ⟨T_27, L_27, k_27, n_27⟩, -, X_27, ⟨Lc_27, hQ_27, l_27, y_27, z_27⟩, st_27⟩ := X_19.virtualBack hx (y := (⟨"com/example/geofence/geofence/Comparison", "isEquality", "()Z"⟩ : MethodName)) (z := (⟨"com/example/geofence/geofence/Comparison", "isEquality", "()Z"⟩ : MethodName)) hown (mvT hZ (hw _ (List.mem_of_getElem? (i := 17) rfl))) (mvT hZ (hw _ (List.mem_of_getElem? (i := 18) rfl))) (notFace_of_selects (args := #[]) (mvT hZ (hw _ (List.mem_of_getElem? (i := 20) rfl)))) (mvT hZ (hw _ (List.mem_of_getElem? (i := 20) rfl))) (mvT hZ (hw _ (List.mem_of_getElem? (i := 19) rfl))) (by decide) (backOf (W := 0) (rm2 l Z a0 hw [] en1 en0 en1 h_19 n0 Z_19 (Sta_keep0 S0 K_19) (Sta_keep0 S1 K_19)) hZ (hw _ (List.mem_of_getElem? (i := 21) rfl)) (hw _ (List.mem_of_getElem? (i := 3) rfl)) (by decide) (by decide)) q_27a q_27c (g := (mkF m 59 #[.val (.int p1), .val (.int p2), .val (.int p3), .val (.ref arr), .val (.int (1 : Int32)), .val (.ref en1), .unset, .unset, .unset, .unset, .unset, .unset, .unset, .unset, .unset] [(.ref en1)])) rfl (by rw [hml]; rfl) (Steps.refl _) (argsL := []) (rest := []) (lenOf pd_1 rfl) rfl (by show 2 * 0 + _ ≤ _; exact Nat.le_of_eq rfl) (hb hby at_59) (fun _ _ => ⟨rfl, e_19, (by decide : 1 + 0 ≤ _), (by decide : 6 + 0 ≤ _)⟩)
    dsimp only [Pt.U, Pt.locs, Pt.cells, Pt.slots] at X_27 l_27 y_27 z_27 st_27 hQ_27
    subst l_27 y_27 z_27
    obtain ⟨r6, rfl, hr6, N_27q, eh_27⟩ := hQ_27
    have N_27 := Fr.app N_19 N_27q
    refine Go.tr st_27 ?_
    show Go p.tables e below P (T_27.setTop (mkF m 62 #[.val (.int p1), .val (.int p2), .val (.int p3), .val (.ref arr), .val (.int (1 : Int32)), .val (.ref en1), .unset, .unset, .unset, .unset, .unset, .unset, .unset, .unset, .unset] [(.int r6)]))
    have v6 : r6.toInt = 1 := by rcases hr6 with ⟨h1, h2⟩ | ⟨h1, h2, h3⟩; exact h2; exact absurd rfl h2
    clear hr6
    refine Go.step (fun t k => XS.istore X_27.here hx rfl (hb hby at_62) rfl (l' := #[.val (.int p1), .val (.int p2), .val (.int p3), .val (.ref arr), .val (.int (1 : Int32)), .val (.ref en1), .val (.int r6), .unset, .unset, .unset, .unset, .unset, .unset, .unset, .unset]) rfl k) ?_
    show Go p.tables e below P (T_27.setTop (mkF m 64 #[.val (.int p1), .val (.int p2), .val (.int p3), .val (.ref arr), .val (.int (1 : Int32)), .val (.ref en1), .val (.int r6), .unset, .unset, .unset, .unset, .unset, .unset, .unset, .unset] []))
    refine Go.step (fun t k => XS.iload X_27.here hx rfl (hb hby at_64) rfl  k) ?_
    show Go p.tables e below P (T_27.setTop (mkF m 66 #[.val (.int p1), .val (.int p2), .val (.int p3), .val (.ref arr), .val (.int (1 : Int32)), .val (.ref en1), .val (.int r6), .unset, .unset, .unset, .unset, .unset, .unset, .unset, .unset] [(.int (1 : Int32))]))
    refine Go.step (fun t k => XS.iconst X_27.here hx rfl (hb hby at_66) k) ?_
    show Go p.tables e below P (T_27.setTop (mkF m 67 #[.val (.int p1), .val (.int p2), .val (.int p3), .val (.ref arr), .val (.int (1 : Int32)), .val (.ref en1), .val (.int r6), .unset, .unset, .unset, .unset, .unset, .unset, .unset, .unset] [(.int (2 : Int32)), (.int (1 : Int32))]))
    refine Go.step (fun t k => XS.icmpNo X_27.here hx rfl (hb hby at_67) rfl (icN (cd := .ge) (by decide : ¬ ((2 : Int) ≤ (1 : Int)))) k) ?_
    show Go p.tables e below P (T_27.setTop (mkF m 70 #[.val (.int p1), .val (.int p2), .val (.int p3), .val (.ref arr), .val (.int (1 : Int32)), .val (.ref en1), .val (.int r6), .unset, .unset, .unset, .unset, .unset, .unset, .unset, .unset] []))
    refine Go.step (fun t k => XS.iconst X_27.here hx rfl (hb hby at_70) k) ?_
    show Go p.tables e below P (T_27.setTop (mkF m 71 #[.val (.int p1), .val (.int p2), .val (.int p3), .val (.ref arr), .val (.int (1 : Int32)), .val (.ref en1), .val (.int r6), .unset, .unset, .unset, .unset, .unset, .unset, .unset, .unset] [(.int (1 : Int32))]))
    refine Go.step (fun t k => XS.goto X_27.here hx rfl (pc0 := 71) (pc' := 75) rfl (hb hby at_71) (by decide) (by decide) k) ?_
    show Go p.tables e below P (T_27.setTop (mkF m 75 #[.val (.int p1), .val (.int p2), .val (.int p3), .val (.ref arr), .val (.int (1 : Int32)), .val (.ref en1), .val (.int r6), .unset, .unset, .unset, .unset, .unset, .unset, .unset, .unset] [(.int (1 : Int32))]))
    refine Go.step (fun t k => XS.istore X_27.here hx rfl (hb hby at_75) rfl (l' := #[.val (.int p1), .val (.int p2), .val (.int p3), .val (.ref arr), .val (.int (1 : Int32)), .val (.ref en1), .val (.int r6), .val (.int (1 : Int32)), .unset, .unset, .unset, .unset, .unset, .unset, .unset]) rfl k) ?_
    show Go p.tables e below P (T_27.setTop (mkF m 77 #[.val (.int p1), .val (.int p2), .val (.int p3), .val (.ref arr), .val (.int (1 : Int32)), .val (.ref en1), .val (.int r6), .val (.int (1 : Int32)), .unset, .unset, .unset, .unset, .unset, .unset, .unset] []))
    refine Go.step (fun t k => XS.aload X_27.here hx rfl (hb hby at_77) rfl rfl k) ?_
    show Go p.tables e below P (T_27.setTop (mkF m 79 #[.val (.int p1), .val (.int p2), .val (.int p3), .val (.ref arr), .val (.int (1 : Int32)), .val (.ref en1), .val (.int r6), .val (.int (1 : Int32)), .unset, .unset, .unset, .unset, .unset, .unset, .unset] [(.ref en1)]))
    refine Go.step (fun t k => XS.dconst1 X_27.here hx rfl (hb hby at_79) rfl k) ?_
    show Go p.tables e below P (T_27.setTop (mkF m 80 #[.val (.int p1), .val (.int p2), .val (.int p3), .val (.ref arr), .val (.int (1 : Int32)), .val (.ref en1), .val (.int r6), .val (.int (1 : Int32)), .unset, .unset, .unset, .unset, .unset, .unset, .unset] [(.double FP.dconst1), (.ref en1)]))
    refine Go.step (fun t k => X_27.ldc2DoubleC hx hown (mvT hZ (hw _ (List.mem_of_getElem? (i := 23) rfl))) (g := (mkF m 80 #[.val (.int p1), .val (.int p2), .val (.int p3), .val (.ref arr), .val (.int (1 : Int32)), .val (.ref en1), .val (.int r6), .val (.int (1 : Int32)), .unset, .unset, .unset, .unset, .unset, .unset, .unset] [(.double FP.dconst1), (.ref en1)])) rfl (hb hby at_80) t k) ?_
    show Go p.tables e below P (T_27.setTop (mkF m 83 #[.val (.int p1), .val (.int p2), .val (.int p3), .val (.ref arr), .val (.int (1 : Int32)), .val (.ref en1), .val (.int r6), .val (.int (1 : Int32)), .unset, .unset, .unset, .unset, .unset, .unset, .unset] [(.double (4611686018427387904 : UInt64)), (.double FP.dconst1), (.ref en1)]))
    obtain ⟨cq_28, kq_28, q_28a, q_28b, q_28c⟩ := isOf hZ eh_27 (((((((E_en1.ext E_1).wr W_4).wr W_7).wr W_10).wr W_13).wr W_16).wr W_19)
    obtain ⟨_, _, ⟨T_28, L_28, k_28, n_28⟩, -, X_28, ⟨Lc_28, hQ_28, l_28, y_28, z_28⟩, st_28⟩ := X_27.virtualBack hx (y := (⟨"com/example/geofence/geofence/Comparison", "holds", "(DD)Z"⟩ : MethodName)) (z := (⟨"com/example/geofence/geofence/Comparison", "holds", "(DD)Z"⟩ : MethodName)) hown (mvT hZ (hw _ (List.mem_of_getElem? (i := 24) rfl))) (mvT hZ (hw _ (List.mem_of_getElem? (i := 25) rfl))) (notFace_of_selects (args := #[]) (mvT hZ (hw _ (List.mem_of_getElem? (i := 27) rfl)))) (mvT hZ (hw _ (List.mem_of_getElem? (i := 27) rfl))) (mvT hZ (hw _ (List.mem_of_getElem? (i := 26) rfl))) (by decide) (backOf (W := 0) (holds1 l Z a0 hw [] en1 FP.dconst1 (4611686018427387904 : UInt64) (1) (2) h_19 n0 Z_19 (((((((E_en1.ext E_1).wr W_4).wr W_7).wr W_10).wr W_13).wr W_16).wr W_19) (((((((O1.ext E_1).other W_4 (Or.inl ne_en1_arr)).other W_7 (Or.inl ne_en1_arr)).other W_10 (Or.inl ne_en1_arr)).other W_13 (Or.inl ne_en1_arr)).other W_16 (Or.inl ne_en1_arr)).other W_19 (Or.inl ne_en1_arr)) one_e two_e) hZ (hw _ (List.mem_of_getElem? (i := 28) rfl)) (hw _ (List.mem_of_getElem? (i := 3) rfl)) (by decide) (by decide)) q_28a q_28c (g := (mkF m 83 #[.val (.int p1), .val (.int p2), .val (.int p3), .val (.ref arr), .val (.int (1 : Int32)), .val (.ref en1), .val (.int r6), .val (.int (1 : Int32)), .unset, .unset, .unset, .unset, .unset, .unset, .unset] [(.double (4611686018427387904 : UInt64)), (.double FP.dconst1), (.ref en1)])) rfl (by rw [hml]; rfl) (Steps.refl _) (argsL := [(.double FP.dconst1), (.double (4611686018427387904 : UInt64))]) (rest := []) (lenOf pd_2 rfl) rfl (by show 2 * 0 + _ ≤ _; exact Nat.le_of_eq rfl) (hb hby at_83) (fun _ _ => ⟨rfl, eh_27, (by decide : 1 + 0 ≤ _), (by decide : 6 + 0 ≤ _)⟩)
    dsimp only [Pt.U, Pt.locs, Pt.cells, Pt.slots] at X_28 l_28 y_28 z_28 st_28 hQ_28
    subst l_28 y_28 z_28
    obtain ⟨r8, rfl, hr8, N_28q, eh_28⟩ := hQ_28
    have N_28 := Fr.app N_27 N_28q
    refine Go.tr st_28 ?_
    show Go p.tables e below P (T_28.setTop (mkF m 86 #[.val (.int p1), .val (.int p2), .val (.int p3), .val (.ref arr), .val (.int (1 : Int32)), .val (.ref en1), .val (.int r6), .val (.int (1 : Int32)), .unset, .unset, .unset, .unset, .unset, .unset, .unset] [(.int r8)]))
    refine Go.step (fun t k => XS.istore X_28.here hx rfl (hb hby at_86) rfl (l' := #[.val (.int p1), .val (.int p2), .val (.int p3), .val (.ref arr), .val (.int (1 : Int32)), .val (.ref en1), .val (.int r6), .val (.int (1 : Int32)), .val (.int r8), .unset, .unset, .unset, .unset, .unset, .unset]) rfl k) ?_
    show Go p.tables e below P (T_28.setTop (mkF m 88 #[.val (.int p1), .val (.int p2), .val (.int p3), .val (.ref arr), .val (.int (1 : Int32)), .val (.ref en1), .val (.int r6), .val (.int (1 : Int32)), .val (.int r8), .unset, .unset, .unset, .unset, .unset, .unset] []))
    refine Go.step (fun t k => XS.aload X_28.here hx rfl (hb hby at_88) rfl rfl k) ?_
    show Go p.tables e below P (T_28.setTop (mkF m 90 #[.val (.int p1), .val (.int p2), .val (.int p3), .val (.ref arr), .val (.int (1 : Int32)), .val (.ref en1), .val (.int r6), .val (.int (1 : Int32)), .val (.int r8), .unset, .unset, .unset, .unset, .unset, .unset] [(.ref en1)]))
    refine Go.step (fun t k => X_28.ldc2DoubleC hx hown (mvT hZ (hw _ (List.mem_of_getElem? (i := 23) rfl))) (g := (mkF m 90 #[.val (.int p1), .val (.int p2), .val (.int p3), .val (.ref arr), .val (.int (1 : Int32)), .val (.ref en1), .val (.int r6), .val (.int (1 : Int32)), .val (.int r8), .unset, .unset, .unset, .unset, .unset, .unset] [(.ref en1)])) rfl (hb hby at_90) t k) ?_
    show Go p.tables e below P (T_28.setTop (mkF m 93 #[.val (.int p1), .val (.int p2), .val (.int p3), .val (.ref arr), .val (.int (1 : Int32)), .val (.ref en1), .val (.int r6), .val (.int (1 : Int32)), .val (.int r8), .unset, .unset, .unset, .unset, .unset, .unset] [(.double (4611686018427387904 : UInt64)), (.ref en1)]))
    refine Go.step (fun t k => XS.dconst1 X_28.here hx rfl (hb hby at_93) rfl k) ?_
    show Go p.tables e below P (T_28.setTop (mkF m 94 #[.val (.int p1), .val (.int p2), .val (.int p3), .val (.ref arr), .val (.int (1 : Int32)), .val (.ref en1), .val (.int r6), .val (.int (1 : Int32)), .val (.int r8), .unset, .unset, .unset, .unset, .unset, .unset] [(.double FP.dconst1), (.double (4611686018427387904 : UInt64)), (.ref en1)]))
    obtain ⟨cq_29, kq_29, q_29a, q_29b, q_29c⟩ := isOf hZ eh_28 (((((((E_en1.ext E_1).wr W_4).wr W_7).wr W_10).wr W_13).wr W_16).wr W_19)
    obtain ⟨_, _, ⟨T_29, L_29, k_29, n_29⟩, -, X_29, ⟨Lc_29, hQ_29, l_29, y_29, z_29⟩, st_29⟩ := X_28.virtualBack hx (y := (⟨"com/example/geofence/geofence/Comparison", "holds", "(DD)Z"⟩ : MethodName)) (z := (⟨"com/example/geofence/geofence/Comparison", "holds", "(DD)Z"⟩ : MethodName)) hown (mvT hZ (hw _ (List.mem_of_getElem? (i := 24) rfl))) (mvT hZ (hw _ (List.mem_of_getElem? (i := 25) rfl))) (notFace_of_selects (args := #[]) (mvT hZ (hw _ (List.mem_of_getElem? (i := 27) rfl)))) (mvT hZ (hw _ (List.mem_of_getElem? (i := 27) rfl))) (mvT hZ (hw _ (List.mem_of_getElem? (i := 26) rfl))) (by decide) (backOf (W := 0) (holds1 l Z a0 hw [] en1 (4611686018427387904 : UInt64) FP.dconst1 (2) (1) h_19 n0 Z_19 (((((((E_en1.ext E_1).wr W_4).wr W_7).wr W_10).wr W_13).wr W_16).wr W_19) (((((((O1.ext E_1).other W_4 (Or.inl ne_en1_arr)).other W_7 (Or.inl ne_en1_arr)).other W_10 (Or.inl ne_en1_arr)).other W_13 (Or.inl ne_en1_arr)).other W_16 (Or.inl ne_en1_arr)).other W_19 (Or.inl ne_en1_arr)) two_e one_e) hZ (hw _ (List.mem_of_getElem? (i := 28) rfl)) (hw _ (List.mem_of_getElem? (i := 3) rfl)) (by decide) (by decide)) q_29a q_29c (g := (mkF m 94 #[.val (.int p1), .val (.int p2), .val (.int p3), .val (.ref arr), .val (.int (1 : Int32)), .val (.ref en1), .val (.int r6), .val (.int (1 : Int32)), .val (.int r8), .unset, .unset, .unset, .unset, .unset, .unset] [(.double FP.dconst1), (.double (4611686018427387904 : UInt64)), (.ref en1)])) rfl (by rw [hml]; rfl) (Steps.refl _) (argsL := [(.double (4611686018427387904 : UInt64)), (.double FP.dconst1)]) (rest := []) (lenOf pd_2 rfl) rfl (by show 2 * 0 + _ ≤ _; exact Nat.le_of_eq rfl) (hb hby at_94) (fun _ _ => ⟨rfl, eh_28, (by decide : 1 + 0 ≤ _), (by decide : 6 + 0 ≤ _)⟩)
    dsimp only [Pt.U, Pt.locs, Pt.cells, Pt.slots] at X_29 l_29 y_29 z_29 st_29 hQ_29
    subst l_29 y_29 z_29
    obtain ⟨r9, rfl, hr9, N_29q, eh_29⟩ := hQ_29
    have N_29 := Fr.app N_28 N_29q
    refine Go.tr st_29 ?_
    show Go p.tables e below P (T_29.setTop (mkF m 97 #[.val (.int p1), .val (.int p2), .val (.int p3), .val (.ref arr), .val (.int (1 : Int32)), .val (.ref en1), .val (.int r6), .val (.int (1 : Int32)), .val (.int r8), .unset, .unset, .unset, .unset, .unset, .unset] [(.int r9)]))
    refine Go.step (fun t k => XS.istore X_29.here hx rfl (hb hby at_97) rfl (l' := #[.val (.int p1), .val (.int p2), .val (.int p3), .val (.ref arr), .val (.int (1 : Int32)), .val (.ref en1), .val (.int r6), .val (.int (1 : Int32)), .val (.int r8), .val (.int r9), .unset, .unset, .unset, .unset, .unset]) rfl k) ?_
    show Go p.tables e below P (T_29.setTop (mkF m 99 #[.val (.int p1), .val (.int p2), .val (.int p3), .val (.ref arr), .val (.int (1 : Int32)), .val (.ref en1), .val (.int r6), .val (.int (1 : Int32)), .val (.int r8), .val (.int r9), .unset, .unset, .unset, .unset, .unset] []))
    refine Go.step (fun t k => XS.iloadN X_29.here hx rfl (hb hby at_99) rfl  k) ?_
    show Go p.tables e below P (T_29.setTop (mkF m 100 #[.val (.int p1), .val (.int p2), .val (.int p3), .val (.ref arr), .val (.int (1 : Int32)), .val (.ref en1), .val (.int r6), .val (.int (1 : Int32)), .val (.int r8), .val (.int r9), .unset, .unset, .unset, .unset, .unset] [(.int p2)]))
    obtain ⟨d100, hd100⟩ : ∃ z : UInt64, FP.i2d p2 = z := ⟨_, rfl⟩
    refine Go.step (fun t k => XS.i2dS X_29.here hx rfl (hb hby at_100) rfl hd100 k) ?_
    show Go p.tables e below P (T_29.setTop (mkF m 101 #[.val (.int p1), .val (.int p2), .val (.int p3), .val (.ref arr), .val (.int (1 : Int32)), .val (.ref en1), .val (.int r6), .val (.int (1 : Int32)), .val (.int r8), .val (.int r9), .unset, .unset, .unset, .unset, .unset] [(.double d100)]))
    have q100 := i2d_e p2; rw [hd100] at q100
    refine Go.step (fun t k => XS.dstore X_29.here hx rfl (hb hby at_101) rfl (l' := #[.val (.int p1), .val (.int p2), .val (.int p3), .val (.ref arr), .val (.int (1 : Int32)), .val (.ref en1), .val (.int r6), .val (.int (1 : Int32)), .val (.int r8), .val (.int r9), .val (.double d100), .second, .unset, .unset, .unset]) rfl k) ?_
    show Go p.tables e below P (T_29.setTop (mkF m 103 #[.val (.int p1), .val (.int p2), .val (.int p3), .val (.ref arr), .val (.int (1 : Int32)), .val (.ref en1), .val (.int r6), .val (.int (1 : Int32)), .val (.int r8), .val (.int r9), .val (.double d100), .second, .unset, .unset, .unset] []))
    refine Go.step (fun t k => XS.iloadN X_29.here hx rfl (hb hby at_103) rfl  k) ?_
    show Go p.tables e below P (T_29.setTop (mkF m 104 #[.val (.int p1), .val (.int p2), .val (.int p3), .val (.ref arr), .val (.int (1 : Int32)), .val (.ref en1), .val (.int r6), .val (.int (1 : Int32)), .val (.int r8), .val (.int r9), .val (.double d100), .second, .unset, .unset, .unset] [(.int p3)]))
    obtain ⟨d104, hd104⟩ : ∃ z : UInt64, FP.i2d p3 = z := ⟨_, rfl⟩
    refine Go.step (fun t k => XS.i2dS X_29.here hx rfl (hb hby at_104) rfl hd104 k) ?_
    show Go p.tables e below P (T_29.setTop (mkF m 105 #[.val (.int p1), .val (.int p2), .val (.int p3), .val (.ref arr), .val (.int (1 : Int32)), .val (.ref en1), .val (.int r6), .val (.int (1 : Int32)), .val (.int r8), .val (.int r9), .val (.double d100), .second, .unset, .unset, .unset] [(.double d104)]))
    have q104 := i2d_e p3; rw [hd104] at q104
    refine Go.step (fun t k => XS.dstore X_29.here hx rfl (hb hby at_105) rfl (l' := #[.val (.int p1), .val (.int p2), .val (.int p3), .val (.ref arr), .val (.int (1 : Int32)), .val (.ref en1), .val (.int r6), .val (.int (1 : Int32)), .val (.int r8), .val (.int r9), .val (.double d100), .second, .val (.double d104), .second, .unset]) rfl k) ?_
    show Go p.tables e below P (T_29.setTop (mkF m 107 #[.val (.int p1), .val (.int p2), .val (.int p3), .val (.ref arr), .val (.int (1 : Int32)), .val (.ref en1), .val (.int r6), .val (.int (1 : Int32)), .val (.int r8), .val (.int r9), .val (.double d100), .second, .val (.double d104), .second, .unset] []))
    refine Go.step (fun t k => XS.aload X_29.here hx rfl (hb hby at_107) rfl rfl k) ?_
    show Go p.tables e below P (T_29.setTop (mkF m 109 #[.val (.int p1), .val (.int p2), .val (.int p3), .val (.ref arr), .val (.int (1 : Int32)), .val (.ref en1), .val (.int r6), .val (.int (1 : Int32)), .val (.int r8), .val (.int r9), .val (.double d100), .second, .val (.double d104), .second, .unset] [(.ref en1)]))
    refine Go.step (fun t k => XS.dload X_29.here hx rfl (hb hby at_109) rfl  k) ?_
    show Go p.tables e below P (T_29.setTop (mkF m 111 #[.val (.int p1), .val (.int p2), .val (.int p3), .val (.ref arr), .val (.int (1 : Int32)), .val (.ref en1), .val (.int r6), .val (.int (1 : Int32)), .val (.int r8), .val (.int r9), .val (.double d100), .second, .val (.double d104), .second, .unset] [(.double d100), (.ref en1)]))
    refine Go.step (fun t k => XS.dload X_29.here hx rfl (hb hby at_111) rfl  k) ?_
    show Go p.tables e below P (T_29.setTop (mkF m 113 #[.val (.int p1), .val (.int p2), .val (.int p3), .val (.ref arr), .val (.int (1 : Int32)), .val (.ref en1), .val (.int r6), .val (.int (1 : Int32)), .val (.int r8), .val (.int r9), .val (.double d100), .second, .val (.double d104), .second, .unset] [(.double d104), (.double d100), (.ref en1)]))
    obtain ⟨cq_30, kq_30, q_30a, q_30b, q_30c⟩ := isOf hZ eh_29 (((((((E_en1.ext E_1).wr W_4).wr W_7).wr W_10).wr W_13).wr W_16).wr W_19)
    obtain ⟨_, _, ⟨T_30, L_30, k_30, n_30⟩, -, X_30, ⟨Lc_30, hQ_30, l_30, y_30, z_30⟩, st_30⟩ := X_29.virtualBack hx (y := (⟨"com/example/geofence/geofence/Comparison", "holds", "(DD)Z"⟩ : MethodName)) (z := (⟨"com/example/geofence/geofence/Comparison", "holds", "(DD)Z"⟩ : MethodName)) hown (mvT hZ (hw _ (List.mem_of_getElem? (i := 24) rfl))) (mvT hZ (hw _ (List.mem_of_getElem? (i := 25) rfl))) (notFace_of_selects (args := #[]) (mvT hZ (hw _ (List.mem_of_getElem? (i := 27) rfl)))) (mvT hZ (hw _ (List.mem_of_getElem? (i := 27) rfl))) (mvT hZ (hw _ (List.mem_of_getElem? (i := 26) rfl))) (by decide) (backOf (W := 0) (holds1 l Z a0 hw [] en1 d100 d104 (p2.toInt) (p3.toInt) h_19 n0 Z_19 (((((((E_en1.ext E_1).wr W_4).wr W_7).wr W_10).wr W_13).wr W_16).wr W_19) (((((((O1.ext E_1).other W_4 (Or.inl ne_en1_arr)).other W_7 (Or.inl ne_en1_arr)).other W_10 (Or.inl ne_en1_arr)).other W_13 (Or.inl ne_en1_arr)).other W_16 (Or.inl ne_en1_arr)).other W_19 (Or.inl ne_en1_arr)) q100 q104) hZ (hw _ (List.mem_of_getElem? (i := 28) rfl)) (hw _ (List.mem_of_getElem? (i := 3) rfl)) (by decide) (by decide)) q_30a q_30c (g := (mkF m 113 #[.val (.int p1), .val (.int p2), .val (.int p3), .val (.ref arr), .val (.int (1 : Int32)), .val (.ref en1), .val (.int r6), .val (.int (1 : Int32)), .val (.int r8), .val (.int r9), .val (.double d100), .second, .val (.double d104), .second, .unset] [(.double d104), (.double d100), (.ref en1)])) rfl (by rw [hml]; rfl) (Steps.refl _) (argsL := [(.double d100), (.double d104)]) (rest := []) (lenOf pd_2 rfl) rfl (by show 2 * 0 + _ ≤ _; exact Nat.le_of_eq rfl) (hb hby at_113) (fun _ _ => ⟨rfl, eh_29, (by decide : 1 + 0 ≤ _), (by decide : 6 + 0 ≤ _)⟩)
    dsimp only [Pt.U, Pt.locs, Pt.cells, Pt.slots] at X_30 l_30 y_30 z_30 st_30 hQ_30
    subst l_30 y_30 z_30
    obtain ⟨ra, rfl, hra, N_30q, eh_30⟩ := hQ_30
    have N_30 := Fr.app N_29 N_30q
    refine Go.tr st_30 ?_
    show Go p.tables e below P (T_30.setTop (mkF m 116 #[.val (.int p1), .val (.int p2), .val (.int p3), .val (.ref arr), .val (.int (1 : Int32)), .val (.ref en1), .val (.int r6), .val (.int (1 : Int32)), .val (.int r8), .val (.int r9), .val (.double d100), .second, .val (.double d104), .second, .unset] [(.int ra)]))
    refine Go.step (fun t k => XS.aload X_30.here hx rfl (hb hby at_116) rfl rfl k) ?_
    show Go p.tables e below P (T_30.setTop (mkF m 118 #[.val (.int p1), .val (.int p2), .val (.int p3), .val (.ref arr), .val (.int (1 : Int32)), .val (.ref en1), .val (.int r6), .val (.int (1 : Int32)), .val (.int r8), .val (.int r9), .val (.double d100), .second, .val (.double d104), .second, .unset] [(.ref en1), (.int ra)]))
    refine Go.step (fun t k => XS.dload X_30.here hx rfl (hb hby at_118) rfl  k) ?_
    show Go p.tables e below P (T_30.setTop (mkF m 120 #[.val (.int p1), .val (.int p2), .val (.int p3), .val (.ref arr), .val (.int (1 : Int32)), .val (.ref en1), .val (.int r6), .val (.int (1 : Int32)), .val (.int r8), .val (.int r9), .val (.double d100), .second, .val (.double d104), .second, .unset] [(.double d104), (.ref en1), (.int ra)]))
    refine Go.step (fun t k => XS.dload X_30.here hx rfl (hb hby at_120) rfl  k) ?_
    show Go p.tables e below P (T_30.setTop (mkF m 122 #[.val (.int p1), .val (.int p2), .val (.int p3), .val (.ref arr), .val (.int (1 : Int32)), .val (.ref en1), .val (.int r6), .val (.int (1 : Int32)), .val (.int r8), .val (.int r9), .val (.double d100), .second, .val (.double d104), .second, .unset] [(.double d100), (.double d104), (.ref en1), (.int ra)]))
    obtain ⟨cq_31, kq_31, q_31a, q_31b, q_31c⟩ := isOf hZ eh_30 (((((((E_en1.ext E_1).wr W_4).wr W_7).wr W_10).wr W_13).wr W_16).wr W_19)
    obtain ⟨_, _, ⟨T_31, L_31, k_31, n_31⟩, -, X_31, ⟨Lc_31, hQ_31, l_31, y_31, z_31⟩, st_31⟩ := X_30.virtualBack hx (y := (⟨"com/example/geofence/geofence/Comparison", "holds", "(DD)Z"⟩ : MethodName)) (z := (⟨"com/example/geofence/geofence/Comparison", "holds", "(DD)Z"⟩ : MethodName)) hown (mvT hZ (hw _ (List.mem_of_getElem? (i := 24) rfl))) (mvT hZ (hw _ (List.mem_of_getElem? (i := 25) rfl))) (notFace_of_selects (args := #[]) (mvT hZ (hw _ (List.mem_of_getElem? (i := 27) rfl)))) (mvT hZ (hw _ (List.mem_of_getElem? (i := 27) rfl))) (mvT hZ (hw _ (List.mem_of_getElem? (i := 26) rfl))) (by decide) (backOf (W := 1) (holds1 l Z a0 hw [] en1 d104 d100 (p3.toInt) (p2.toInt) h_19 n0 Z_19 (((((((E_en1.ext E_1).wr W_4).wr W_7).wr W_10).wr W_13).wr W_16).wr W_19) (((((((O1.ext E_1).other W_4 (Or.inl ne_en1_arr)).other W_7 (Or.inl ne_en1_arr)).other W_10 (Or.inl ne_en1_arr)).other W_13 (Or.inl ne_en1_arr)).other W_16 (Or.inl ne_en1_arr)).other W_19 (Or.inl ne_en1_arr)) q104 q100) hZ (hw _ (List.mem_of_getElem? (i := 28) rfl)) (hw _ (List.mem_of_getElem? (i := 3) rfl)) (by decide) (by decide)) q_31a q_31c (g := (mkF m 122 #[.val (.int p1), .val (.int p2), .val (.int p3), .val (.ref arr), .val (.int (1 : Int32)), .val (.ref en1), .val (.int r6), .val (.int (1 : Int32)), .val (.int r8), .val (.int r9), .val (.double d100), .second, .val (.double d104), .second, .unset] [(.double d100), (.double d104), (.ref en1), (.int ra)])) rfl (by rw [hml]; rfl) (Steps.refl _) (argsL := [(.double d104), (.double d100)]) (rest := [(.int ra)]) (lenOf pd_2 rfl) rfl (by show 2 * 0 + _ ≤ _; exact Nat.le_of_eq rfl) (hb hby at_122) (fun _ _ => ⟨rfl, eh_30, (by decide : 1 + 0 ≤ _), (by decide : 6 + 0 ≤ _)⟩)
    dsimp only [Pt.U, Pt.locs, Pt.cells, Pt.slots] at X_31 l_31 y_31 z_31 st_31 hQ_31
    subst l_31 y_31 z_31
    obtain ⟨rb, rfl, hrb, N_31q, eh_31⟩ := hQ_31
    have N_31 := Fr.app N_30 N_31q
    refine Go.tr st_31 ?_
    show Go p.tables e below P (T_31.setTop (mkF m 125 #[.val (.int p1), .val (.int p2), .val (.int p3), .val (.ref arr), .val (.int (1 : Int32)), .val (.ref en1), .val (.int r6), .val (.int (1 : Int32)), .val (.int r8), .val (.int r9), .val (.double d100), .second, .val (.double d104), .second, .unset] [(.int rb), (.int ra)]))
    refine Go.step (fun t k => XS.icmpNo X_31.here hx rfl (hb hby at_125) rfl (icN (cd := .ne) (by omega : ¬ (¬ ra.toInt = rb.toInt))) k) ?_
    show Go p.tables e below P (T_31.setTop (mkF m 128 #[.val (.int p1), .val (.int p2), .val (.int p3), .val (.ref arr), .val (.int (1 : Int32)), .val (.ref en1), .val (.int r6), .val (.int (1 : Int32)), .val (.int r8), .val (.int r9), .val (.double d100), .second, .val (.double d104), .second, .unset] []))
    refine Go.step (fun t k => XS.iconst X_31.here hx rfl (hb hby at_128) k) ?_
    show Go p.tables e below P (T_31.setTop (mkF m 129 #[.val (.int p1), .val (.int p2), .val (.int p3), .val (.ref arr), .val (.int (1 : Int32)), .val (.ref en1), .val (.int r6), .val (.int (1 : Int32)), .val (.int r8), .val (.int r9), .val (.double d100), .second, .val (.double d104), .second, .unset] [(.int (1 : Int32))]))
    refine Go.step (fun t k => XS.goto X_31.here hx rfl (pc0 := 129) (pc' := 133) rfl (hb hby at_129) (by decide) (by decide) k) ?_
    show Go p.tables e below P (T_31.setTop (mkF m 133 #[.val (.int p1), .val (.int p2), .val (.int p3), .val (.ref arr), .val (.int (1 : Int32)), .val (.ref en1), .val (.int r6), .val (.int (1 : Int32)), .val (.int r8), .val (.int r9), .val (.double d100), .second, .val (.double d104), .second, .unset] [(.int (1 : Int32))]))
    refine Go.step (fun t k => XS.istore X_31.here hx rfl (hb hby at_133) rfl (l' := #[.val (.int p1), .val (.int p2), .val (.int p3), .val (.ref arr), .val (.int (1 : Int32)), .val (.ref en1), .val (.int r6), .val (.int (1 : Int32)), .val (.int r8), .val (.int r9), .val (.double d100), .second, .val (.double d104), .second, .val (.int (1 : Int32))]) rfl k) ?_
    show Go p.tables e below P (T_31.setTop (mkF m 135 #[.val (.int p1), .val (.int p2), .val (.int p3), .val (.ref arr), .val (.int (1 : Int32)), .val (.ref en1), .val (.int r6), .val (.int (1 : Int32)), .val (.int r8), .val (.int r9), .val (.double d100), .second, .val (.double d104), .second, .val (.int (1 : Int32))] []))
    refine Go.step (fun t k => XS.iload X_31.here hx rfl (hb hby at_135) rfl  k) ?_
    show Go p.tables e below P (T_31.setTop (mkF m 137 #[.val (.int p1), .val (.int p2), .val (.int p3), .val (.ref arr), .val (.int (1 : Int32)), .val (.ref en1), .val (.int r6), .val (.int (1 : Int32)), .val (.int r8), .val (.int r9), .val (.double d100), .second, .val (.double d104), .second, .val (.int (1 : Int32))] [(.int r6)]))
    refine Go.step (fun t k => XS.iload X_31.here hx rfl (hb hby at_137) rfl  k) ?_
    show Go p.tables e below P (T_31.setTop (mkF m 139 #[.val (.int p1), .val (.int p2), .val (.int p3), .val (.ref arr), .val (.int (1 : Int32)), .val (.ref en1), .val (.int r6), .val (.int (1 : Int32)), .val (.int r8), .val (.int r9), .val (.double d100), .second, .val (.double d104), .second, .val (.int (1 : Int32))] [(.int (1 : Int32)), (.int r6)]))
    refine Go.step (fun t k => XS.icmpNo X_31.here hx rfl (hb hby at_139) rfl (icN (cd := .ne) (by omega : ¬ (¬ r6.toInt = (1 : Int)))) k) ?_
    show Go p.tables e below P (T_31.setTop (mkF m 142 #[.val (.int p1), .val (.int p2), .val (.int p3), .val (.ref arr), .val (.int (1 : Int32)), .val (.ref en1), .val (.int r6), .val (.int (1 : Int32)), .val (.int r8), .val (.int r9), .val (.double d100), .second, .val (.double d104), .second, .val (.int (1 : Int32))] []))
    refine Go.step (fun t k => XS.iload X_31.here hx rfl (hb hby at_142) rfl  k) ?_
    show Go p.tables e below P (T_31.setTop (mkF m 144 #[.val (.int p1), .val (.int p2), .val (.int p3), .val (.ref arr), .val (.int (1 : Int32)), .val (.ref en1), .val (.int r6), .val (.int (1 : Int32)), .val (.int r8), .val (.int r9), .val (.double d100), .second, .val (.double d104), .second, .val (.int (1 : Int32))] [(.int r6)]))
    refine Go.step (fun t k => XS.iload X_31.here hx rfl (hb hby at_144) rfl  k) ?_
    show Go p.tables e below P (T_31.setTop (mkF m 146 #[.val (.int p1), .val (.int p2), .val (.int p3), .val (.ref arr), .val (.int (1 : Int32)), .val (.ref en1), .val (.int r6), .val (.int (1 : Int32)), .val (.int r8), .val (.int r9), .val (.double d100), .second, .val (.double d104), .second, .val (.int (1 : Int32))] [(.int r8), (.int r6)]))
    refine Go.step (fun t k => XS.iload X_31.here hx rfl (hb hby at_146) rfl  k) ?_
    show Go p.tables e below P (T_31.setTop (mkF m 148 #[.val (.int p1), .val (.int p2), .val (.int p3), .val (.ref arr), .val (.int (1 : Int32)), .val (.ref en1), .val (.int r6), .val (.int (1 : Int32)), .val (.int r8), .val (.int r9), .val (.double d100), .second, .val (.double d104), .second, .val (.int (1 : Int32))] [(.int r9), (.int r8), (.int r6)]))
    refine Go.step (fun t k => XS.icmpNo X_31.here hx rfl (hb hby at_148) rfl (icN (cd := .ne) (by omega : ¬ (¬ r8.toInt = r9.toInt))) k) ?_
    show Go p.tables e below P (T_31.setTop (mkF m 151 #[.val (.int p1), .val (.int p2), .val (.int p3), .val (.ref arr), .val (.int (1 : Int32)), .val (.ref en1), .val (.int r6), .val (.int (1 : Int32)), .val (.int r8), .val (.int r9), .val (.double d100), .second, .val (.double d104), .second, .val (.int (1 : Int32))] [(.int r6)]))
    refine Go.step (fun t k => XS.iconst X_31.here hx rfl (hb hby at_151) k) ?_
    show Go p.tables e below P (T_31.setTop (mkF m 152 #[.val (.int p1), .val (.int p2), .val (.int p3), .val (.ref arr), .val (.int (1 : Int32)), .val (.ref en1), .val (.int r6), .val (.int (1 : Int32)), .val (.int r8), .val (.int r9), .val (.double d100), .second, .val (.double d104), .second, .val (.int (1 : Int32))] [(.int (1 : Int32)), (.int r6)]))
    refine Go.step (fun t k => XS.goto X_31.here hx rfl (pc0 := 152) (pc' := 156) rfl (hb hby at_152) (by decide) (by decide) k) ?_
    show Go p.tables e below P (T_31.setTop (mkF m 156 #[.val (.int p1), .val (.int p2), .val (.int p3), .val (.ref arr), .val (.int (1 : Int32)), .val (.ref en1), .val (.int r6), .val (.int (1 : Int32)), .val (.int r8), .val (.int r9), .val (.double d100), .second, .val (.double d104), .second, .val (.int (1 : Int32))] [(.int (1 : Int32)), (.int r6)]))
    refine Go.step (fun t k => XS.icmpNo X_31.here hx rfl (hb hby at_156) rfl (icN (cd := .ne) (by omega : ¬ (¬ r6.toInt = (1 : Int)))) k) ?_
    show Go p.tables e below P (T_31.setTop (mkF m 159 #[.val (.int p1), .val (.int p2), .val (.int p3), .val (.ref arr), .val (.int (1 : Int32)), .val (.ref en1), .val (.int r6), .val (.int (1 : Int32)), .val (.int r8), .val (.int r9), .val (.double d100), .second, .val (.double d104), .second, .val (.int (1 : Int32))] []))
    refine Go.step (fun t k => XS.iload X_31.here hx rfl (hb hby at_159) rfl  k) ?_
    show Go p.tables e below P (T_31.setTop (mkF m 161 #[.val (.int p1), .val (.int p2), .val (.int p3), .val (.ref arr), .val (.int (1 : Int32)), .val (.ref en1), .val (.int r6), .val (.int (1 : Int32)), .val (.int r8), .val (.int r9), .val (.double d100), .second, .val (.double d104), .second, .val (.int (1 : Int32))] [(.int r6)]))
    refine Go.step (fun t k => XS.ifNo X_31.here hx rfl (hb hby at_161) rfl (ifN (cd := .eq) (by omega : ¬ (r6.toInt = 0))) k) ?_
    show Go p.tables e below P (T_31.setTop (mkF m 164 #[.val (.int p1), .val (.int p2), .val (.int p3), .val (.ref arr), .val (.int (1 : Int32)), .val (.ref en1), .val (.int r6), .val (.int (1 : Int32)), .val (.int r8), .val (.int r9), .val (.double d100), .second, .val (.double d104), .second, .val (.int (1 : Int32))] []))
    refine Go.step (fun t k => XS.iload X_31.here hx rfl (hb hby at_164) rfl  k) ?_
    show Go p.tables e below P (T_31.setTop (mkF m 166 #[.val (.int p1), .val (.int p2), .val (.int p3), .val (.ref arr), .val (.int (1 : Int32)), .val (.ref en1), .val (.int r6), .val (.int (1 : Int32)), .val (.int r8), .val (.int r9), .val (.double d100), .second, .val (.double d104), .second, .val (.int (1 : Int32))] [(.int (1 : Int32))]))
    refine Go.step (fun t k => XS.ifNo X_31.here hx rfl (hb hby at_166) rfl (ifN (cd := .eq) (by decide : ¬ ((1 : Int) = 0))) k) ?_
    show Go p.tables e below P (T_31.setTop (mkF m 169 #[.val (.int p1), .val (.int p2), .val (.int p3), .val (.ref arr), .val (.int (1 : Int32)), .val (.ref en1), .val (.int r6), .val (.int (1 : Int32)), .val (.int r8), .val (.int r9), .val (.double d100), .second, .val (.double d104), .second, .val (.int (1 : Int32))] []))
    refine Go.step (fun t k => XS.iconst X_31.here hx rfl (hb hby at_169) k) ?_
    show Go p.tables e below P (T_31.setTop (mkF m 170 #[.val (.int p1), .val (.int p2), .val (.int p3), .val (.ref arr), .val (.int (1 : Int32)), .val (.ref en1), .val (.int r6), .val (.int (1 : Int32)), .val (.int r8), .val (.int r9), .val (.double d100), .second, .val (.double d104), .second, .val (.int (1 : Int32))] [(.int (1 : Int32))]))
    refine Go.step (fun t k => XS.goto X_31.here hx rfl (pc0 := 170) (pc' := 174) rfl (hb hby at_170) (by decide) (by decide) k) ?_
    show Go p.tables e below P (T_31.setTop (mkF m 174 #[.val (.int p1), .val (.int p2), .val (.int p3), .val (.ref arr), .val (.int (1 : Int32)), .val (.ref en1), .val (.int r6), .val (.int (1 : Int32)), .val (.int r8), .val (.int r9), .val (.double d100), .second, .val (.double d104), .second, .val (.int (1 : Int32))] [(.int (1 : Int32))]))
    exact retGo X_31 hx hP Bd.returns hlk rfl (Or.inl ⟨rfl, Or.inr (Or.inl rfl), _, rfl⟩) (hb hby at_174) (by decide) (by decide) (by rw [eh_31]; exact ⟨rfl, N_31⟩)
  · subst ej48
    show Go p.tables e below P (T_19.setTop (mkF m 54 #[.val (.int p1), .val (.int p2), .val (.int p3), .val (.ref arr), .val (.int (2 : Int32)), .unset, .unset, .unset, .unset, .unset, .unset, .unset, .unset, .unset, .unset] [(.int (2 : Int32)), (.ref arr)]))
    have vq_32 := V_19
    obtain ⟨cl_32, Ar_32, q_32, S_32, Nn_32, H_32, G_32⟩ := vq_32
    have hin_32 : ¬ ((2 : Int32) < 0 ∨ cl_32.slots.size ≤ ((2 : Int32)).toNatClampNeg) := inb_of S_32 ⟨by decide, by decide⟩
    have hat_32 : cl_32.slots[((2 : Int32)).toNatClampNeg]? = some (.ref en2) := Has.at H_32 hin_32 rfl
    refine Go.step (fun t k => X_19.aaload hx (j := (2 : Int32)) (v := (.ref en2)) (by rw [e_19]; exact Ar_32.1) (State.isArrayOf_alike hZ.alike Ar_32.2.1) rfl Ar_32.2.2 hin_32 hat_32 (g := (mkF m 54 #[.val (.int p1), .val (.int p2), .val (.int p3), .val (.ref arr), .val (.int (2 : Int32)), .unset, .unset, .unset, .unset, .unset, .unset, .unset, .unset, .unset, .unset] [(.int (2 : Int32)), (.ref arr)])) rfl rfl (hb hby at_54) t k) ?_
    show Go p.tables e below P (T_19.setTop (mkF m 55 #[.val (.int p1), .val (.int p2), .val (.int p3), .val (.ref arr), .val (.int (2 : Int32)), .unset, .unset, .unset, .unset, .unset, .unset, .unset, .unset, .unset, .unset] [(.ref en2)]))
    refine Go.step (fun t k => XS.astore X_19.here hx rfl (hb hby at_55) rfl rfl (l' := #[.val (.int p1), .val (.int p2), .val (.int p3), .val (.ref arr), .val (.int (2 : Int32)), .val (.ref en2), .unset, .unset, .unset, .unset, .unset, .unset, .unset, .unset, .unset]) rfl k) ?_
    show Go p.tables e below P (T_19.setTop (mkF m 57 #[.val (.int p1), .val (.int p2), .val (.int p3), .val (.ref arr), .val (.int (2 : Int32)), .val (.ref en2), .unset, .unset, .unset, .unset, .unset, .unset, .unset, .unset, .unset] []))
    refine Go.step (fun t k => XS.aload X_19.here hx rfl (hb hby at_57) rfl rfl k) ?_
    show Go p.tables e below P (T_19.setTop (mkF m 59 #[.val (.int p1), .val (.int p2), .val (.int p3), .val (.ref arr), .val (.int (2 : Int32)), .val (.ref en2), .unset, .unset, .unset, .unset, .unset, .unset, .unset, .unset, .unset] [(.ref en2)]))
    obtain ⟨cq_33, kq_33, q_33a, q_33b, q_33c⟩ := isOf hZ e_19 (((((((E_en2.ext E_1).wr W_4).wr W_7).wr W_10).wr W_13).wr W_16).wr W_19)
    obtain ⟨_, _, ⟨T_33, L_33, k_33, n_33⟩, -, X_33, ⟨Lc_33, hQ_33, l_33, y_33, z_33⟩, st_33⟩ := X_19.virtualBack hx (y := (⟨"com/example/geofence/geofence/Comparison", "isEquality", "()Z"⟩ : MethodName)) (z := (⟨"com/example/geofence/geofence/Comparison", "isEquality", "()Z"⟩ : MethodName)) hown (mvT hZ (hw _ (List.mem_of_getElem? (i := 17) rfl))) (mvT hZ (hw _ (List.mem_of_getElem? (i := 18) rfl))) (notFace_of_selects (args := #[]) (mvT hZ (hw _ (List.mem_of_getElem? (i := 20) rfl)))) (mvT hZ (hw _ (List.mem_of_getElem? (i := 20) rfl))) (mvT hZ (hw _ (List.mem_of_getElem? (i := 19) rfl))) (by decide) (backOf (W := 0) (rm2 l Z a0 hw [] en2 en0 en1 h_19 n0 Z_19 (Sta_keep0 S0 K_19) (Sta_keep0 S1 K_19)) hZ (hw _ (List.mem_of_getElem? (i := 21) rfl)) (hw _ (List.mem_of_getElem? (i := 3) rfl)) (by decide) (by decide)) q_33a q_33c (g := (mkF m 59 #[.val (.int p1), .val (.int p2), .val (.int p3), .val (.ref arr), .val (.int (2 : Int32)), .val (.ref en2), .unset, .unset, .unset, .unset, .unset, .unset, .unset, .unset, .unset] [(.ref en2)])) rfl (by rw [hml]; rfl) (Steps.refl _) (argsL := []) (rest := []) (lenOf pd_1 rfl) rfl (by show 2 * 0 + _ ≤ _; exact Nat.le_of_eq rfl) (hb hby at_59) (fun _ _ => ⟨rfl, e_19, (by decide : 1 + 0 ≤ _), (by decide : 6 + 0 ≤ _)⟩)
    dsimp only [Pt.U, Pt.locs, Pt.cells, Pt.slots] at X_33 l_33 y_33 z_33 st_33 hQ_33
    subst l_33 y_33 z_33
    obtain ⟨r6, rfl, hr6, N_33q, eh_33⟩ := hQ_33
    have N_33 := Fr.app N_19 N_33q
    refine Go.tr st_33 ?_
    show Go p.tables e below P (T_33.setTop (mkF m 62 #[.val (.int p1), .val (.int p2), .val (.int p3), .val (.ref arr), .val (.int (2 : Int32)), .val (.ref en2), .unset, .unset, .unset, .unset, .unset, .unset, .unset, .unset, .unset] [(.int r6)]))
    have v6 : r6.toInt = 0 := by rcases hr6 with ⟨h1, h2⟩ | ⟨h1, h2, h3⟩; (rcases h1 with h1 | h1; exact absurd h1 n0_2; exact absurd h1 n1_2); exact h3
    clear hr6
    refine Go.step (fun t k => XS.istore X_33.here hx rfl (hb hby at_62) rfl (l' := #[.val (.int p1), .val (.int p2), .val (.int p3), .val (.ref arr), .val (.int (2 : Int32)), .val (.ref en2), .val (.int r6), .unset, .unset, .unset, .unset, .unset, .unset, .unset, .unset]) rfl k) ?_
    show Go p.tables e below P (T_33.setTop (mkF m 64 #[.val (.int p1), .val (.int p2), .val (.int p3), .val (.ref arr), .val (.int (2 : Int32)), .val (.ref en2), .val (.int r6), .unset, .unset, .unset, .unset, .unset, .unset, .unset, .unset] []))
    refine Go.step (fun t k => XS.iload X_33.here hx rfl (hb hby at_64) rfl  k) ?_
    show Go p.tables e below P (T_33.setTop (mkF m 66 #[.val (.int p1), .val (.int p2), .val (.int p3), .val (.ref arr), .val (.int (2 : Int32)), .val (.ref en2), .val (.int r6), .unset, .unset, .unset, .unset, .unset, .unset, .unset, .unset] [(.int (2 : Int32))]))
    refine Go.step (fun t k => XS.iconst X_33.here hx rfl (hb hby at_66) k) ?_
    show Go p.tables e below P (T_33.setTop (mkF m 67 #[.val (.int p1), .val (.int p2), .val (.int p3), .val (.ref arr), .val (.int (2 : Int32)), .val (.ref en2), .val (.int r6), .unset, .unset, .unset, .unset, .unset, .unset, .unset, .unset] [(.int (2 : Int32)), (.int (2 : Int32))]))
    refine Go.step (fun t k => XS.icmpYes X_33.here hx rfl (pc0 := 67) (pc' := 74) rfl (hb hby at_67) rfl (icY (cd := .ge) (by decide : (2 : Int) ≤ (2 : Int))) (by decide) (by decide) k) ?_
    show Go p.tables e below P (T_33.setTop (mkF m 74 #[.val (.int p1), .val (.int p2), .val (.int p3), .val (.ref arr), .val (.int (2 : Int32)), .val (.ref en2), .val (.int r6), .unset, .unset, .unset, .unset, .unset, .unset, .unset, .unset] []))
    refine Go.step (fun t k => XS.iconst X_33.here hx rfl (hb hby at_74) k) ?_
    show Go p.tables e below P (T_33.setTop (mkF m 75 #[.val (.int p1), .val (.int p2), .val (.int p3), .val (.ref arr), .val (.int (2 : Int32)), .val (.ref en2), .val (.int r6), .unset, .unset, .unset, .unset, .unset, .unset, .unset, .unset] [(.int (0 : Int32))]))
    refine Go.step (fun t k => XS.istore X_33.here hx rfl (hb hby at_75) rfl (l' := #[.val (.int p1), .val (.int p2), .val (.int p3), .val (.ref arr), .val (.int (2 : Int32)), .val (.ref en2), .val (.int r6), .val (.int (0 : Int32)), .unset, .unset, .unset, .unset, .unset, .unset, .unset]) rfl k) ?_
    show Go p.tables e below P (T_33.setTop (mkF m 77 #[.val (.int p1), .val (.int p2), .val (.int p3), .val (.ref arr), .val (.int (2 : Int32)), .val (.ref en2), .val (.int r6), .val (.int (0 : Int32)), .unset, .unset, .unset, .unset, .unset, .unset, .unset] []))
    refine Go.step (fun t k => XS.aload X_33.here hx rfl (hb hby at_77) rfl rfl k) ?_
    show Go p.tables e below P (T_33.setTop (mkF m 79 #[.val (.int p1), .val (.int p2), .val (.int p3), .val (.ref arr), .val (.int (2 : Int32)), .val (.ref en2), .val (.int r6), .val (.int (0 : Int32)), .unset, .unset, .unset, .unset, .unset, .unset, .unset] [(.ref en2)]))
    refine Go.step (fun t k => XS.dconst1 X_33.here hx rfl (hb hby at_79) rfl k) ?_
    show Go p.tables e below P (T_33.setTop (mkF m 80 #[.val (.int p1), .val (.int p2), .val (.int p3), .val (.ref arr), .val (.int (2 : Int32)), .val (.ref en2), .val (.int r6), .val (.int (0 : Int32)), .unset, .unset, .unset, .unset, .unset, .unset, .unset] [(.double FP.dconst1), (.ref en2)]))
    refine Go.step (fun t k => X_33.ldc2DoubleC hx hown (mvT hZ (hw _ (List.mem_of_getElem? (i := 23) rfl))) (g := (mkF m 80 #[.val (.int p1), .val (.int p2), .val (.int p3), .val (.ref arr), .val (.int (2 : Int32)), .val (.ref en2), .val (.int r6), .val (.int (0 : Int32)), .unset, .unset, .unset, .unset, .unset, .unset, .unset] [(.double FP.dconst1), (.ref en2)])) rfl (hb hby at_80) t k) ?_
    show Go p.tables e below P (T_33.setTop (mkF m 83 #[.val (.int p1), .val (.int p2), .val (.int p3), .val (.ref arr), .val (.int (2 : Int32)), .val (.ref en2), .val (.int r6), .val (.int (0 : Int32)), .unset, .unset, .unset, .unset, .unset, .unset, .unset] [(.double (4611686018427387904 : UInt64)), (.double FP.dconst1), (.ref en2)]))
    obtain ⟨cq_34, kq_34, q_34a, q_34b, q_34c⟩ := isOf hZ eh_33 (((((((E_en2.ext E_1).wr W_4).wr W_7).wr W_10).wr W_13).wr W_16).wr W_19)
    obtain ⟨_, _, ⟨T_34, L_34, k_34, n_34⟩, -, X_34, ⟨Lc_34, hQ_34, l_34, y_34, z_34⟩, st_34⟩ := X_33.virtualBack hx (y := (⟨"com/example/geofence/geofence/Comparison", "holds", "(DD)Z"⟩ : MethodName)) (z := (⟨"com/example/geofence/geofence/Comparison", "holds", "(DD)Z"⟩ : MethodName)) hown (mvT hZ (hw _ (List.mem_of_getElem? (i := 24) rfl))) (mvT hZ (hw _ (List.mem_of_getElem? (i := 25) rfl))) (notFace_of_selects (args := #[]) (mvT hZ (hw _ (List.mem_of_getElem? (i := 27) rfl)))) (mvT hZ (hw _ (List.mem_of_getElem? (i := 27) rfl))) (mvT hZ (hw _ (List.mem_of_getElem? (i := 26) rfl))) (by decide) (backOf (W := 0) (holds2 l Z a0 hw [] en2 FP.dconst1 (4611686018427387904 : UInt64) (1) (2) h_19 n0 Z_19 (((((((E_en2.ext E_1).wr W_4).wr W_7).wr W_10).wr W_13).wr W_16).wr W_19) (((((((O2.ext E_1).other W_4 (Or.inl ne_en2_arr)).other W_7 (Or.inl ne_en2_arr)).other W_10 (Or.inl ne_en2_arr)).other W_13 (Or.inl ne_en2_arr)).other W_16 (Or.inl ne_en2_arr)).other W_19 (Or.inl ne_en2_arr)) one_e two_e) hZ (hw _ (List.mem_of_getElem? (i := 28) rfl)) (hw _ (List.mem_of_getElem? (i := 3) rfl)) (by decide) (by decide)) q_34a q_34c (g := (mkF m 83 #[.val (.int p1), .val (.int p2), .val (.int p3), .val (.ref arr), .val (.int (2 : Int32)), .val (.ref en2), .val (.int r6), .val (.int (0 : Int32)), .unset, .unset, .unset, .unset, .unset, .unset, .unset] [(.double (4611686018427387904 : UInt64)), (.double FP.dconst1), (.ref en2)])) rfl (by rw [hml]; rfl) (Steps.refl _) (argsL := [(.double FP.dconst1), (.double (4611686018427387904 : UInt64))]) (rest := []) (lenOf pd_2 rfl) rfl (by show 2 * 0 + _ ≤ _; exact Nat.le_of_eq rfl) (hb hby at_83) (fun _ _ => ⟨rfl, eh_33, (by decide : 1 + 0 ≤ _), (by decide : 6 + 0 ≤ _)⟩)
    dsimp only [Pt.U, Pt.locs, Pt.cells, Pt.slots] at X_34 l_34 y_34 z_34 st_34 hQ_34
    subst l_34 y_34 z_34
    obtain ⟨r8, rfl, hr8, N_34q, eh_34⟩ := hQ_34
    have N_34 := Fr.app N_33 N_34q
    refine Go.tr st_34 ?_
    show Go p.tables e below P (T_34.setTop (mkF m 86 #[.val (.int p1), .val (.int p2), .val (.int p3), .val (.ref arr), .val (.int (2 : Int32)), .val (.ref en2), .val (.int r6), .val (.int (0 : Int32)), .unset, .unset, .unset, .unset, .unset, .unset, .unset] [(.int r8)]))
    refine Go.step (fun t k => XS.istore X_34.here hx rfl (hb hby at_86) rfl (l' := #[.val (.int p1), .val (.int p2), .val (.int p3), .val (.ref arr), .val (.int (2 : Int32)), .val (.ref en2), .val (.int r6), .val (.int (0 : Int32)), .val (.int r8), .unset, .unset, .unset, .unset, .unset, .unset]) rfl k) ?_
    show Go p.tables e below P (T_34.setTop (mkF m 88 #[.val (.int p1), .val (.int p2), .val (.int p3), .val (.ref arr), .val (.int (2 : Int32)), .val (.ref en2), .val (.int r6), .val (.int (0 : Int32)), .val (.int r8), .unset, .unset, .unset, .unset, .unset, .unset] []))
    refine Go.step (fun t k => XS.aload X_34.here hx rfl (hb hby at_88) rfl rfl k) ?_
    show Go p.tables e below P (T_34.setTop (mkF m 90 #[.val (.int p1), .val (.int p2), .val (.int p3), .val (.ref arr), .val (.int (2 : Int32)), .val (.ref en2), .val (.int r6), .val (.int (0 : Int32)), .val (.int r8), .unset, .unset, .unset, .unset, .unset, .unset] [(.ref en2)]))
    refine Go.step (fun t k => X_34.ldc2DoubleC hx hown (mvT hZ (hw _ (List.mem_of_getElem? (i := 23) rfl))) (g := (mkF m 90 #[.val (.int p1), .val (.int p2), .val (.int p3), .val (.ref arr), .val (.int (2 : Int32)), .val (.ref en2), .val (.int r6), .val (.int (0 : Int32)), .val (.int r8), .unset, .unset, .unset, .unset, .unset, .unset] [(.ref en2)])) rfl (hb hby at_90) t k) ?_
    show Go p.tables e below P (T_34.setTop (mkF m 93 #[.val (.int p1), .val (.int p2), .val (.int p3), .val (.ref arr), .val (.int (2 : Int32)), .val (.ref en2), .val (.int r6), .val (.int (0 : Int32)), .val (.int r8), .unset, .unset, .unset, .unset, .unset, .unset] [(.double (4611686018427387904 : UInt64)), (.ref en2)]))
    refine Go.step (fun t k => XS.dconst1 X_34.here hx rfl (hb hby at_93) rfl k) ?_
    show Go p.tables e below P (T_34.setTop (mkF m 94 #[.val (.int p1), .val (.int p2), .val (.int p3), .val (.ref arr), .val (.int (2 : Int32)), .val (.ref en2), .val (.int r6), .val (.int (0 : Int32)), .val (.int r8), .unset, .unset, .unset, .unset, .unset, .unset] [(.double FP.dconst1), (.double (4611686018427387904 : UInt64)), (.ref en2)]))
    obtain ⟨cq_35, kq_35, q_35a, q_35b, q_35c⟩ := isOf hZ eh_34 (((((((E_en2.ext E_1).wr W_4).wr W_7).wr W_10).wr W_13).wr W_16).wr W_19)
    obtain ⟨_, _, ⟨T_35, L_35, k_35, n_35⟩, -, X_35, ⟨Lc_35, hQ_35, l_35, y_35, z_35⟩, st_35⟩ := X_34.virtualBack hx (y := (⟨"com/example/geofence/geofence/Comparison", "holds", "(DD)Z"⟩ : MethodName)) (z := (⟨"com/example/geofence/geofence/Comparison", "holds", "(DD)Z"⟩ : MethodName)) hown (mvT hZ (hw _ (List.mem_of_getElem? (i := 24) rfl))) (mvT hZ (hw _ (List.mem_of_getElem? (i := 25) rfl))) (notFace_of_selects (args := #[]) (mvT hZ (hw _ (List.mem_of_getElem? (i := 27) rfl)))) (mvT hZ (hw _ (List.mem_of_getElem? (i := 27) rfl))) (mvT hZ (hw _ (List.mem_of_getElem? (i := 26) rfl))) (by decide) (backOf (W := 0) (holds2 l Z a0 hw [] en2 (4611686018427387904 : UInt64) FP.dconst1 (2) (1) h_19 n0 Z_19 (((((((E_en2.ext E_1).wr W_4).wr W_7).wr W_10).wr W_13).wr W_16).wr W_19) (((((((O2.ext E_1).other W_4 (Or.inl ne_en2_arr)).other W_7 (Or.inl ne_en2_arr)).other W_10 (Or.inl ne_en2_arr)).other W_13 (Or.inl ne_en2_arr)).other W_16 (Or.inl ne_en2_arr)).other W_19 (Or.inl ne_en2_arr)) two_e one_e) hZ (hw _ (List.mem_of_getElem? (i := 28) rfl)) (hw _ (List.mem_of_getElem? (i := 3) rfl)) (by decide) (by decide)) q_35a q_35c (g := (mkF m 94 #[.val (.int p1), .val (.int p2), .val (.int p3), .val (.ref arr), .val (.int (2 : Int32)), .val (.ref en2), .val (.int r6), .val (.int (0 : Int32)), .val (.int r8), .unset, .unset, .unset, .unset, .unset, .unset] [(.double FP.dconst1), (.double (4611686018427387904 : UInt64)), (.ref en2)])) rfl (by rw [hml]; rfl) (Steps.refl _) (argsL := [(.double (4611686018427387904 : UInt64)), (.double FP.dconst1)]) (rest := []) (lenOf pd_2 rfl) rfl (by show 2 * 0 + _ ≤ _; exact Nat.le_of_eq rfl) (hb hby at_94) (fun _ _ => ⟨rfl, eh_34, (by decide : 1 + 0 ≤ _), (by decide : 6 + 0 ≤ _)⟩)
    dsimp only [Pt.U, Pt.locs, Pt.cells, Pt.slots] at X_35 l_35 y_35 z_35 st_35 hQ_35
    subst l_35 y_35 z_35
    obtain ⟨r9, rfl, hr9, N_35q, eh_35⟩ := hQ_35
    have N_35 := Fr.app N_34 N_35q
    refine Go.tr st_35 ?_
    show Go p.tables e below P (T_35.setTop (mkF m 97 #[.val (.int p1), .val (.int p2), .val (.int p3), .val (.ref arr), .val (.int (2 : Int32)), .val (.ref en2), .val (.int r6), .val (.int (0 : Int32)), .val (.int r8), .unset, .unset, .unset, .unset, .unset, .unset] [(.int r9)]))
    refine Go.step (fun t k => XS.istore X_35.here hx rfl (hb hby at_97) rfl (l' := #[.val (.int p1), .val (.int p2), .val (.int p3), .val (.ref arr), .val (.int (2 : Int32)), .val (.ref en2), .val (.int r6), .val (.int (0 : Int32)), .val (.int r8), .val (.int r9), .unset, .unset, .unset, .unset, .unset]) rfl k) ?_
    show Go p.tables e below P (T_35.setTop (mkF m 99 #[.val (.int p1), .val (.int p2), .val (.int p3), .val (.ref arr), .val (.int (2 : Int32)), .val (.ref en2), .val (.int r6), .val (.int (0 : Int32)), .val (.int r8), .val (.int r9), .unset, .unset, .unset, .unset, .unset] []))
    refine Go.step (fun t k => XS.iloadN X_35.here hx rfl (hb hby at_99) rfl  k) ?_
    show Go p.tables e below P (T_35.setTop (mkF m 100 #[.val (.int p1), .val (.int p2), .val (.int p3), .val (.ref arr), .val (.int (2 : Int32)), .val (.ref en2), .val (.int r6), .val (.int (0 : Int32)), .val (.int r8), .val (.int r9), .unset, .unset, .unset, .unset, .unset] [(.int p2)]))
    obtain ⟨d100, hd100⟩ : ∃ z : UInt64, FP.i2d p2 = z := ⟨_, rfl⟩
    refine Go.step (fun t k => XS.i2dS X_35.here hx rfl (hb hby at_100) rfl hd100 k) ?_
    show Go p.tables e below P (T_35.setTop (mkF m 101 #[.val (.int p1), .val (.int p2), .val (.int p3), .val (.ref arr), .val (.int (2 : Int32)), .val (.ref en2), .val (.int r6), .val (.int (0 : Int32)), .val (.int r8), .val (.int r9), .unset, .unset, .unset, .unset, .unset] [(.double d100)]))
    have q100 := i2d_e p2; rw [hd100] at q100
    refine Go.step (fun t k => XS.dstore X_35.here hx rfl (hb hby at_101) rfl (l' := #[.val (.int p1), .val (.int p2), .val (.int p3), .val (.ref arr), .val (.int (2 : Int32)), .val (.ref en2), .val (.int r6), .val (.int (0 : Int32)), .val (.int r8), .val (.int r9), .val (.double d100), .second, .unset, .unset, .unset]) rfl k) ?_
    show Go p.tables e below P (T_35.setTop (mkF m 103 #[.val (.int p1), .val (.int p2), .val (.int p3), .val (.ref arr), .val (.int (2 : Int32)), .val (.ref en2), .val (.int r6), .val (.int (0 : Int32)), .val (.int r8), .val (.int r9), .val (.double d100), .second, .unset, .unset, .unset] []))
    refine Go.step (fun t k => XS.iloadN X_35.here hx rfl (hb hby at_103) rfl  k) ?_
    show Go p.tables e below P (T_35.setTop (mkF m 104 #[.val (.int p1), .val (.int p2), .val (.int p3), .val (.ref arr), .val (.int (2 : Int32)), .val (.ref en2), .val (.int r6), .val (.int (0 : Int32)), .val (.int r8), .val (.int r9), .val (.double d100), .second, .unset, .unset, .unset] [(.int p3)]))
    obtain ⟨d104, hd104⟩ : ∃ z : UInt64, FP.i2d p3 = z := ⟨_, rfl⟩
    refine Go.step (fun t k => XS.i2dS X_35.here hx rfl (hb hby at_104) rfl hd104 k) ?_
    show Go p.tables e below P (T_35.setTop (mkF m 105 #[.val (.int p1), .val (.int p2), .val (.int p3), .val (.ref arr), .val (.int (2 : Int32)), .val (.ref en2), .val (.int r6), .val (.int (0 : Int32)), .val (.int r8), .val (.int r9), .val (.double d100), .second, .unset, .unset, .unset] [(.double d104)]))
    have q104 := i2d_e p3; rw [hd104] at q104
    refine Go.step (fun t k => XS.dstore X_35.here hx rfl (hb hby at_105) rfl (l' := #[.val (.int p1), .val (.int p2), .val (.int p3), .val (.ref arr), .val (.int (2 : Int32)), .val (.ref en2), .val (.int r6), .val (.int (0 : Int32)), .val (.int r8), .val (.int r9), .val (.double d100), .second, .val (.double d104), .second, .unset]) rfl k) ?_
    show Go p.tables e below P (T_35.setTop (mkF m 107 #[.val (.int p1), .val (.int p2), .val (.int p3), .val (.ref arr), .val (.int (2 : Int32)), .val (.ref en2), .val (.int r6), .val (.int (0 : Int32)), .val (.int r8), .val (.int r9), .val (.double d100), .second, .val (.double d104), .second, .unset] []))
    refine Go.step (fun t k => XS.aload X_35.here hx rfl (hb hby at_107) rfl rfl k) ?_
    show Go p.tables e below P (T_35.setTop (mkF m 109 #[.val (.int p1), .val (.int p2), .val (.int p3), .val (.ref arr), .val (.int (2 : Int32)), .val (.ref en2), .val (.int r6), .val (.int (0 : Int32)), .val (.int r8), .val (.int r9), .val (.double d100), .second, .val (.double d104), .second, .unset] [(.ref en2)]))
    refine Go.step (fun t k => XS.dload X_35.here hx rfl (hb hby at_109) rfl  k) ?_
    show Go p.tables e below P (T_35.setTop (mkF m 111 #[.val (.int p1), .val (.int p2), .val (.int p3), .val (.ref arr), .val (.int (2 : Int32)), .val (.ref en2), .val (.int r6), .val (.int (0 : Int32)), .val (.int r8), .val (.int r9), .val (.double d100), .second, .val (.double d104), .second, .unset] [(.double d100), (.ref en2)]))
    refine Go.step (fun t k => XS.dload X_35.here hx rfl (hb hby at_111) rfl  k) ?_
    show Go p.tables e below P (T_35.setTop (mkF m 113 #[.val (.int p1), .val (.int p2), .val (.int p3), .val (.ref arr), .val (.int (2 : Int32)), .val (.ref en2), .val (.int r6), .val (.int (0 : Int32)), .val (.int r8), .val (.int r9), .val (.double d100), .second, .val (.double d104), .second, .unset] [(.double d104), (.double d100), (.ref en2)]))
    obtain ⟨cq_36, kq_36, q_36a, q_36b, q_36c⟩ := isOf hZ eh_35 (((((((E_en2.ext E_1).wr W_4).wr W_7).wr W_10).wr W_13).wr W_16).wr W_19)
    obtain ⟨_, _, ⟨T_36, L_36, k_36, n_36⟩, -, X_36, ⟨Lc_36, hQ_36, l_36, y_36, z_36⟩, st_36⟩ := X_35.virtualBack hx (y := (⟨"com/example/geofence/geofence/Comparison", "holds", "(DD)Z"⟩ : MethodName)) (z := (⟨"com/example/geofence/geofence/Comparison", "holds", "(DD)Z"⟩ : MethodName)) hown (mvT hZ (hw _ (List.mem_of_getElem? (i := 24) rfl))) (mvT hZ (hw _ (List.mem_of_getElem? (i := 25) rfl))) (notFace_of_selects (args := #[]) (mvT hZ (hw _ (List.mem_of_getElem? (i := 27) rfl)))) (mvT hZ (hw _ (List.mem_of_getElem? (i := 27) rfl))) (mvT hZ (hw _ (List.mem_of_getElem? (i := 26) rfl))) (by decide) (backOf (W := 0) (holds2 l Z a0 hw [] en2 d100 d104 (p2.toInt) (p3.toInt) h_19 n0 Z_19 (((((((E_en2.ext E_1).wr W_4).wr W_7).wr W_10).wr W_13).wr W_16).wr W_19) (((((((O2.ext E_1).other W_4 (Or.inl ne_en2_arr)).other W_7 (Or.inl ne_en2_arr)).other W_10 (Or.inl ne_en2_arr)).other W_13 (Or.inl ne_en2_arr)).other W_16 (Or.inl ne_en2_arr)).other W_19 (Or.inl ne_en2_arr)) q100 q104) hZ (hw _ (List.mem_of_getElem? (i := 28) rfl)) (hw _ (List.mem_of_getElem? (i := 3) rfl)) (by decide) (by decide)) q_36a q_36c (g := (mkF m 113 #[.val (.int p1), .val (.int p2), .val (.int p3), .val (.ref arr), .val (.int (2 : Int32)), .val (.ref en2), .val (.int r6), .val (.int (0 : Int32)), .val (.int r8), .val (.int r9), .val (.double d100), .second, .val (.double d104), .second, .unset] [(.double d104), (.double d100), (.ref en2)])) rfl (by rw [hml]; rfl) (Steps.refl _) (argsL := [(.double d100), (.double d104)]) (rest := []) (lenOf pd_2 rfl) rfl (by show 2 * 0 + _ ≤ _; exact Nat.le_of_eq rfl) (hb hby at_113) (fun _ _ => ⟨rfl, eh_35, (by decide : 1 + 0 ≤ _), (by decide : 6 + 0 ≤ _)⟩)
    dsimp only [Pt.U, Pt.locs, Pt.cells, Pt.slots] at X_36 l_36 y_36 z_36 st_36 hQ_36
    subst l_36 y_36 z_36
    obtain ⟨ra, rfl, hra, N_36q, eh_36⟩ := hQ_36
    have N_36 := Fr.app N_35 N_36q
    refine Go.tr st_36 ?_
    show Go p.tables e below P (T_36.setTop (mkF m 116 #[.val (.int p1), .val (.int p2), .val (.int p3), .val (.ref arr), .val (.int (2 : Int32)), .val (.ref en2), .val (.int r6), .val (.int (0 : Int32)), .val (.int r8), .val (.int r9), .val (.double d100), .second, .val (.double d104), .second, .unset] [(.int ra)]))
    refine Go.step (fun t k => XS.aload X_36.here hx rfl (hb hby at_116) rfl rfl k) ?_
    show Go p.tables e below P (T_36.setTop (mkF m 118 #[.val (.int p1), .val (.int p2), .val (.int p3), .val (.ref arr), .val (.int (2 : Int32)), .val (.ref en2), .val (.int r6), .val (.int (0 : Int32)), .val (.int r8), .val (.int r9), .val (.double d100), .second, .val (.double d104), .second, .unset] [(.ref en2), (.int ra)]))
    refine Go.step (fun t k => XS.dload X_36.here hx rfl (hb hby at_118) rfl  k) ?_
    show Go p.tables e below P (T_36.setTop (mkF m 120 #[.val (.int p1), .val (.int p2), .val (.int p3), .val (.ref arr), .val (.int (2 : Int32)), .val (.ref en2), .val (.int r6), .val (.int (0 : Int32)), .val (.int r8), .val (.int r9), .val (.double d100), .second, .val (.double d104), .second, .unset] [(.double d104), (.ref en2), (.int ra)]))
    refine Go.step (fun t k => XS.dload X_36.here hx rfl (hb hby at_120) rfl  k) ?_
    show Go p.tables e below P (T_36.setTop (mkF m 122 #[.val (.int p1), .val (.int p2), .val (.int p3), .val (.ref arr), .val (.int (2 : Int32)), .val (.ref en2), .val (.int r6), .val (.int (0 : Int32)), .val (.int r8), .val (.int r9), .val (.double d100), .second, .val (.double d104), .second, .unset] [(.double d100), (.double d104), (.ref en2), (.int ra)]))
    obtain ⟨cq_37, kq_37, q_37a, q_37b, q_37c⟩ := isOf hZ eh_36 (((((((E_en2.ext E_1).wr W_4).wr W_7).wr W_10).wr W_13).wr W_16).wr W_19)
    obtain ⟨_, _, ⟨T_37, L_37, k_37, n_37⟩, -, X_37, ⟨Lc_37, hQ_37, l_37, y_37, z_37⟩, st_37⟩ := X_36.virtualBack hx (y := (⟨"com/example/geofence/geofence/Comparison", "holds", "(DD)Z"⟩ : MethodName)) (z := (⟨"com/example/geofence/geofence/Comparison", "holds", "(DD)Z"⟩ : MethodName)) hown (mvT hZ (hw _ (List.mem_of_getElem? (i := 24) rfl))) (mvT hZ (hw _ (List.mem_of_getElem? (i := 25) rfl))) (notFace_of_selects (args := #[]) (mvT hZ (hw _ (List.mem_of_getElem? (i := 27) rfl)))) (mvT hZ (hw _ (List.mem_of_getElem? (i := 27) rfl))) (mvT hZ (hw _ (List.mem_of_getElem? (i := 26) rfl))) (by decide) (backOf (W := 1) (holds2 l Z a0 hw [] en2 d104 d100 (p3.toInt) (p2.toInt) h_19 n0 Z_19 (((((((E_en2.ext E_1).wr W_4).wr W_7).wr W_10).wr W_13).wr W_16).wr W_19) (((((((O2.ext E_1).other W_4 (Or.inl ne_en2_arr)).other W_7 (Or.inl ne_en2_arr)).other W_10 (Or.inl ne_en2_arr)).other W_13 (Or.inl ne_en2_arr)).other W_16 (Or.inl ne_en2_arr)).other W_19 (Or.inl ne_en2_arr)) q104 q100) hZ (hw _ (List.mem_of_getElem? (i := 28) rfl)) (hw _ (List.mem_of_getElem? (i := 3) rfl)) (by decide) (by decide)) q_37a q_37c (g := (mkF m 122 #[.val (.int p1), .val (.int p2), .val (.int p3), .val (.ref arr), .val (.int (2 : Int32)), .val (.ref en2), .val (.int r6), .val (.int (0 : Int32)), .val (.int r8), .val (.int r9), .val (.double d100), .second, .val (.double d104), .second, .unset] [(.double d100), (.double d104), (.ref en2), (.int ra)])) rfl (by rw [hml]; rfl) (Steps.refl _) (argsL := [(.double d104), (.double d100)]) (rest := [(.int ra)]) (lenOf pd_2 rfl) rfl (by show 2 * 0 + _ ≤ _; exact Nat.le_of_eq rfl) (hb hby at_122) (fun _ _ => ⟨rfl, eh_36, (by decide : 1 + 0 ≤ _), (by decide : 6 + 0 ≤ _)⟩)
    dsimp only [Pt.U, Pt.locs, Pt.cells, Pt.slots] at X_37 l_37 y_37 z_37 st_37 hQ_37
    subst l_37 y_37 z_37
    obtain ⟨rb, rfl, hrb, N_37q, eh_37⟩ := hQ_37
    have N_37 := Fr.app N_36 N_37q
    refine Go.tr st_37 ?_
    show Go p.tables e below P (T_37.setTop (mkF m 125 #[.val (.int p1), .val (.int p2), .val (.int p3), .val (.ref arr), .val (.int (2 : Int32)), .val (.ref en2), .val (.int r6), .val (.int (0 : Int32)), .val (.int r8), .val (.int r9), .val (.double d100), .second, .val (.double d104), .second, .unset] [(.int rb), (.int ra)]))
    by_cases hc125 : ¬ ra.toInt = rb.toInt
    · refine Go.step (fun t k => XS.icmpYes X_37.here hx rfl (pc0 := 125) (pc' := 132) rfl (hb hby at_125) rfl (icY (cd := .ne) hc125) (by decide) (by decide) k) ?_
      show Go p.tables e below P (T_37.setTop (mkF m 132 #[.val (.int p1), .val (.int p2), .val (.int p3), .val (.ref arr), .val (.int (2 : Int32)), .val (.ref en2), .val (.int r6), .val (.int (0 : Int32)), .val (.int r8), .val (.int r9), .val (.double d100), .second, .val (.double d104), .second, .unset] []))
      refine Go.step (fun t k => XS.iconst X_37.here hx rfl (hb hby at_132) k) ?_
      show Go p.tables e below P (T_37.setTop (mkF m 133 #[.val (.int p1), .val (.int p2), .val (.int p3), .val (.ref arr), .val (.int (2 : Int32)), .val (.ref en2), .val (.int r6), .val (.int (0 : Int32)), .val (.int r8), .val (.int r9), .val (.double d100), .second, .val (.double d104), .second, .unset] [(.int (0 : Int32))]))
      refine Go.step (fun t k => XS.istore X_37.here hx rfl (hb hby at_133) rfl (l' := #[.val (.int p1), .val (.int p2), .val (.int p3), .val (.ref arr), .val (.int (2 : Int32)), .val (.ref en2), .val (.int r6), .val (.int (0 : Int32)), .val (.int r8), .val (.int r9), .val (.double d100), .second, .val (.double d104), .second, .val (.int (0 : Int32))]) rfl k) ?_
      show Go p.tables e below P (T_37.setTop (mkF m 135 #[.val (.int p1), .val (.int p2), .val (.int p3), .val (.ref arr), .val (.int (2 : Int32)), .val (.ref en2), .val (.int r6), .val (.int (0 : Int32)), .val (.int r8), .val (.int r9), .val (.double d100), .second, .val (.double d104), .second, .val (.int (0 : Int32))] []))
      refine Go.step (fun t k => XS.iload X_37.here hx rfl (hb hby at_135) rfl  k) ?_
      show Go p.tables e below P (T_37.setTop (mkF m 137 #[.val (.int p1), .val (.int p2), .val (.int p3), .val (.ref arr), .val (.int (2 : Int32)), .val (.ref en2), .val (.int r6), .val (.int (0 : Int32)), .val (.int r8), .val (.int r9), .val (.double d100), .second, .val (.double d104), .second, .val (.int (0 : Int32))] [(.int r6)]))
      refine Go.step (fun t k => XS.iload X_37.here hx rfl (hb hby at_137) rfl  k) ?_
      show Go p.tables e below P (T_37.setTop (mkF m 139 #[.val (.int p1), .val (.int p2), .val (.int p3), .val (.ref arr), .val (.int (2 : Int32)), .val (.ref en2), .val (.int r6), .val (.int (0 : Int32)), .val (.int r8), .val (.int r9), .val (.double d100), .second, .val (.double d104), .second, .val (.int (0 : Int32))] [(.int (0 : Int32)), (.int r6)]))
      refine Go.step (fun t k => XS.icmpNo X_37.here hx rfl (hb hby at_139) rfl (icN (cd := .ne) (by omega : ¬ (¬ r6.toInt = (0 : Int)))) k) ?_
      show Go p.tables e below P (T_37.setTop (mkF m 142 #[.val (.int p1), .val (.int p2), .val (.int p3), .val (.ref arr), .val (.int (2 : Int32)), .val (.ref en2), .val (.int r6), .val (.int (0 : Int32)), .val (.int r8), .val (.int r9), .val (.double d100), .second, .val (.double d104), .second, .val (.int (0 : Int32))] []))
      refine Go.step (fun t k => XS.iload X_37.here hx rfl (hb hby at_142) rfl  k) ?_
      show Go p.tables e below P (T_37.setTop (mkF m 144 #[.val (.int p1), .val (.int p2), .val (.int p3), .val (.ref arr), .val (.int (2 : Int32)), .val (.ref en2), .val (.int r6), .val (.int (0 : Int32)), .val (.int r8), .val (.int r9), .val (.double d100), .second, .val (.double d104), .second, .val (.int (0 : Int32))] [(.int r6)]))
      refine Go.step (fun t k => XS.iload X_37.here hx rfl (hb hby at_144) rfl  k) ?_
      show Go p.tables e below P (T_37.setTop (mkF m 146 #[.val (.int p1), .val (.int p2), .val (.int p3), .val (.ref arr), .val (.int (2 : Int32)), .val (.ref en2), .val (.int r6), .val (.int (0 : Int32)), .val (.int r8), .val (.int r9), .val (.double d100), .second, .val (.double d104), .second, .val (.int (0 : Int32))] [(.int r8), (.int r6)]))
      refine Go.step (fun t k => XS.iload X_37.here hx rfl (hb hby at_146) rfl  k) ?_
      show Go p.tables e below P (T_37.setTop (mkF m 148 #[.val (.int p1), .val (.int p2), .val (.int p3), .val (.ref arr), .val (.int (2 : Int32)), .val (.ref en2), .val (.int r6), .val (.int (0 : Int32)), .val (.int r8), .val (.int r9), .val (.double d100), .second, .val (.double d104), .second, .val (.int (0 : Int32))] [(.int r9), (.int r8), (.int r6)]))
      refine Go.step (fun t k => XS.icmpYes X_37.here hx rfl (pc0 := 148) (pc' := 155) rfl (hb hby at_148) rfl (icY (cd := .ne) (by omega : ¬ r8.toInt = r9.toInt)) (by decide) (by decide) k) ?_
      show Go p.tables e below P (T_37.setTop (mkF m 155 #[.val (.int p1), .val (.int p2), .val (.int p3), .val (.ref arr), .val (.int (2 : Int32)), .val (.ref en2), .val (.int r6), .val (.int (0 : Int32)), .val (.int r8), .val (.int r9), .val (.double d100), .second, .val (.double d104), .second, .val (.int (0 : Int32))] [(.int r6)]))
      refine Go.step (fun t k => XS.iconst X_37.here hx rfl (hb hby at_155) k) ?_
      show Go p.tables e below P (T_37.setTop (mkF m 156 #[.val (.int p1), .val (.int p2), .val (.int p3), .val (.ref arr), .val (.int (2 : Int32)), .val (.ref en2), .val (.int r6), .val (.int (0 : Int32)), .val (.int r8), .val (.int r9), .val (.double d100), .second, .val (.double d104), .second, .val (.int (0 : Int32))] [(.int (0 : Int32)), (.int r6)]))
      refine Go.step (fun t k => XS.icmpNo X_37.here hx rfl (hb hby at_156) rfl (icN (cd := .ne) (by omega : ¬ (¬ r6.toInt = (0 : Int)))) k) ?_
      show Go p.tables e below P (T_37.setTop (mkF m 159 #[.val (.int p1), .val (.int p2), .val (.int p3), .val (.ref arr), .val (.int (2 : Int32)), .val (.ref en2), .val (.int r6), .val (.int (0 : Int32)), .val (.int r8), .val (.int r9), .val (.double d100), .second, .val (.double d104), .second, .val (.int (0 : Int32))] []))
      refine Go.step (fun t k => XS.iload X_37.here hx rfl (hb hby at_159) rfl  k) ?_
      show Go p.tables e below P (T_37.setTop (mkF m 161 #[.val (.int p1), .val (.int p2), .val (.int p3), .val (.ref arr), .val (.int (2 : Int32)), .val (.ref en2), .val (.int r6), .val (.int (0 : Int32)), .val (.int r8), .val (.int r9), .val (.double d100), .second, .val (.double d104), .second, .val (.int (0 : Int32))] [(.int r6)]))
      refine Go.step (fun t k => XS.ifYes X_37.here hx rfl (pc0 := 161) (pc' := 169) rfl (hb hby at_161) rfl (ifY (cd := .eq) (by omega : r6.toInt = 0)) (by decide) (by decide) k) ?_
      show Go p.tables e below P (T_37.setTop (mkF m 169 #[.val (.int p1), .val (.int p2), .val (.int p3), .val (.ref arr), .val (.int (2 : Int32)), .val (.ref en2), .val (.int r6), .val (.int (0 : Int32)), .val (.int r8), .val (.int r9), .val (.double d100), .second, .val (.double d104), .second, .val (.int (0 : Int32))] []))
      refine Go.step (fun t k => XS.iconst X_37.here hx rfl (hb hby at_169) k) ?_
      show Go p.tables e below P (T_37.setTop (mkF m 170 #[.val (.int p1), .val (.int p2), .val (.int p3), .val (.ref arr), .val (.int (2 : Int32)), .val (.ref en2), .val (.int r6), .val (.int (0 : Int32)), .val (.int r8), .val (.int r9), .val (.double d100), .second, .val (.double d104), .second, .val (.int (0 : Int32))] [(.int (1 : Int32))]))
      refine Go.step (fun t k => XS.goto X_37.here hx rfl (pc0 := 170) (pc' := 174) rfl (hb hby at_170) (by decide) (by decide) k) ?_
      show Go p.tables e below P (T_37.setTop (mkF m 174 #[.val (.int p1), .val (.int p2), .val (.int p3), .val (.ref arr), .val (.int (2 : Int32)), .val (.ref en2), .val (.int r6), .val (.int (0 : Int32)), .val (.int r8), .val (.int r9), .val (.double d100), .second, .val (.double d104), .second, .val (.int (0 : Int32))] [(.int (1 : Int32))]))
      exact retGo X_37 hx hP Bd.returns hlk rfl (Or.inl ⟨rfl, Or.inr (Or.inl rfl), _, rfl⟩) (hb hby at_174) (by decide) (by decide) (by rw [eh_37]; exact ⟨rfl, N_37⟩)
    · refine Go.step (fun t k => XS.icmpNo X_37.here hx rfl (hb hby at_125) rfl (icN (cd := .ne) hc125) k) ?_
      show Go p.tables e below P (T_37.setTop (mkF m 128 #[.val (.int p1), .val (.int p2), .val (.int p3), .val (.ref arr), .val (.int (2 : Int32)), .val (.ref en2), .val (.int r6), .val (.int (0 : Int32)), .val (.int r8), .val (.int r9), .val (.double d100), .second, .val (.double d104), .second, .unset] []))
      refine Go.step (fun t k => XS.iconst X_37.here hx rfl (hb hby at_128) k) ?_
      show Go p.tables e below P (T_37.setTop (mkF m 129 #[.val (.int p1), .val (.int p2), .val (.int p3), .val (.ref arr), .val (.int (2 : Int32)), .val (.ref en2), .val (.int r6), .val (.int (0 : Int32)), .val (.int r8), .val (.int r9), .val (.double d100), .second, .val (.double d104), .second, .unset] [(.int (1 : Int32))]))
      refine Go.step (fun t k => XS.goto X_37.here hx rfl (pc0 := 129) (pc' := 133) rfl (hb hby at_129) (by decide) (by decide) k) ?_
      show Go p.tables e below P (T_37.setTop (mkF m 133 #[.val (.int p1), .val (.int p2), .val (.int p3), .val (.ref arr), .val (.int (2 : Int32)), .val (.ref en2), .val (.int r6), .val (.int (0 : Int32)), .val (.int r8), .val (.int r9), .val (.double d100), .second, .val (.double d104), .second, .unset] [(.int (1 : Int32))]))
      refine Go.step (fun t k => XS.istore X_37.here hx rfl (hb hby at_133) rfl (l' := #[.val (.int p1), .val (.int p2), .val (.int p3), .val (.ref arr), .val (.int (2 : Int32)), .val (.ref en2), .val (.int r6), .val (.int (0 : Int32)), .val (.int r8), .val (.int r9), .val (.double d100), .second, .val (.double d104), .second, .val (.int (1 : Int32))]) rfl k) ?_
      show Go p.tables e below P (T_37.setTop (mkF m 135 #[.val (.int p1), .val (.int p2), .val (.int p3), .val (.ref arr), .val (.int (2 : Int32)), .val (.ref en2), .val (.int r6), .val (.int (0 : Int32)), .val (.int r8), .val (.int r9), .val (.double d100), .second, .val (.double d104), .second, .val (.int (1 : Int32))] []))
      refine Go.step (fun t k => XS.iload X_37.here hx rfl (hb hby at_135) rfl  k) ?_
      show Go p.tables e below P (T_37.setTop (mkF m 137 #[.val (.int p1), .val (.int p2), .val (.int p3), .val (.ref arr), .val (.int (2 : Int32)), .val (.ref en2), .val (.int r6), .val (.int (0 : Int32)), .val (.int r8), .val (.int r9), .val (.double d100), .second, .val (.double d104), .second, .val (.int (1 : Int32))] [(.int r6)]))
      refine Go.step (fun t k => XS.iload X_37.here hx rfl (hb hby at_137) rfl  k) ?_
      show Go p.tables e below P (T_37.setTop (mkF m 139 #[.val (.int p1), .val (.int p2), .val (.int p3), .val (.ref arr), .val (.int (2 : Int32)), .val (.ref en2), .val (.int r6), .val (.int (0 : Int32)), .val (.int r8), .val (.int r9), .val (.double d100), .second, .val (.double d104), .second, .val (.int (1 : Int32))] [(.int (0 : Int32)), (.int r6)]))
      refine Go.step (fun t k => XS.icmpNo X_37.here hx rfl (hb hby at_139) rfl (icN (cd := .ne) (by omega : ¬ (¬ r6.toInt = (0 : Int)))) k) ?_
      show Go p.tables e below P (T_37.setTop (mkF m 142 #[.val (.int p1), .val (.int p2), .val (.int p3), .val (.ref arr), .val (.int (2 : Int32)), .val (.ref en2), .val (.int r6), .val (.int (0 : Int32)), .val (.int r8), .val (.int r9), .val (.double d100), .second, .val (.double d104), .second, .val (.int (1 : Int32))] []))
      refine Go.step (fun t k => XS.iload X_37.here hx rfl (hb hby at_142) rfl  k) ?_
      show Go p.tables e below P (T_37.setTop (mkF m 144 #[.val (.int p1), .val (.int p2), .val (.int p3), .val (.ref arr), .val (.int (2 : Int32)), .val (.ref en2), .val (.int r6), .val (.int (0 : Int32)), .val (.int r8), .val (.int r9), .val (.double d100), .second, .val (.double d104), .second, .val (.int (1 : Int32))] [(.int r6)]))
      refine Go.step (fun t k => XS.iload X_37.here hx rfl (hb hby at_144) rfl  k) ?_
      show Go p.tables e below P (T_37.setTop (mkF m 146 #[.val (.int p1), .val (.int p2), .val (.int p3), .val (.ref arr), .val (.int (2 : Int32)), .val (.ref en2), .val (.int r6), .val (.int (0 : Int32)), .val (.int r8), .val (.int r9), .val (.double d100), .second, .val (.double d104), .second, .val (.int (1 : Int32))] [(.int r8), (.int r6)]))
      refine Go.step (fun t k => XS.iload X_37.here hx rfl (hb hby at_146) rfl  k) ?_
      show Go p.tables e below P (T_37.setTop (mkF m 148 #[.val (.int p1), .val (.int p2), .val (.int p3), .val (.ref arr), .val (.int (2 : Int32)), .val (.ref en2), .val (.int r6), .val (.int (0 : Int32)), .val (.int r8), .val (.int r9), .val (.double d100), .second, .val (.double d104), .second, .val (.int (1 : Int32))] [(.int r9), (.int r8), (.int r6)]))
      refine Go.step (fun t k => XS.icmpYes X_37.here hx rfl (pc0 := 148) (pc' := 155) rfl (hb hby at_148) rfl (icY (cd := .ne) (by omega : ¬ r8.toInt = r9.toInt)) (by decide) (by decide) k) ?_
      show Go p.tables e below P (T_37.setTop (mkF m 155 #[.val (.int p1), .val (.int p2), .val (.int p3), .val (.ref arr), .val (.int (2 : Int32)), .val (.ref en2), .val (.int r6), .val (.int (0 : Int32)), .val (.int r8), .val (.int r9), .val (.double d100), .second, .val (.double d104), .second, .val (.int (1 : Int32))] [(.int r6)]))
      refine Go.step (fun t k => XS.iconst X_37.here hx rfl (hb hby at_155) k) ?_
      show Go p.tables e below P (T_37.setTop (mkF m 156 #[.val (.int p1), .val (.int p2), .val (.int p3), .val (.ref arr), .val (.int (2 : Int32)), .val (.ref en2), .val (.int r6), .val (.int (0 : Int32)), .val (.int r8), .val (.int r9), .val (.double d100), .second, .val (.double d104), .second, .val (.int (1 : Int32))] [(.int (0 : Int32)), (.int r6)]))
      refine Go.step (fun t k => XS.icmpNo X_37.here hx rfl (hb hby at_156) rfl (icN (cd := .ne) (by omega : ¬ (¬ r6.toInt = (0 : Int)))) k) ?_
      show Go p.tables e below P (T_37.setTop (mkF m 159 #[.val (.int p1), .val (.int p2), .val (.int p3), .val (.ref arr), .val (.int (2 : Int32)), .val (.ref en2), .val (.int r6), .val (.int (0 : Int32)), .val (.int r8), .val (.int r9), .val (.double d100), .second, .val (.double d104), .second, .val (.int (1 : Int32))] []))
      refine Go.step (fun t k => XS.iload X_37.here hx rfl (hb hby at_159) rfl  k) ?_
      show Go p.tables e below P (T_37.setTop (mkF m 161 #[.val (.int p1), .val (.int p2), .val (.int p3), .val (.ref arr), .val (.int (2 : Int32)), .val (.ref en2), .val (.int r6), .val (.int (0 : Int32)), .val (.int r8), .val (.int r9), .val (.double d100), .second, .val (.double d104), .second, .val (.int (1 : Int32))] [(.int r6)]))
      refine Go.step (fun t k => XS.ifYes X_37.here hx rfl (pc0 := 161) (pc' := 169) rfl (hb hby at_161) rfl (ifY (cd := .eq) (by omega : r6.toInt = 0)) (by decide) (by decide) k) ?_
      show Go p.tables e below P (T_37.setTop (mkF m 169 #[.val (.int p1), .val (.int p2), .val (.int p3), .val (.ref arr), .val (.int (2 : Int32)), .val (.ref en2), .val (.int r6), .val (.int (0 : Int32)), .val (.int r8), .val (.int r9), .val (.double d100), .second, .val (.double d104), .second, .val (.int (1 : Int32))] []))
      refine Go.step (fun t k => XS.iconst X_37.here hx rfl (hb hby at_169) k) ?_
      show Go p.tables e below P (T_37.setTop (mkF m 170 #[.val (.int p1), .val (.int p2), .val (.int p3), .val (.ref arr), .val (.int (2 : Int32)), .val (.ref en2), .val (.int r6), .val (.int (0 : Int32)), .val (.int r8), .val (.int r9), .val (.double d100), .second, .val (.double d104), .second, .val (.int (1 : Int32))] [(.int (1 : Int32))]))
      refine Go.step (fun t k => XS.goto X_37.here hx rfl (pc0 := 170) (pc' := 174) rfl (hb hby at_170) (by decide) (by decide) k) ?_
      show Go p.tables e below P (T_37.setTop (mkF m 174 #[.val (.int p1), .val (.int p2), .val (.int p3), .val (.ref arr), .val (.int (2 : Int32)), .val (.ref en2), .val (.int r6), .val (.int (0 : Int32)), .val (.int r8), .val (.int r9), .val (.double d100), .second, .val (.double d104), .second, .val (.int (1 : Int32))] [(.int (1 : Int32))]))
      exact retGo X_37 hx hP Bd.returns hlk rfl (Or.inl ⟨rfl, Or.inr (Or.inl rfl), _, rfl⟩) (hb hby at_174) (by decide) (by decide) (by rw [eh_37]; exact ⟨rfl, N_37⟩)
  · subst ej48
    show Go p.tables e below P (T_19.setTop (mkF m 54 #[.val (.int p1), .val (.int p2), .val (.int p3), .val (.ref arr), .val (.int (3 : Int32)), .unset, .unset, .unset, .unset, .unset, .unset, .unset, .unset, .unset, .unset] [(.int (3 : Int32)), (.ref arr)]))
    have vq_38 := V_19
    obtain ⟨cl_38, Ar_38, q_38, S_38, Nn_38, H_38, G_38⟩ := vq_38
    have hin_38 : ¬ ((3 : Int32) < 0 ∨ cl_38.slots.size ≤ ((3 : Int32)).toNatClampNeg) := inb_of S_38 ⟨by decide, by decide⟩
    have hat_38 : cl_38.slots[((3 : Int32)).toNatClampNeg]? = some (.ref en3) := Has.at H_38 hin_38 rfl
    refine Go.step (fun t k => X_19.aaload hx (j := (3 : Int32)) (v := (.ref en3)) (by rw [e_19]; exact Ar_38.1) (State.isArrayOf_alike hZ.alike Ar_38.2.1) rfl Ar_38.2.2 hin_38 hat_38 (g := (mkF m 54 #[.val (.int p1), .val (.int p2), .val (.int p3), .val (.ref arr), .val (.int (3 : Int32)), .unset, .unset, .unset, .unset, .unset, .unset, .unset, .unset, .unset, .unset] [(.int (3 : Int32)), (.ref arr)])) rfl rfl (hb hby at_54) t k) ?_
    show Go p.tables e below P (T_19.setTop (mkF m 55 #[.val (.int p1), .val (.int p2), .val (.int p3), .val (.ref arr), .val (.int (3 : Int32)), .unset, .unset, .unset, .unset, .unset, .unset, .unset, .unset, .unset, .unset] [(.ref en3)]))
    refine Go.step (fun t k => XS.astore X_19.here hx rfl (hb hby at_55) rfl rfl (l' := #[.val (.int p1), .val (.int p2), .val (.int p3), .val (.ref arr), .val (.int (3 : Int32)), .val (.ref en3), .unset, .unset, .unset, .unset, .unset, .unset, .unset, .unset, .unset]) rfl k) ?_
    show Go p.tables e below P (T_19.setTop (mkF m 57 #[.val (.int p1), .val (.int p2), .val (.int p3), .val (.ref arr), .val (.int (3 : Int32)), .val (.ref en3), .unset, .unset, .unset, .unset, .unset, .unset, .unset, .unset, .unset] []))
    refine Go.step (fun t k => XS.aload X_19.here hx rfl (hb hby at_57) rfl rfl k) ?_
    show Go p.tables e below P (T_19.setTop (mkF m 59 #[.val (.int p1), .val (.int p2), .val (.int p3), .val (.ref arr), .val (.int (3 : Int32)), .val (.ref en3), .unset, .unset, .unset, .unset, .unset, .unset, .unset, .unset, .unset] [(.ref en3)]))
    obtain ⟨cq_39, kq_39, q_39a, q_39b, q_39c⟩ := isOf hZ e_19 (((((((E_en3.ext E_1).wr W_4).wr W_7).wr W_10).wr W_13).wr W_16).wr W_19)
    obtain ⟨_, _, ⟨T_39, L_39, k_39, n_39⟩, -, X_39, ⟨Lc_39, hQ_39, l_39, y_39, z_39⟩, st_39⟩ := X_19.virtualBack hx (y := (⟨"com/example/geofence/geofence/Comparison", "isEquality", "()Z"⟩ : MethodName)) (z := (⟨"com/example/geofence/geofence/Comparison", "isEquality", "()Z"⟩ : MethodName)) hown (mvT hZ (hw _ (List.mem_of_getElem? (i := 17) rfl))) (mvT hZ (hw _ (List.mem_of_getElem? (i := 18) rfl))) (notFace_of_selects (args := #[]) (mvT hZ (hw _ (List.mem_of_getElem? (i := 20) rfl)))) (mvT hZ (hw _ (List.mem_of_getElem? (i := 20) rfl))) (mvT hZ (hw _ (List.mem_of_getElem? (i := 19) rfl))) (by decide) (backOf (W := 0) (rm2 l Z a0 hw [] en3 en0 en1 h_19 n0 Z_19 (Sta_keep0 S0 K_19) (Sta_keep0 S1 K_19)) hZ (hw _ (List.mem_of_getElem? (i := 21) rfl)) (hw _ (List.mem_of_getElem? (i := 3) rfl)) (by decide) (by decide)) q_39a q_39c (g := (mkF m 59 #[.val (.int p1), .val (.int p2), .val (.int p3), .val (.ref arr), .val (.int (3 : Int32)), .val (.ref en3), .unset, .unset, .unset, .unset, .unset, .unset, .unset, .unset, .unset] [(.ref en3)])) rfl (by rw [hml]; rfl) (Steps.refl _) (argsL := []) (rest := []) (lenOf pd_1 rfl) rfl (by show 2 * 0 + _ ≤ _; exact Nat.le_of_eq rfl) (hb hby at_59) (fun _ _ => ⟨rfl, e_19, (by decide : 1 + 0 ≤ _), (by decide : 6 + 0 ≤ _)⟩)
    dsimp only [Pt.U, Pt.locs, Pt.cells, Pt.slots] at X_39 l_39 y_39 z_39 st_39 hQ_39
    subst l_39 y_39 z_39
    obtain ⟨r6, rfl, hr6, N_39q, eh_39⟩ := hQ_39
    have N_39 := Fr.app N_19 N_39q
    refine Go.tr st_39 ?_
    show Go p.tables e below P (T_39.setTop (mkF m 62 #[.val (.int p1), .val (.int p2), .val (.int p3), .val (.ref arr), .val (.int (3 : Int32)), .val (.ref en3), .unset, .unset, .unset, .unset, .unset, .unset, .unset, .unset, .unset] [(.int r6)]))
    have v6 : r6.toInt = 0 := by rcases hr6 with ⟨h1, h2⟩ | ⟨h1, h2, h3⟩; (rcases h1 with h1 | h1; exact absurd h1 n0_3; exact absurd h1 n1_3); exact h3
    clear hr6
    refine Go.step (fun t k => XS.istore X_39.here hx rfl (hb hby at_62) rfl (l' := #[.val (.int p1), .val (.int p2), .val (.int p3), .val (.ref arr), .val (.int (3 : Int32)), .val (.ref en3), .val (.int r6), .unset, .unset, .unset, .unset, .unset, .unset, .unset, .unset]) rfl k) ?_
    show Go p.tables e below P (T_39.setTop (mkF m 64 #[.val (.int p1), .val (.int p2), .val (.int p3), .val (.ref arr), .val (.int (3 : Int32)), .val (.ref en3), .val (.int r6), .unset, .unset, .unset, .unset, .unset, .unset, .unset, .unset] []))
    refine Go.step (fun t k => XS.iload X_39.here hx rfl (hb hby at_64) rfl  k) ?_
    show Go p.tables e below P (T_39.setTop (mkF m 66 #[.val (.int p1), .val (.int p2), .val (.int p3), .val (.ref arr), .val (.int (3 : Int32)), .val (.ref en3), .val (.int r6), .unset, .unset, .unset, .unset, .unset, .unset, .unset, .unset] [(.int (3 : Int32))]))
    refine Go.step (fun t k => XS.iconst X_39.here hx rfl (hb hby at_66) k) ?_
    show Go p.tables e below P (T_39.setTop (mkF m 67 #[.val (.int p1), .val (.int p2), .val (.int p3), .val (.ref arr), .val (.int (3 : Int32)), .val (.ref en3), .val (.int r6), .unset, .unset, .unset, .unset, .unset, .unset, .unset, .unset] [(.int (2 : Int32)), (.int (3 : Int32))]))
    refine Go.step (fun t k => XS.icmpYes X_39.here hx rfl (pc0 := 67) (pc' := 74) rfl (hb hby at_67) rfl (icY (cd := .ge) (by decide : (2 : Int) ≤ (3 : Int))) (by decide) (by decide) k) ?_
    show Go p.tables e below P (T_39.setTop (mkF m 74 #[.val (.int p1), .val (.int p2), .val (.int p3), .val (.ref arr), .val (.int (3 : Int32)), .val (.ref en3), .val (.int r6), .unset, .unset, .unset, .unset, .unset, .unset, .unset, .unset] []))
    refine Go.step (fun t k => XS.iconst X_39.here hx rfl (hb hby at_74) k) ?_
    show Go p.tables e below P (T_39.setTop (mkF m 75 #[.val (.int p1), .val (.int p2), .val (.int p3), .val (.ref arr), .val (.int (3 : Int32)), .val (.ref en3), .val (.int r6), .unset, .unset, .unset, .unset, .unset, .unset, .unset, .unset] [(.int (0 : Int32))]))
    refine Go.step (fun t k => XS.istore X_39.here hx rfl (hb hby at_75) rfl (l' := #[.val (.int p1), .val (.int p2), .val (.int p3), .val (.ref arr), .val (.int (3 : Int32)), .val (.ref en3), .val (.int r6), .val (.int (0 : Int32)), .unset, .unset, .unset, .unset, .unset, .unset, .unset]) rfl k) ?_
    show Go p.tables e below P (T_39.setTop (mkF m 77 #[.val (.int p1), .val (.int p2), .val (.int p3), .val (.ref arr), .val (.int (3 : Int32)), .val (.ref en3), .val (.int r6), .val (.int (0 : Int32)), .unset, .unset, .unset, .unset, .unset, .unset, .unset] []))
    refine Go.step (fun t k => XS.aload X_39.here hx rfl (hb hby at_77) rfl rfl k) ?_
    show Go p.tables e below P (T_39.setTop (mkF m 79 #[.val (.int p1), .val (.int p2), .val (.int p3), .val (.ref arr), .val (.int (3 : Int32)), .val (.ref en3), .val (.int r6), .val (.int (0 : Int32)), .unset, .unset, .unset, .unset, .unset, .unset, .unset] [(.ref en3)]))
    refine Go.step (fun t k => XS.dconst1 X_39.here hx rfl (hb hby at_79) rfl k) ?_
    show Go p.tables e below P (T_39.setTop (mkF m 80 #[.val (.int p1), .val (.int p2), .val (.int p3), .val (.ref arr), .val (.int (3 : Int32)), .val (.ref en3), .val (.int r6), .val (.int (0 : Int32)), .unset, .unset, .unset, .unset, .unset, .unset, .unset] [(.double FP.dconst1), (.ref en3)]))
    refine Go.step (fun t k => X_39.ldc2DoubleC hx hown (mvT hZ (hw _ (List.mem_of_getElem? (i := 23) rfl))) (g := (mkF m 80 #[.val (.int p1), .val (.int p2), .val (.int p3), .val (.ref arr), .val (.int (3 : Int32)), .val (.ref en3), .val (.int r6), .val (.int (0 : Int32)), .unset, .unset, .unset, .unset, .unset, .unset, .unset] [(.double FP.dconst1), (.ref en3)])) rfl (hb hby at_80) t k) ?_
    show Go p.tables e below P (T_39.setTop (mkF m 83 #[.val (.int p1), .val (.int p2), .val (.int p3), .val (.ref arr), .val (.int (3 : Int32)), .val (.ref en3), .val (.int r6), .val (.int (0 : Int32)), .unset, .unset, .unset, .unset, .unset, .unset, .unset] [(.double (4611686018427387904 : UInt64)), (.double FP.dconst1), (.ref en3)]))
    obtain ⟨cq_40, kq_40, q_40a, q_40b, q_40c⟩ := isOf hZ eh_39 (((((((E_en3.ext E_1).wr W_4).wr W_7).wr W_10).wr W_13).wr W_16).wr W_19)
    obtain ⟨_, _, ⟨T_40, L_40, k_40, n_40⟩, -, X_40, ⟨Lc_40, hQ_40, l_40, y_40, z_40⟩, st_40⟩ := X_39.virtualBack hx (y := (⟨"com/example/geofence/geofence/Comparison", "holds", "(DD)Z"⟩ : MethodName)) (z := (⟨"com/example/geofence/geofence/Comparison", "holds", "(DD)Z"⟩ : MethodName)) hown (mvT hZ (hw _ (List.mem_of_getElem? (i := 24) rfl))) (mvT hZ (hw _ (List.mem_of_getElem? (i := 25) rfl))) (notFace_of_selects (args := #[]) (mvT hZ (hw _ (List.mem_of_getElem? (i := 27) rfl)))) (mvT hZ (hw _ (List.mem_of_getElem? (i := 27) rfl))) (mvT hZ (hw _ (List.mem_of_getElem? (i := 26) rfl))) (by decide) (backOf (W := 0) (holds3 l Z a0 hw [] en3 FP.dconst1 (4611686018427387904 : UInt64) (1) (2) h_19 n0 Z_19 (((((((E_en3.ext E_1).wr W_4).wr W_7).wr W_10).wr W_13).wr W_16).wr W_19) (((((((O3.ext E_1).other W_4 (Or.inl ne_en3_arr)).other W_7 (Or.inl ne_en3_arr)).other W_10 (Or.inl ne_en3_arr)).other W_13 (Or.inl ne_en3_arr)).other W_16 (Or.inl ne_en3_arr)).other W_19 (Or.inl ne_en3_arr)) one_e two_e) hZ (hw _ (List.mem_of_getElem? (i := 28) rfl)) (hw _ (List.mem_of_getElem? (i := 3) rfl)) (by decide) (by decide)) q_40a q_40c (g := (mkF m 83 #[.val (.int p1), .val (.int p2), .val (.int p3), .val (.ref arr), .val (.int (3 : Int32)), .val (.ref en3), .val (.int r6), .val (.int (0 : Int32)), .unset, .unset, .unset, .unset, .unset, .unset, .unset] [(.double (4611686018427387904 : UInt64)), (.double FP.dconst1), (.ref en3)])) rfl (by rw [hml]; rfl) (Steps.refl _) (argsL := [(.double FP.dconst1), (.double (4611686018427387904 : UInt64))]) (rest := []) (lenOf pd_2 rfl) rfl (by show 2 * 0 + _ ≤ _; exact Nat.le_of_eq rfl) (hb hby at_83) (fun _ _ => ⟨rfl, eh_39, (by decide : 1 + 0 ≤ _), (by decide : 6 + 0 ≤ _)⟩)
    dsimp only [Pt.U, Pt.locs, Pt.cells, Pt.slots] at X_40 l_40 y_40 z_40 st_40 hQ_40
    subst l_40 y_40 z_40
    obtain ⟨r8, rfl, hr8, N_40q, eh_40⟩ := hQ_40
    have N_40 := Fr.app N_39 N_40q
    refine Go.tr st_40 ?_
    show Go p.tables e below P (T_40.setTop (mkF m 86 #[.val (.int p1), .val (.int p2), .val (.int p3), .val (.ref arr), .val (.int (3 : Int32)), .val (.ref en3), .val (.int r6), .val (.int (0 : Int32)), .unset, .unset, .unset, .unset, .unset, .unset, .unset] [(.int r8)]))
    refine Go.step (fun t k => XS.istore X_40.here hx rfl (hb hby at_86) rfl (l' := #[.val (.int p1), .val (.int p2), .val (.int p3), .val (.ref arr), .val (.int (3 : Int32)), .val (.ref en3), .val (.int r6), .val (.int (0 : Int32)), .val (.int r8), .unset, .unset, .unset, .unset, .unset, .unset]) rfl k) ?_
    show Go p.tables e below P (T_40.setTop (mkF m 88 #[.val (.int p1), .val (.int p2), .val (.int p3), .val (.ref arr), .val (.int (3 : Int32)), .val (.ref en3), .val (.int r6), .val (.int (0 : Int32)), .val (.int r8), .unset, .unset, .unset, .unset, .unset, .unset] []))
    refine Go.step (fun t k => XS.aload X_40.here hx rfl (hb hby at_88) rfl rfl k) ?_
    show Go p.tables e below P (T_40.setTop (mkF m 90 #[.val (.int p1), .val (.int p2), .val (.int p3), .val (.ref arr), .val (.int (3 : Int32)), .val (.ref en3), .val (.int r6), .val (.int (0 : Int32)), .val (.int r8), .unset, .unset, .unset, .unset, .unset, .unset] [(.ref en3)]))
    refine Go.step (fun t k => X_40.ldc2DoubleC hx hown (mvT hZ (hw _ (List.mem_of_getElem? (i := 23) rfl))) (g := (mkF m 90 #[.val (.int p1), .val (.int p2), .val (.int p3), .val (.ref arr), .val (.int (3 : Int32)), .val (.ref en3), .val (.int r6), .val (.int (0 : Int32)), .val (.int r8), .unset, .unset, .unset, .unset, .unset, .unset] [(.ref en3)])) rfl (hb hby at_90) t k) ?_
    show Go p.tables e below P (T_40.setTop (mkF m 93 #[.val (.int p1), .val (.int p2), .val (.int p3), .val (.ref arr), .val (.int (3 : Int32)), .val (.ref en3), .val (.int r6), .val (.int (0 : Int32)), .val (.int r8), .unset, .unset, .unset, .unset, .unset, .unset] [(.double (4611686018427387904 : UInt64)), (.ref en3)]))
    refine Go.step (fun t k => XS.dconst1 X_40.here hx rfl (hb hby at_93) rfl k) ?_
    show Go p.tables e below P (T_40.setTop (mkF m 94 #[.val (.int p1), .val (.int p2), .val (.int p3), .val (.ref arr), .val (.int (3 : Int32)), .val (.ref en3), .val (.int r6), .val (.int (0 : Int32)), .val (.int r8), .unset, .unset, .unset, .unset, .unset, .unset] [(.double FP.dconst1), (.double (4611686018427387904 : UInt64)), (.ref en3)]))
    obtain ⟨cq_41, kq_41, q_41a, q_41b, q_41c⟩ := isOf hZ eh_40 (((((((E_en3.ext E_1).wr W_4).wr W_7).wr W_10).wr W_13).wr W_16).wr W_19)
    obtain ⟨_, _, ⟨T_41, L_41, k_41, n_41⟩, -, X_41, ⟨Lc_41, hQ_41, l_41, y_41, z_41⟩, st_41⟩ := X_40.virtualBack hx (y := (⟨"com/example/geofence/geofence/Comparison", "holds", "(DD)Z"⟩ : MethodName)) (z := (⟨"com/example/geofence/geofence/Comparison", "holds", "(DD)Z"⟩ : MethodName)) hown (mvT hZ (hw _ (List.mem_of_getElem? (i := 24) rfl))) (mvT hZ (hw _ (List.mem_of_getElem? (i := 25) rfl))) (notFace_of_selects (args := #[]) (mvT hZ (hw _ (List.mem_of_getElem? (i := 27) rfl)))) (mvT hZ (hw _ (List.mem_of_getElem? (i := 27) rfl))) (mvT hZ (hw _ (List.mem_of_getElem? (i := 26) rfl))) (by decide) (backOf (W := 0) (holds3 l Z a0 hw [] en3 (4611686018427387904 : UInt64) FP.dconst1 (2) (1) h_19 n0 Z_19 (((((((E_en3.ext E_1).wr W_4).wr W_7).wr W_10).wr W_13).wr W_16).wr W_19) (((((((O3.ext E_1).other W_4 (Or.inl ne_en3_arr)).other W_7 (Or.inl ne_en3_arr)).other W_10 (Or.inl ne_en3_arr)).other W_13 (Or.inl ne_en3_arr)).other W_16 (Or.inl ne_en3_arr)).other W_19 (Or.inl ne_en3_arr)) two_e one_e) hZ (hw _ (List.mem_of_getElem? (i := 28) rfl)) (hw _ (List.mem_of_getElem? (i := 3) rfl)) (by decide) (by decide)) q_41a q_41c (g := (mkF m 94 #[.val (.int p1), .val (.int p2), .val (.int p3), .val (.ref arr), .val (.int (3 : Int32)), .val (.ref en3), .val (.int r6), .val (.int (0 : Int32)), .val (.int r8), .unset, .unset, .unset, .unset, .unset, .unset] [(.double FP.dconst1), (.double (4611686018427387904 : UInt64)), (.ref en3)])) rfl (by rw [hml]; rfl) (Steps.refl _) (argsL := [(.double (4611686018427387904 : UInt64)), (.double FP.dconst1)]) (rest := []) (lenOf pd_2 rfl) rfl (by show 2 * 0 + _ ≤ _; exact Nat.le_of_eq rfl) (hb hby at_94) (fun _ _ => ⟨rfl, eh_40, (by decide : 1 + 0 ≤ _), (by decide : 6 + 0 ≤ _)⟩)
    dsimp only [Pt.U, Pt.locs, Pt.cells, Pt.slots] at X_41 l_41 y_41 z_41 st_41 hQ_41
    subst l_41 y_41 z_41
    obtain ⟨r9, rfl, hr9, N_41q, eh_41⟩ := hQ_41
    have N_41 := Fr.app N_40 N_41q
    refine Go.tr st_41 ?_
    show Go p.tables e below P (T_41.setTop (mkF m 97 #[.val (.int p1), .val (.int p2), .val (.int p3), .val (.ref arr), .val (.int (3 : Int32)), .val (.ref en3), .val (.int r6), .val (.int (0 : Int32)), .val (.int r8), .unset, .unset, .unset, .unset, .unset, .unset] [(.int r9)]))
    refine Go.step (fun t k => XS.istore X_41.here hx rfl (hb hby at_97) rfl (l' := #[.val (.int p1), .val (.int p2), .val (.int p3), .val (.ref arr), .val (.int (3 : Int32)), .val (.ref en3), .val (.int r6), .val (.int (0 : Int32)), .val (.int r8), .val (.int r9), .unset, .unset, .unset, .unset, .unset]) rfl k) ?_
    show Go p.tables e below P (T_41.setTop (mkF m 99 #[.val (.int p1), .val (.int p2), .val (.int p3), .val (.ref arr), .val (.int (3 : Int32)), .val (.ref en3), .val (.int r6), .val (.int (0 : Int32)), .val (.int r8), .val (.int r9), .unset, .unset, .unset, .unset, .unset] []))
    refine Go.step (fun t k => XS.iloadN X_41.here hx rfl (hb hby at_99) rfl  k) ?_
    show Go p.tables e below P (T_41.setTop (mkF m 100 #[.val (.int p1), .val (.int p2), .val (.int p3), .val (.ref arr), .val (.int (3 : Int32)), .val (.ref en3), .val (.int r6), .val (.int (0 : Int32)), .val (.int r8), .val (.int r9), .unset, .unset, .unset, .unset, .unset] [(.int p2)]))
    obtain ⟨d100, hd100⟩ : ∃ z : UInt64, FP.i2d p2 = z := ⟨_, rfl⟩
    refine Go.step (fun t k => XS.i2dS X_41.here hx rfl (hb hby at_100) rfl hd100 k) ?_
    show Go p.tables e below P (T_41.setTop (mkF m 101 #[.val (.int p1), .val (.int p2), .val (.int p3), .val (.ref arr), .val (.int (3 : Int32)), .val (.ref en3), .val (.int r6), .val (.int (0 : Int32)), .val (.int r8), .val (.int r9), .unset, .unset, .unset, .unset, .unset] [(.double d100)]))
    have q100 := i2d_e p2; rw [hd100] at q100
    refine Go.step (fun t k => XS.dstore X_41.here hx rfl (hb hby at_101) rfl (l' := #[.val (.int p1), .val (.int p2), .val (.int p3), .val (.ref arr), .val (.int (3 : Int32)), .val (.ref en3), .val (.int r6), .val (.int (0 : Int32)), .val (.int r8), .val (.int r9), .val (.double d100), .second, .unset, .unset, .unset]) rfl k) ?_
    show Go p.tables e below P (T_41.setTop (mkF m 103 #[.val (.int p1), .val (.int p2), .val (.int p3), .val (.ref arr), .val (.int (3 : Int32)), .val (.ref en3), .val (.int r6), .val (.int (0 : Int32)), .val (.int r8), .val (.int r9), .val (.double d100), .second, .unset, .unset, .unset] []))
    refine Go.step (fun t k => XS.iloadN X_41.here hx rfl (hb hby at_103) rfl  k) ?_
    show Go p.tables e below P (T_41.setTop (mkF m 104 #[.val (.int p1), .val (.int p2), .val (.int p3), .val (.ref arr), .val (.int (3 : Int32)), .val (.ref en3), .val (.int r6), .val (.int (0 : Int32)), .val (.int r8), .val (.int r9), .val (.double d100), .second, .unset, .unset, .unset] [(.int p3)]))
    obtain ⟨d104, hd104⟩ : ∃ z : UInt64, FP.i2d p3 = z := ⟨_, rfl⟩
    refine Go.step (fun t k => XS.i2dS X_41.here hx rfl (hb hby at_104) rfl hd104 k) ?_
    show Go p.tables e below P (T_41.setTop (mkF m 105 #[.val (.int p1), .val (.int p2), .val (.int p3), .val (.ref arr), .val (.int (3 : Int32)), .val (.ref en3), .val (.int r6), .val (.int (0 : Int32)), .val (.int r8), .val (.int r9), .val (.double d100), .second, .unset, .unset, .unset] [(.double d104)]))
    have q104 := i2d_e p3; rw [hd104] at q104
    refine Go.step (fun t k => XS.dstore X_41.here hx rfl (hb hby at_105) rfl (l' := #[.val (.int p1), .val (.int p2), .val (.int p3), .val (.ref arr), .val (.int (3 : Int32)), .val (.ref en3), .val (.int r6), .val (.int (0 : Int32)), .val (.int r8), .val (.int r9), .val (.double d100), .second, .val (.double d104), .second, .unset]) rfl k) ?_
    show Go p.tables e below P (T_41.setTop (mkF m 107 #[.val (.int p1), .val (.int p2), .val (.int p3), .val (.ref arr), .val (.int (3 : Int32)), .val (.ref en3), .val (.int r6), .val (.int (0 : Int32)), .val (.int r8), .val (.int r9), .val (.double d100), .second, .val (.double d104), .second, .unset] []))
    refine Go.step (fun t k => XS.aload X_41.here hx rfl (hb hby at_107) rfl rfl k) ?_
    show Go p.tables e below P (T_41.setTop (mkF m 109 #[.val (.int p1), .val (.int p2), .val (.int p3), .val (.ref arr), .val (.int (3 : Int32)), .val (.ref en3), .val (.int r6), .val (.int (0 : Int32)), .val (.int r8), .val (.int r9), .val (.double d100), .second, .val (.double d104), .second, .unset] [(.ref en3)]))
    refine Go.step (fun t k => XS.dload X_41.here hx rfl (hb hby at_109) rfl  k) ?_
    show Go p.tables e below P (T_41.setTop (mkF m 111 #[.val (.int p1), .val (.int p2), .val (.int p3), .val (.ref arr), .val (.int (3 : Int32)), .val (.ref en3), .val (.int r6), .val (.int (0 : Int32)), .val (.int r8), .val (.int r9), .val (.double d100), .second, .val (.double d104), .second, .unset] [(.double d100), (.ref en3)]))
    refine Go.step (fun t k => XS.dload X_41.here hx rfl (hb hby at_111) rfl  k) ?_
    show Go p.tables e below P (T_41.setTop (mkF m 113 #[.val (.int p1), .val (.int p2), .val (.int p3), .val (.ref arr), .val (.int (3 : Int32)), .val (.ref en3), .val (.int r6), .val (.int (0 : Int32)), .val (.int r8), .val (.int r9), .val (.double d100), .second, .val (.double d104), .second, .unset] [(.double d104), (.double d100), (.ref en3)]))
    obtain ⟨cq_42, kq_42, q_42a, q_42b, q_42c⟩ := isOf hZ eh_41 (((((((E_en3.ext E_1).wr W_4).wr W_7).wr W_10).wr W_13).wr W_16).wr W_19)
    obtain ⟨_, _, ⟨T_42, L_42, k_42, n_42⟩, -, X_42, ⟨Lc_42, hQ_42, l_42, y_42, z_42⟩, st_42⟩ := X_41.virtualBack hx (y := (⟨"com/example/geofence/geofence/Comparison", "holds", "(DD)Z"⟩ : MethodName)) (z := (⟨"com/example/geofence/geofence/Comparison", "holds", "(DD)Z"⟩ : MethodName)) hown (mvT hZ (hw _ (List.mem_of_getElem? (i := 24) rfl))) (mvT hZ (hw _ (List.mem_of_getElem? (i := 25) rfl))) (notFace_of_selects (args := #[]) (mvT hZ (hw _ (List.mem_of_getElem? (i := 27) rfl)))) (mvT hZ (hw _ (List.mem_of_getElem? (i := 27) rfl))) (mvT hZ (hw _ (List.mem_of_getElem? (i := 26) rfl))) (by decide) (backOf (W := 0) (holds3 l Z a0 hw [] en3 d100 d104 (p2.toInt) (p3.toInt) h_19 n0 Z_19 (((((((E_en3.ext E_1).wr W_4).wr W_7).wr W_10).wr W_13).wr W_16).wr W_19) (((((((O3.ext E_1).other W_4 (Or.inl ne_en3_arr)).other W_7 (Or.inl ne_en3_arr)).other W_10 (Or.inl ne_en3_arr)).other W_13 (Or.inl ne_en3_arr)).other W_16 (Or.inl ne_en3_arr)).other W_19 (Or.inl ne_en3_arr)) q100 q104) hZ (hw _ (List.mem_of_getElem? (i := 28) rfl)) (hw _ (List.mem_of_getElem? (i := 3) rfl)) (by decide) (by decide)) q_42a q_42c (g := (mkF m 113 #[.val (.int p1), .val (.int p2), .val (.int p3), .val (.ref arr), .val (.int (3 : Int32)), .val (.ref en3), .val (.int r6), .val (.int (0 : Int32)), .val (.int r8), .val (.int r9), .val (.double d100), .second, .val (.double d104), .second, .unset] [(.double d104), (.double d100), (.ref en3)])) rfl (by rw [hml]; rfl) (Steps.refl _) (argsL := [(.double d100), (.double d104)]) (rest := []) (lenOf pd_2 rfl) rfl (by show 2 * 0 + _ ≤ _; exact Nat.le_of_eq rfl) (hb hby at_113) (fun _ _ => ⟨rfl, eh_41, (by decide : 1 + 0 ≤ _), (by decide : 6 + 0 ≤ _)⟩)
    dsimp only [Pt.U, Pt.locs, Pt.cells, Pt.slots] at X_42 l_42 y_42 z_42 st_42 hQ_42
    subst l_42 y_42 z_42
    obtain ⟨ra, rfl, hra, N_42q, eh_42⟩ := hQ_42
    have N_42 := Fr.app N_41 N_42q
    refine Go.tr st_42 ?_
    show Go p.tables e below P (T_42.setTop (mkF m 116 #[.val (.int p1), .val (.int p2), .val (.int p3), .val (.ref arr), .val (.int (3 : Int32)), .val (.ref en3), .val (.int r6), .val (.int (0 : Int32)), .val (.int r8), .val (.int r9), .val (.double d100), .second, .val (.double d104), .second, .unset] [(.int ra)]))
    refine Go.step (fun t k => XS.aload X_42.here hx rfl (hb hby at_116) rfl rfl k) ?_
    show Go p.tables e below P (T_42.setTop (mkF m 118 #[.val (.int p1), .val (.int p2), .val (.int p3), .val (.ref arr), .val (.int (3 : Int32)), .val (.ref en3), .val (.int r6), .val (.int (0 : Int32)), .val (.int r8), .val (.int r9), .val (.double d100), .second, .val (.double d104), .second, .unset] [(.ref en3), (.int ra)]))
    refine Go.step (fun t k => XS.dload X_42.here hx rfl (hb hby at_118) rfl  k) ?_
    show Go p.tables e below P (T_42.setTop (mkF m 120 #[.val (.int p1), .val (.int p2), .val (.int p3), .val (.ref arr), .val (.int (3 : Int32)), .val (.ref en3), .val (.int r6), .val (.int (0 : Int32)), .val (.int r8), .val (.int r9), .val (.double d100), .second, .val (.double d104), .second, .unset] [(.double d104), (.ref en3), (.int ra)]))
    refine Go.step (fun t k => XS.dload X_42.here hx rfl (hb hby at_120) rfl  k) ?_
    show Go p.tables e below P (T_42.setTop (mkF m 122 #[.val (.int p1), .val (.int p2), .val (.int p3), .val (.ref arr), .val (.int (3 : Int32)), .val (.ref en3), .val (.int r6), .val (.int (0 : Int32)), .val (.int r8), .val (.int r9), .val (.double d100), .second, .val (.double d104), .second, .unset] [(.double d100), (.double d104), (.ref en3), (.int ra)]))
    obtain ⟨cq_43, kq_43, q_43a, q_43b, q_43c⟩ := isOf hZ eh_42 (((((((E_en3.ext E_1).wr W_4).wr W_7).wr W_10).wr W_13).wr W_16).wr W_19)
    obtain ⟨_, _, ⟨T_43, L_43, k_43, n_43⟩, -, X_43, ⟨Lc_43, hQ_43, l_43, y_43, z_43⟩, st_43⟩ := X_42.virtualBack hx (y := (⟨"com/example/geofence/geofence/Comparison", "holds", "(DD)Z"⟩ : MethodName)) (z := (⟨"com/example/geofence/geofence/Comparison", "holds", "(DD)Z"⟩ : MethodName)) hown (mvT hZ (hw _ (List.mem_of_getElem? (i := 24) rfl))) (mvT hZ (hw _ (List.mem_of_getElem? (i := 25) rfl))) (notFace_of_selects (args := #[]) (mvT hZ (hw _ (List.mem_of_getElem? (i := 27) rfl)))) (mvT hZ (hw _ (List.mem_of_getElem? (i := 27) rfl))) (mvT hZ (hw _ (List.mem_of_getElem? (i := 26) rfl))) (by decide) (backOf (W := 1) (holds3 l Z a0 hw [] en3 d104 d100 (p3.toInt) (p2.toInt) h_19 n0 Z_19 (((((((E_en3.ext E_1).wr W_4).wr W_7).wr W_10).wr W_13).wr W_16).wr W_19) (((((((O3.ext E_1).other W_4 (Or.inl ne_en3_arr)).other W_7 (Or.inl ne_en3_arr)).other W_10 (Or.inl ne_en3_arr)).other W_13 (Or.inl ne_en3_arr)).other W_16 (Or.inl ne_en3_arr)).other W_19 (Or.inl ne_en3_arr)) q104 q100) hZ (hw _ (List.mem_of_getElem? (i := 28) rfl)) (hw _ (List.mem_of_getElem? (i := 3) rfl)) (by decide) (by decide)) q_43a q_43c (g := (mkF m 122 #[.val (.int p1), .val (.int p2), .val (.int p3), .val (.ref arr), .val (.int (3 : Int32)), .val (.ref en3), .val (.int r6), .val (.int (0 : Int32)), .val (.int r8), .val (.int r9), .val (.double d100), .second, .val (.double d104), .second, .unset] [(.double d100), (.double d104), (.ref en3), (.int ra)])) rfl (by rw [hml]; rfl) (Steps.refl _) (argsL := [(.double d104), (.double d100)]) (rest := [(.int ra)]) (lenOf pd_2 rfl) rfl (by show 2 * 0 + _ ≤ _; exact Nat.le_of_eq rfl) (hb hby at_122) (fun _ _ => ⟨rfl, eh_42, (by decide : 1 + 0 ≤ _), (by decide : 6 + 0 ≤ _)⟩)
    dsimp only [Pt.U, Pt.locs, Pt.cells, Pt.slots] at X_43 l_43 y_43 z_43 st_43 hQ_43
    subst l_43 y_43 z_43
    obtain ⟨rb, rfl, hrb, N_43q, eh_43⟩ := hQ_43
    have N_43 := Fr.app N_42 N_43q
    refine Go.tr st_43 ?_
    show Go p.tables e below P (T_43.setTop (mkF m 125 #[.val (.int p1), .val (.int p2), .val (.int p3), .val (.ref arr), .val (.int (3 : Int32)), .val (.ref en3), .val (.int r6), .val (.int (0 : Int32)), .val (.int r8), .val (.int r9), .val (.double d100), .second, .val (.double d104), .second, .unset] [(.int rb), (.int ra)]))
    by_cases hc125 : ¬ ra.toInt = rb.toInt
    · refine Go.step (fun t k => XS.icmpYes X_43.here hx rfl (pc0 := 125) (pc' := 132) rfl (hb hby at_125) rfl (icY (cd := .ne) hc125) (by decide) (by decide) k) ?_
      show Go p.tables e below P (T_43.setTop (mkF m 132 #[.val (.int p1), .val (.int p2), .val (.int p3), .val (.ref arr), .val (.int (3 : Int32)), .val (.ref en3), .val (.int r6), .val (.int (0 : Int32)), .val (.int r8), .val (.int r9), .val (.double d100), .second, .val (.double d104), .second, .unset] []))
      refine Go.step (fun t k => XS.iconst X_43.here hx rfl (hb hby at_132) k) ?_
      show Go p.tables e below P (T_43.setTop (mkF m 133 #[.val (.int p1), .val (.int p2), .val (.int p3), .val (.ref arr), .val (.int (3 : Int32)), .val (.ref en3), .val (.int r6), .val (.int (0 : Int32)), .val (.int r8), .val (.int r9), .val (.double d100), .second, .val (.double d104), .second, .unset] [(.int (0 : Int32))]))
      refine Go.step (fun t k => XS.istore X_43.here hx rfl (hb hby at_133) rfl (l' := #[.val (.int p1), .val (.int p2), .val (.int p3), .val (.ref arr), .val (.int (3 : Int32)), .val (.ref en3), .val (.int r6), .val (.int (0 : Int32)), .val (.int r8), .val (.int r9), .val (.double d100), .second, .val (.double d104), .second, .val (.int (0 : Int32))]) rfl k) ?_
      show Go p.tables e below P (T_43.setTop (mkF m 135 #[.val (.int p1), .val (.int p2), .val (.int p3), .val (.ref arr), .val (.int (3 : Int32)), .val (.ref en3), .val (.int r6), .val (.int (0 : Int32)), .val (.int r8), .val (.int r9), .val (.double d100), .second, .val (.double d104), .second, .val (.int (0 : Int32))] []))
      refine Go.step (fun t k => XS.iload X_43.here hx rfl (hb hby at_135) rfl  k) ?_
      show Go p.tables e below P (T_43.setTop (mkF m 137 #[.val (.int p1), .val (.int p2), .val (.int p3), .val (.ref arr), .val (.int (3 : Int32)), .val (.ref en3), .val (.int r6), .val (.int (0 : Int32)), .val (.int r8), .val (.int r9), .val (.double d100), .second, .val (.double d104), .second, .val (.int (0 : Int32))] [(.int r6)]))
      refine Go.step (fun t k => XS.iload X_43.here hx rfl (hb hby at_137) rfl  k) ?_
      show Go p.tables e below P (T_43.setTop (mkF m 139 #[.val (.int p1), .val (.int p2), .val (.int p3), .val (.ref arr), .val (.int (3 : Int32)), .val (.ref en3), .val (.int r6), .val (.int (0 : Int32)), .val (.int r8), .val (.int r9), .val (.double d100), .second, .val (.double d104), .second, .val (.int (0 : Int32))] [(.int (0 : Int32)), (.int r6)]))
      refine Go.step (fun t k => XS.icmpNo X_43.here hx rfl (hb hby at_139) rfl (icN (cd := .ne) (by omega : ¬ (¬ r6.toInt = (0 : Int)))) k) ?_
      show Go p.tables e below P (T_43.setTop (mkF m 142 #[.val (.int p1), .val (.int p2), .val (.int p3), .val (.ref arr), .val (.int (3 : Int32)), .val (.ref en3), .val (.int r6), .val (.int (0 : Int32)), .val (.int r8), .val (.int r9), .val (.double d100), .second, .val (.double d104), .second, .val (.int (0 : Int32))] []))
      refine Go.step (fun t k => XS.iload X_43.here hx rfl (hb hby at_142) rfl  k) ?_
      show Go p.tables e below P (T_43.setTop (mkF m 144 #[.val (.int p1), .val (.int p2), .val (.int p3), .val (.ref arr), .val (.int (3 : Int32)), .val (.ref en3), .val (.int r6), .val (.int (0 : Int32)), .val (.int r8), .val (.int r9), .val (.double d100), .second, .val (.double d104), .second, .val (.int (0 : Int32))] [(.int r6)]))
      refine Go.step (fun t k => XS.iload X_43.here hx rfl (hb hby at_144) rfl  k) ?_
      show Go p.tables e below P (T_43.setTop (mkF m 146 #[.val (.int p1), .val (.int p2), .val (.int p3), .val (.ref arr), .val (.int (3 : Int32)), .val (.ref en3), .val (.int r6), .val (.int (0 : Int32)), .val (.int r8), .val (.int r9), .val (.double d100), .second, .val (.double d104), .second, .val (.int (0 : Int32))] [(.int r8), (.int r6)]))
      refine Go.step (fun t k => XS.iload X_43.here hx rfl (hb hby at_146) rfl  k) ?_
      show Go p.tables e below P (T_43.setTop (mkF m 148 #[.val (.int p1), .val (.int p2), .val (.int p3), .val (.ref arr), .val (.int (3 : Int32)), .val (.ref en3), .val (.int r6), .val (.int (0 : Int32)), .val (.int r8), .val (.int r9), .val (.double d100), .second, .val (.double d104), .second, .val (.int (0 : Int32))] [(.int r9), (.int r8), (.int r6)]))
      refine Go.step (fun t k => XS.icmpYes X_43.here hx rfl (pc0 := 148) (pc' := 155) rfl (hb hby at_148) rfl (icY (cd := .ne) (by omega : ¬ r8.toInt = r9.toInt)) (by decide) (by decide) k) ?_
      show Go p.tables e below P (T_43.setTop (mkF m 155 #[.val (.int p1), .val (.int p2), .val (.int p3), .val (.ref arr), .val (.int (3 : Int32)), .val (.ref en3), .val (.int r6), .val (.int (0 : Int32)), .val (.int r8), .val (.int r9), .val (.double d100), .second, .val (.double d104), .second, .val (.int (0 : Int32))] [(.int r6)]))
      refine Go.step (fun t k => XS.iconst X_43.here hx rfl (hb hby at_155) k) ?_
      show Go p.tables e below P (T_43.setTop (mkF m 156 #[.val (.int p1), .val (.int p2), .val (.int p3), .val (.ref arr), .val (.int (3 : Int32)), .val (.ref en3), .val (.int r6), .val (.int (0 : Int32)), .val (.int r8), .val (.int r9), .val (.double d100), .second, .val (.double d104), .second, .val (.int (0 : Int32))] [(.int (0 : Int32)), (.int r6)]))
      refine Go.step (fun t k => XS.icmpNo X_43.here hx rfl (hb hby at_156) rfl (icN (cd := .ne) (by omega : ¬ (¬ r6.toInt = (0 : Int)))) k) ?_
      show Go p.tables e below P (T_43.setTop (mkF m 159 #[.val (.int p1), .val (.int p2), .val (.int p3), .val (.ref arr), .val (.int (3 : Int32)), .val (.ref en3), .val (.int r6), .val (.int (0 : Int32)), .val (.int r8), .val (.int r9), .val (.double d100), .second, .val (.double d104), .second, .val (.int (0 : Int32))] []))
      refine Go.step (fun t k => XS.iload X_43.here hx rfl (hb hby at_159) rfl  k) ?_
      show Go p.tables e below P (T_43.setTop (mkF m 161 #[.val (.int p1), .val (.int p2), .val (.int p3), .val (.ref arr), .val (.int (3 : Int32)), .val (.ref en3), .val (.int r6), .val (.int (0 : Int32)), .val (.int r8), .val (.int r9), .val (.double d100), .second, .val (.double d104), .second, .val (.int (0 : Int32))] [(.int r6)]))
      refine Go.step (fun t k => XS.ifYes X_43.here hx rfl (pc0 := 161) (pc' := 169) rfl (hb hby at_161) rfl (ifY (cd := .eq) (by omega : r6.toInt = 0)) (by decide) (by decide) k) ?_
      show Go p.tables e below P (T_43.setTop (mkF m 169 #[.val (.int p1), .val (.int p2), .val (.int p3), .val (.ref arr), .val (.int (3 : Int32)), .val (.ref en3), .val (.int r6), .val (.int (0 : Int32)), .val (.int r8), .val (.int r9), .val (.double d100), .second, .val (.double d104), .second, .val (.int (0 : Int32))] []))
      refine Go.step (fun t k => XS.iconst X_43.here hx rfl (hb hby at_169) k) ?_
      show Go p.tables e below P (T_43.setTop (mkF m 170 #[.val (.int p1), .val (.int p2), .val (.int p3), .val (.ref arr), .val (.int (3 : Int32)), .val (.ref en3), .val (.int r6), .val (.int (0 : Int32)), .val (.int r8), .val (.int r9), .val (.double d100), .second, .val (.double d104), .second, .val (.int (0 : Int32))] [(.int (1 : Int32))]))
      refine Go.step (fun t k => XS.goto X_43.here hx rfl (pc0 := 170) (pc' := 174) rfl (hb hby at_170) (by decide) (by decide) k) ?_
      show Go p.tables e below P (T_43.setTop (mkF m 174 #[.val (.int p1), .val (.int p2), .val (.int p3), .val (.ref arr), .val (.int (3 : Int32)), .val (.ref en3), .val (.int r6), .val (.int (0 : Int32)), .val (.int r8), .val (.int r9), .val (.double d100), .second, .val (.double d104), .second, .val (.int (0 : Int32))] [(.int (1 : Int32))]))
      exact retGo X_43 hx hP Bd.returns hlk rfl (Or.inl ⟨rfl, Or.inr (Or.inl rfl), _, rfl⟩) (hb hby at_174) (by decide) (by decide) (by rw [eh_43]; exact ⟨rfl, N_43⟩)
    · refine Go.step (fun t k => XS.icmpNo X_43.here hx rfl (hb hby at_125) rfl (icN (cd := .ne) hc125) k) ?_
      show Go p.tables e below P (T_43.setTop (mkF m 128 #[.val (.int p1), .val (.int p2), .val (.int p3), .val (.ref arr), .val (.int (3 : Int32)), .val (.ref en3), .val (.int r6), .val (.int (0 : Int32)), .val (.int r8), .val (.int r9), .val (.double d100), .second, .val (.double d104), .second, .unset] []))
      refine Go.step (fun t k => XS.iconst X_43.here hx rfl (hb hby at_128) k) ?_
      show Go p.tables e below P (T_43.setTop (mkF m 129 #[.val (.int p1), .val (.int p2), .val (.int p3), .val (.ref arr), .val (.int (3 : Int32)), .val (.ref en3), .val (.int r6), .val (.int (0 : Int32)), .val (.int r8), .val (.int r9), .val (.double d100), .second, .val (.double d104), .second, .unset] [(.int (1 : Int32))]))
      refine Go.step (fun t k => XS.goto X_43.here hx rfl (pc0 := 129) (pc' := 133) rfl (hb hby at_129) (by decide) (by decide) k) ?_
      show Go p.tables e below P (T_43.setTop (mkF m 133 #[.val (.int p1), .val (.int p2), .val (.int p3), .val (.ref arr), .val (.int (3 : Int32)), .val (.ref en3), .val (.int r6), .val (.int (0 : Int32)), .val (.int r8), .val (.int r9), .val (.double d100), .second, .val (.double d104), .second, .unset] [(.int (1 : Int32))]))
      refine Go.step (fun t k => XS.istore X_43.here hx rfl (hb hby at_133) rfl (l' := #[.val (.int p1), .val (.int p2), .val (.int p3), .val (.ref arr), .val (.int (3 : Int32)), .val (.ref en3), .val (.int r6), .val (.int (0 : Int32)), .val (.int r8), .val (.int r9), .val (.double d100), .second, .val (.double d104), .second, .val (.int (1 : Int32))]) rfl k) ?_
      show Go p.tables e below P (T_43.setTop (mkF m 135 #[.val (.int p1), .val (.int p2), .val (.int p3), .val (.ref arr), .val (.int (3 : Int32)), .val (.ref en3), .val (.int r6), .val (.int (0 : Int32)), .val (.int r8), .val (.int r9), .val (.double d100), .second, .val (.double d104), .second, .val (.int (1 : Int32))] []))
      refine Go.step (fun t k => XS.iload X_43.here hx rfl (hb hby at_135) rfl  k) ?_
      show Go p.tables e below P (T_43.setTop (mkF m 137 #[.val (.int p1), .val (.int p2), .val (.int p3), .val (.ref arr), .val (.int (3 : Int32)), .val (.ref en3), .val (.int r6), .val (.int (0 : Int32)), .val (.int r8), .val (.int r9), .val (.double d100), .second, .val (.double d104), .second, .val (.int (1 : Int32))] [(.int r6)]))
      refine Go.step (fun t k => XS.iload X_43.here hx rfl (hb hby at_137) rfl  k) ?_
      show Go p.tables e below P (T_43.setTop (mkF m 139 #[.val (.int p1), .val (.int p2), .val (.int p3), .val (.ref arr), .val (.int (3 : Int32)), .val (.ref en3), .val (.int r6), .val (.int (0 : Int32)), .val (.int r8), .val (.int r9), .val (.double d100), .second, .val (.double d104), .second, .val (.int (1 : Int32))] [(.int (0 : Int32)), (.int r6)]))
      refine Go.step (fun t k => XS.icmpNo X_43.here hx rfl (hb hby at_139) rfl (icN (cd := .ne) (by omega : ¬ (¬ r6.toInt = (0 : Int)))) k) ?_
      show Go p.tables e below P (T_43.setTop (mkF m 142 #[.val (.int p1), .val (.int p2), .val (.int p3), .val (.ref arr), .val (.int (3 : Int32)), .val (.ref en3), .val (.int r6), .val (.int (0 : Int32)), .val (.int r8), .val (.int r9), .val (.double d100), .second, .val (.double d104), .second, .val (.int (1 : Int32))] []))
      refine Go.step (fun t k => XS.iload X_43.here hx rfl (hb hby at_142) rfl  k) ?_
      show Go p.tables e below P (T_43.setTop (mkF m 144 #[.val (.int p1), .val (.int p2), .val (.int p3), .val (.ref arr), .val (.int (3 : Int32)), .val (.ref en3), .val (.int r6), .val (.int (0 : Int32)), .val (.int r8), .val (.int r9), .val (.double d100), .second, .val (.double d104), .second, .val (.int (1 : Int32))] [(.int r6)]))
      refine Go.step (fun t k => XS.iload X_43.here hx rfl (hb hby at_144) rfl  k) ?_
      show Go p.tables e below P (T_43.setTop (mkF m 146 #[.val (.int p1), .val (.int p2), .val (.int p3), .val (.ref arr), .val (.int (3 : Int32)), .val (.ref en3), .val (.int r6), .val (.int (0 : Int32)), .val (.int r8), .val (.int r9), .val (.double d100), .second, .val (.double d104), .second, .val (.int (1 : Int32))] [(.int r8), (.int r6)]))
      refine Go.step (fun t k => XS.iload X_43.here hx rfl (hb hby at_146) rfl  k) ?_
      show Go p.tables e below P (T_43.setTop (mkF m 148 #[.val (.int p1), .val (.int p2), .val (.int p3), .val (.ref arr), .val (.int (3 : Int32)), .val (.ref en3), .val (.int r6), .val (.int (0 : Int32)), .val (.int r8), .val (.int r9), .val (.double d100), .second, .val (.double d104), .second, .val (.int (1 : Int32))] [(.int r9), (.int r8), (.int r6)]))
      refine Go.step (fun t k => XS.icmpYes X_43.here hx rfl (pc0 := 148) (pc' := 155) rfl (hb hby at_148) rfl (icY (cd := .ne) (by omega : ¬ r8.toInt = r9.toInt)) (by decide) (by decide) k) ?_
      show Go p.tables e below P (T_43.setTop (mkF m 155 #[.val (.int p1), .val (.int p2), .val (.int p3), .val (.ref arr), .val (.int (3 : Int32)), .val (.ref en3), .val (.int r6), .val (.int (0 : Int32)), .val (.int r8), .val (.int r9), .val (.double d100), .second, .val (.double d104), .second, .val (.int (1 : Int32))] [(.int r6)]))
      refine Go.step (fun t k => XS.iconst X_43.here hx rfl (hb hby at_155) k) ?_
      show Go p.tables e below P (T_43.setTop (mkF m 156 #[.val (.int p1), .val (.int p2), .val (.int p3), .val (.ref arr), .val (.int (3 : Int32)), .val (.ref en3), .val (.int r6), .val (.int (0 : Int32)), .val (.int r8), .val (.int r9), .val (.double d100), .second, .val (.double d104), .second, .val (.int (1 : Int32))] [(.int (0 : Int32)), (.int r6)]))
      refine Go.step (fun t k => XS.icmpNo X_43.here hx rfl (hb hby at_156) rfl (icN (cd := .ne) (by omega : ¬ (¬ r6.toInt = (0 : Int)))) k) ?_
      show Go p.tables e below P (T_43.setTop (mkF m 159 #[.val (.int p1), .val (.int p2), .val (.int p3), .val (.ref arr), .val (.int (3 : Int32)), .val (.ref en3), .val (.int r6), .val (.int (0 : Int32)), .val (.int r8), .val (.int r9), .val (.double d100), .second, .val (.double d104), .second, .val (.int (1 : Int32))] []))
      refine Go.step (fun t k => XS.iload X_43.here hx rfl (hb hby at_159) rfl  k) ?_
      show Go p.tables e below P (T_43.setTop (mkF m 161 #[.val (.int p1), .val (.int p2), .val (.int p3), .val (.ref arr), .val (.int (3 : Int32)), .val (.ref en3), .val (.int r6), .val (.int (0 : Int32)), .val (.int r8), .val (.int r9), .val (.double d100), .second, .val (.double d104), .second, .val (.int (1 : Int32))] [(.int r6)]))
      refine Go.step (fun t k => XS.ifYes X_43.here hx rfl (pc0 := 161) (pc' := 169) rfl (hb hby at_161) rfl (ifY (cd := .eq) (by omega : r6.toInt = 0)) (by decide) (by decide) k) ?_
      show Go p.tables e below P (T_43.setTop (mkF m 169 #[.val (.int p1), .val (.int p2), .val (.int p3), .val (.ref arr), .val (.int (3 : Int32)), .val (.ref en3), .val (.int r6), .val (.int (0 : Int32)), .val (.int r8), .val (.int r9), .val (.double d100), .second, .val (.double d104), .second, .val (.int (1 : Int32))] []))
      refine Go.step (fun t k => XS.iconst X_43.here hx rfl (hb hby at_169) k) ?_
      show Go p.tables e below P (T_43.setTop (mkF m 170 #[.val (.int p1), .val (.int p2), .val (.int p3), .val (.ref arr), .val (.int (3 : Int32)), .val (.ref en3), .val (.int r6), .val (.int (0 : Int32)), .val (.int r8), .val (.int r9), .val (.double d100), .second, .val (.double d104), .second, .val (.int (1 : Int32))] [(.int (1 : Int32))]))
      refine Go.step (fun t k => XS.goto X_43.here hx rfl (pc0 := 170) (pc' := 174) rfl (hb hby at_170) (by decide) (by decide) k) ?_
      show Go p.tables e below P (T_43.setTop (mkF m 174 #[.val (.int p1), .val (.int p2), .val (.int p3), .val (.ref arr), .val (.int (3 : Int32)), .val (.ref en3), .val (.int r6), .val (.int (0 : Int32)), .val (.int r8), .val (.int r9), .val (.double d100), .second, .val (.double d104), .second, .val (.int (1 : Int32))] [(.int (1 : Int32))]))
      exact retGo X_43 hx hP Bd.returns hlk rfl (Or.inl ⟨rfl, Or.inr (Or.inl rfl), _, rfl⟩) (hb hby at_174) (by decide) (by decide) (by rw [eh_43]; exact ⟨rfl, N_43⟩)
  · subst ej48
    show Go p.tables e below P (T_19.setTop (mkF m 54 #[.val (.int p1), .val (.int p2), .val (.int p3), .val (.ref arr), .val (.int (4 : Int32)), .unset, .unset, .unset, .unset, .unset, .unset, .unset, .unset, .unset, .unset] [(.int (4 : Int32)), (.ref arr)]))
    have vq_44 := V_19
    obtain ⟨cl_44, Ar_44, q_44, S_44, Nn_44, H_44, G_44⟩ := vq_44
    have hin_44 : ¬ ((4 : Int32) < 0 ∨ cl_44.slots.size ≤ ((4 : Int32)).toNatClampNeg) := inb_of S_44 ⟨by decide, by decide⟩
    have hat_44 : cl_44.slots[((4 : Int32)).toNatClampNeg]? = some (.ref en4) := Has.at H_44 hin_44 rfl
    refine Go.step (fun t k => X_19.aaload hx (j := (4 : Int32)) (v := (.ref en4)) (by rw [e_19]; exact Ar_44.1) (State.isArrayOf_alike hZ.alike Ar_44.2.1) rfl Ar_44.2.2 hin_44 hat_44 (g := (mkF m 54 #[.val (.int p1), .val (.int p2), .val (.int p3), .val (.ref arr), .val (.int (4 : Int32)), .unset, .unset, .unset, .unset, .unset, .unset, .unset, .unset, .unset, .unset] [(.int (4 : Int32)), (.ref arr)])) rfl rfl (hb hby at_54) t k) ?_
    show Go p.tables e below P (T_19.setTop (mkF m 55 #[.val (.int p1), .val (.int p2), .val (.int p3), .val (.ref arr), .val (.int (4 : Int32)), .unset, .unset, .unset, .unset, .unset, .unset, .unset, .unset, .unset, .unset] [(.ref en4)]))
    refine Go.step (fun t k => XS.astore X_19.here hx rfl (hb hby at_55) rfl rfl (l' := #[.val (.int p1), .val (.int p2), .val (.int p3), .val (.ref arr), .val (.int (4 : Int32)), .val (.ref en4), .unset, .unset, .unset, .unset, .unset, .unset, .unset, .unset, .unset]) rfl k) ?_
    show Go p.tables e below P (T_19.setTop (mkF m 57 #[.val (.int p1), .val (.int p2), .val (.int p3), .val (.ref arr), .val (.int (4 : Int32)), .val (.ref en4), .unset, .unset, .unset, .unset, .unset, .unset, .unset, .unset, .unset] []))
    refine Go.step (fun t k => XS.aload X_19.here hx rfl (hb hby at_57) rfl rfl k) ?_
    show Go p.tables e below P (T_19.setTop (mkF m 59 #[.val (.int p1), .val (.int p2), .val (.int p3), .val (.ref arr), .val (.int (4 : Int32)), .val (.ref en4), .unset, .unset, .unset, .unset, .unset, .unset, .unset, .unset, .unset] [(.ref en4)]))
    obtain ⟨cq_45, kq_45, q_45a, q_45b, q_45c⟩ := isOf hZ e_19 (((((((E_en4.ext E_1).wr W_4).wr W_7).wr W_10).wr W_13).wr W_16).wr W_19)
    obtain ⟨_, _, ⟨T_45, L_45, k_45, n_45⟩, -, X_45, ⟨Lc_45, hQ_45, l_45, y_45, z_45⟩, st_45⟩ := X_19.virtualBack hx (y := (⟨"com/example/geofence/geofence/Comparison", "isEquality", "()Z"⟩ : MethodName)) (z := (⟨"com/example/geofence/geofence/Comparison", "isEquality", "()Z"⟩ : MethodName)) hown (mvT hZ (hw _ (List.mem_of_getElem? (i := 17) rfl))) (mvT hZ (hw _ (List.mem_of_getElem? (i := 18) rfl))) (notFace_of_selects (args := #[]) (mvT hZ (hw _ (List.mem_of_getElem? (i := 20) rfl)))) (mvT hZ (hw _ (List.mem_of_getElem? (i := 20) rfl))) (mvT hZ (hw _ (List.mem_of_getElem? (i := 19) rfl))) (by decide) (backOf (W := 0) (rm2 l Z a0 hw [] en4 en0 en1 h_19 n0 Z_19 (Sta_keep0 S0 K_19) (Sta_keep0 S1 K_19)) hZ (hw _ (List.mem_of_getElem? (i := 21) rfl)) (hw _ (List.mem_of_getElem? (i := 3) rfl)) (by decide) (by decide)) q_45a q_45c (g := (mkF m 59 #[.val (.int p1), .val (.int p2), .val (.int p3), .val (.ref arr), .val (.int (4 : Int32)), .val (.ref en4), .unset, .unset, .unset, .unset, .unset, .unset, .unset, .unset, .unset] [(.ref en4)])) rfl (by rw [hml]; rfl) (Steps.refl _) (argsL := []) (rest := []) (lenOf pd_1 rfl) rfl (by show 2 * 0 + _ ≤ _; exact Nat.le_of_eq rfl) (hb hby at_59) (fun _ _ => ⟨rfl, e_19, (by decide : 1 + 0 ≤ _), (by decide : 6 + 0 ≤ _)⟩)
    dsimp only [Pt.U, Pt.locs, Pt.cells, Pt.slots] at X_45 l_45 y_45 z_45 st_45 hQ_45
    subst l_45 y_45 z_45
    obtain ⟨r6, rfl, hr6, N_45q, eh_45⟩ := hQ_45
    have N_45 := Fr.app N_19 N_45q
    refine Go.tr st_45 ?_
    show Go p.tables e below P (T_45.setTop (mkF m 62 #[.val (.int p1), .val (.int p2), .val (.int p3), .val (.ref arr), .val (.int (4 : Int32)), .val (.ref en4), .unset, .unset, .unset, .unset, .unset, .unset, .unset, .unset, .unset] [(.int r6)]))
    have v6 : r6.toInt = 0 := by rcases hr6 with ⟨h1, h2⟩ | ⟨h1, h2, h3⟩; (rcases h1 with h1 | h1; exact absurd h1 n0_4; exact absurd h1 n1_4); exact h3
    clear hr6
    refine Go.step (fun t k => XS.istore X_45.here hx rfl (hb hby at_62) rfl (l' := #[.val (.int p1), .val (.int p2), .val (.int p3), .val (.ref arr), .val (.int (4 : Int32)), .val (.ref en4), .val (.int r6), .unset, .unset, .unset, .unset, .unset, .unset, .unset, .unset]) rfl k) ?_
    show Go p.tables e below P (T_45.setTop (mkF m 64 #[.val (.int p1), .val (.int p2), .val (.int p3), .val (.ref arr), .val (.int (4 : Int32)), .val (.ref en4), .val (.int r6), .unset, .unset, .unset, .unset, .unset, .unset, .unset, .unset] []))
    refine Go.step (fun t k => XS.iload X_45.here hx rfl (hb hby at_64) rfl  k) ?_
    show Go p.tables e below P (T_45.setTop (mkF m 66 #[.val (.int p1), .val (.int p2), .val (.int p3), .val (.ref arr), .val (.int (4 : Int32)), .val (.ref en4), .val (.int r6), .unset, .unset, .unset, .unset, .unset, .unset, .unset, .unset] [(.int (4 : Int32))]))
    refine Go.step (fun t k => XS.iconst X_45.here hx rfl (hb hby at_66) k) ?_
    show Go p.tables e below P (T_45.setTop (mkF m 67 #[.val (.int p1), .val (.int p2), .val (.int p3), .val (.ref arr), .val (.int (4 : Int32)), .val (.ref en4), .val (.int r6), .unset, .unset, .unset, .unset, .unset, .unset, .unset, .unset] [(.int (2 : Int32)), (.int (4 : Int32))]))
    refine Go.step (fun t k => XS.icmpYes X_45.here hx rfl (pc0 := 67) (pc' := 74) rfl (hb hby at_67) rfl (icY (cd := .ge) (by decide : (2 : Int) ≤ (4 : Int))) (by decide) (by decide) k) ?_
    show Go p.tables e below P (T_45.setTop (mkF m 74 #[.val (.int p1), .val (.int p2), .val (.int p3), .val (.ref arr), .val (.int (4 : Int32)), .val (.ref en4), .val (.int r6), .unset, .unset, .unset, .unset, .unset, .unset, .unset, .unset] []))
    refine Go.step (fun t k => XS.iconst X_45.here hx rfl (hb hby at_74) k) ?_
    show Go p.tables e below P (T_45.setTop (mkF m 75 #[.val (.int p1), .val (.int p2), .val (.int p3), .val (.ref arr), .val (.int (4 : Int32)), .val (.ref en4), .val (.int r6), .unset, .unset, .unset, .unset, .unset, .unset, .unset, .unset] [(.int (0 : Int32))]))
    refine Go.step (fun t k => XS.istore X_45.here hx rfl (hb hby at_75) rfl (l' := #[.val (.int p1), .val (.int p2), .val (.int p3), .val (.ref arr), .val (.int (4 : Int32)), .val (.ref en4), .val (.int r6), .val (.int (0 : Int32)), .unset, .unset, .unset, .unset, .unset, .unset, .unset]) rfl k) ?_
    show Go p.tables e below P (T_45.setTop (mkF m 77 #[.val (.int p1), .val (.int p2), .val (.int p3), .val (.ref arr), .val (.int (4 : Int32)), .val (.ref en4), .val (.int r6), .val (.int (0 : Int32)), .unset, .unset, .unset, .unset, .unset, .unset, .unset] []))
    refine Go.step (fun t k => XS.aload X_45.here hx rfl (hb hby at_77) rfl rfl k) ?_
    show Go p.tables e below P (T_45.setTop (mkF m 79 #[.val (.int p1), .val (.int p2), .val (.int p3), .val (.ref arr), .val (.int (4 : Int32)), .val (.ref en4), .val (.int r6), .val (.int (0 : Int32)), .unset, .unset, .unset, .unset, .unset, .unset, .unset] [(.ref en4)]))
    refine Go.step (fun t k => XS.dconst1 X_45.here hx rfl (hb hby at_79) rfl k) ?_
    show Go p.tables e below P (T_45.setTop (mkF m 80 #[.val (.int p1), .val (.int p2), .val (.int p3), .val (.ref arr), .val (.int (4 : Int32)), .val (.ref en4), .val (.int r6), .val (.int (0 : Int32)), .unset, .unset, .unset, .unset, .unset, .unset, .unset] [(.double FP.dconst1), (.ref en4)]))
    refine Go.step (fun t k => X_45.ldc2DoubleC hx hown (mvT hZ (hw _ (List.mem_of_getElem? (i := 23) rfl))) (g := (mkF m 80 #[.val (.int p1), .val (.int p2), .val (.int p3), .val (.ref arr), .val (.int (4 : Int32)), .val (.ref en4), .val (.int r6), .val (.int (0 : Int32)), .unset, .unset, .unset, .unset, .unset, .unset, .unset] [(.double FP.dconst1), (.ref en4)])) rfl (hb hby at_80) t k) ?_
    show Go p.tables e below P (T_45.setTop (mkF m 83 #[.val (.int p1), .val (.int p2), .val (.int p3), .val (.ref arr), .val (.int (4 : Int32)), .val (.ref en4), .val (.int r6), .val (.int (0 : Int32)), .unset, .unset, .unset, .unset, .unset, .unset, .unset] [(.double (4611686018427387904 : UInt64)), (.double FP.dconst1), (.ref en4)]))
    obtain ⟨cq_46, kq_46, q_46a, q_46b, q_46c⟩ := isOf hZ eh_45 (((((((E_en4.ext E_1).wr W_4).wr W_7).wr W_10).wr W_13).wr W_16).wr W_19)
    obtain ⟨_, _, ⟨T_46, L_46, k_46, n_46⟩, -, X_46, ⟨Lc_46, hQ_46, l_46, y_46, z_46⟩, st_46⟩ := X_45.virtualBack hx (y := (⟨"com/example/geofence/geofence/Comparison", "holds", "(DD)Z"⟩ : MethodName)) (z := (⟨"com/example/geofence/geofence/Comparison", "holds", "(DD)Z"⟩ : MethodName)) hown (mvT hZ (hw _ (List.mem_of_getElem? (i := 24) rfl))) (mvT hZ (hw _ (List.mem_of_getElem? (i := 25) rfl))) (notFace_of_selects (args := #[]) (mvT hZ (hw _ (List.mem_of_getElem? (i := 27) rfl)))) (mvT hZ (hw _ (List.mem_of_getElem? (i := 27) rfl))) (mvT hZ (hw _ (List.mem_of_getElem? (i := 26) rfl))) (by decide) (backOf (W := 0) (holds4 l Z a0 hw [] en4 FP.dconst1 (4611686018427387904 : UInt64) (1) (2) h_19 n0 Z_19 (((((((E_en4.ext E_1).wr W_4).wr W_7).wr W_10).wr W_13).wr W_16).wr W_19) (((((((O4.ext E_1).other W_4 (Or.inl ne_en4_arr)).other W_7 (Or.inl ne_en4_arr)).other W_10 (Or.inl ne_en4_arr)).other W_13 (Or.inl ne_en4_arr)).other W_16 (Or.inl ne_en4_arr)).other W_19 (Or.inl ne_en4_arr)) one_e two_e) hZ (hw _ (List.mem_of_getElem? (i := 28) rfl)) (hw _ (List.mem_of_getElem? (i := 3) rfl)) (by decide) (by decide)) q_46a q_46c (g := (mkF m 83 #[.val (.int p1), .val (.int p2), .val (.int p3), .val (.ref arr), .val (.int (4 : Int32)), .val (.ref en4), .val (.int r6), .val (.int (0 : Int32)), .unset, .unset, .unset, .unset, .unset, .unset, .unset] [(.double (4611686018427387904 : UInt64)), (.double FP.dconst1), (.ref en4)])) rfl (by rw [hml]; rfl) (Steps.refl _) (argsL := [(.double FP.dconst1), (.double (4611686018427387904 : UInt64))]) (rest := []) (lenOf pd_2 rfl) rfl (by show 2 * 0 + _ ≤ _; exact Nat.le_of_eq rfl) (hb hby at_83) (fun _ _ => ⟨rfl, eh_45, (by decide : 1 + 0 ≤ _), (by decide : 6 + 0 ≤ _)⟩)
    dsimp only [Pt.U, Pt.locs, Pt.cells, Pt.slots] at X_46 l_46 y_46 z_46 st_46 hQ_46
    subst l_46 y_46 z_46
    obtain ⟨r8, rfl, hr8, N_46q, eh_46⟩ := hQ_46
    have N_46 := Fr.app N_45 N_46q
    refine Go.tr st_46 ?_
    show Go p.tables e below P (T_46.setTop (mkF m 86 #[.val (.int p1), .val (.int p2), .val (.int p3), .val (.ref arr), .val (.int (4 : Int32)), .val (.ref en4), .val (.int r6), .val (.int (0 : Int32)), .unset, .unset, .unset, .unset, .unset, .unset, .unset] [(.int r8)]))
    refine Go.step (fun t k => XS.istore X_46.here hx rfl (hb hby at_86) rfl (l' := #[.val (.int p1), .val (.int p2), .val (.int p3), .val (.ref arr), .val (.int (4 : Int32)), .val (.ref en4), .val (.int r6), .val (.int (0 : Int32)), .val (.int r8), .unset, .unset, .unset, .unset, .unset, .unset]) rfl k) ?_
    show Go p.tables e below P (T_46.setTop (mkF m 88 #[.val (.int p1), .val (.int p2), .val (.int p3), .val (.ref arr), .val (.int (4 : Int32)), .val (.ref en4), .val (.int r6), .val (.int (0 : Int32)), .val (.int r8), .unset, .unset, .unset, .unset, .unset, .unset] []))
    refine Go.step (fun t k => XS.aload X_46.here hx rfl (hb hby at_88) rfl rfl k) ?_
    show Go p.tables e below P (T_46.setTop (mkF m 90 #[.val (.int p1), .val (.int p2), .val (.int p3), .val (.ref arr), .val (.int (4 : Int32)), .val (.ref en4), .val (.int r6), .val (.int (0 : Int32)), .val (.int r8), .unset, .unset, .unset, .unset, .unset, .unset] [(.ref en4)]))
    refine Go.step (fun t k => X_46.ldc2DoubleC hx hown (mvT hZ (hw _ (List.mem_of_getElem? (i := 23) rfl))) (g := (mkF m 90 #[.val (.int p1), .val (.int p2), .val (.int p3), .val (.ref arr), .val (.int (4 : Int32)), .val (.ref en4), .val (.int r6), .val (.int (0 : Int32)), .val (.int r8), .unset, .unset, .unset, .unset, .unset, .unset] [(.ref en4)])) rfl (hb hby at_90) t k) ?_
    show Go p.tables e below P (T_46.setTop (mkF m 93 #[.val (.int p1), .val (.int p2), .val (.int p3), .val (.ref arr), .val (.int (4 : Int32)), .val (.ref en4), .val (.int r6), .val (.int (0 : Int32)), .val (.int r8), .unset, .unset, .unset, .unset, .unset, .unset] [(.double (4611686018427387904 : UInt64)), (.ref en4)]))
    refine Go.step (fun t k => XS.dconst1 X_46.here hx rfl (hb hby at_93) rfl k) ?_
    show Go p.tables e below P (T_46.setTop (mkF m 94 #[.val (.int p1), .val (.int p2), .val (.int p3), .val (.ref arr), .val (.int (4 : Int32)), .val (.ref en4), .val (.int r6), .val (.int (0 : Int32)), .val (.int r8), .unset, .unset, .unset, .unset, .unset, .unset] [(.double FP.dconst1), (.double (4611686018427387904 : UInt64)), (.ref en4)]))
    obtain ⟨cq_47, kq_47, q_47a, q_47b, q_47c⟩ := isOf hZ eh_46 (((((((E_en4.ext E_1).wr W_4).wr W_7).wr W_10).wr W_13).wr W_16).wr W_19)
    obtain ⟨_, _, ⟨T_47, L_47, k_47, n_47⟩, -, X_47, ⟨Lc_47, hQ_47, l_47, y_47, z_47⟩, st_47⟩ := X_46.virtualBack hx (y := (⟨"com/example/geofence/geofence/Comparison", "holds", "(DD)Z"⟩ : MethodName)) (z := (⟨"com/example/geofence/geofence/Comparison", "holds", "(DD)Z"⟩ : MethodName)) hown (mvT hZ (hw _ (List.mem_of_getElem? (i := 24) rfl))) (mvT hZ (hw _ (List.mem_of_getElem? (i := 25) rfl))) (notFace_of_selects (args := #[]) (mvT hZ (hw _ (List.mem_of_getElem? (i := 27) rfl)))) (mvT hZ (hw _ (List.mem_of_getElem? (i := 27) rfl))) (mvT hZ (hw _ (List.mem_of_getElem? (i := 26) rfl))) (by decide) (backOf (W := 0) (holds4 l Z a0 hw [] en4 (4611686018427387904 : UInt64) FP.dconst1 (2) (1) h_19 n0 Z_19 (((((((E_en4.ext E_1).wr W_4).wr W_7).wr W_10).wr W_13).wr W_16).wr W_19) (((((((O4.ext E_1).other W_4 (Or.inl ne_en4_arr)).other W_7 (Or.inl ne_en4_arr)).other W_10 (Or.inl ne_en4_arr)).other W_13 (Or.inl ne_en4_arr)).other W_16 (Or.inl ne_en4_arr)).other W_19 (Or.inl ne_en4_arr)) two_e one_e) hZ (hw _ (List.mem_of_getElem? (i := 28) rfl)) (hw _ (List.mem_of_getElem? (i := 3) rfl)) (by decide) (by decide)) q_47a q_47c (g := (mkF m 94 #[.val (.int p1), .val (.int p2), .val (.int p3), .val (.ref arr), .val (.int (4 : Int32)), .val (.ref en4), .val (.int r6), .val (.int (0 : Int32)), .val (.int r8), .unset, .unset, .unset, .unset, .unset, .unset] [(.double FP.dconst1), (.double (4611686018427387904 : UInt64)), (.ref en4)])) rfl (by rw [hml]; rfl) (Steps.refl _) (argsL := [(.double (4611686018427387904 : UInt64)), (.double FP.dconst1)]) (rest := []) (lenOf pd_2 rfl) rfl (by show 2 * 0 + _ ≤ _; exact Nat.le_of_eq rfl) (hb hby at_94) (fun _ _ => ⟨rfl, eh_46, (by decide : 1 + 0 ≤ _), (by decide : 6 + 0 ≤ _)⟩)
    dsimp only [Pt.U, Pt.locs, Pt.cells, Pt.slots] at X_47 l_47 y_47 z_47 st_47 hQ_47
    subst l_47 y_47 z_47
    obtain ⟨r9, rfl, hr9, N_47q, eh_47⟩ := hQ_47
    have N_47 := Fr.app N_46 N_47q
    refine Go.tr st_47 ?_
    show Go p.tables e below P (T_47.setTop (mkF m 97 #[.val (.int p1), .val (.int p2), .val (.int p3), .val (.ref arr), .val (.int (4 : Int32)), .val (.ref en4), .val (.int r6), .val (.int (0 : Int32)), .val (.int r8), .unset, .unset, .unset, .unset, .unset, .unset] [(.int r9)]))
    refine Go.step (fun t k => XS.istore X_47.here hx rfl (hb hby at_97) rfl (l' := #[.val (.int p1), .val (.int p2), .val (.int p3), .val (.ref arr), .val (.int (4 : Int32)), .val (.ref en4), .val (.int r6), .val (.int (0 : Int32)), .val (.int r8), .val (.int r9), .unset, .unset, .unset, .unset, .unset]) rfl k) ?_
    show Go p.tables e below P (T_47.setTop (mkF m 99 #[.val (.int p1), .val (.int p2), .val (.int p3), .val (.ref arr), .val (.int (4 : Int32)), .val (.ref en4), .val (.int r6), .val (.int (0 : Int32)), .val (.int r8), .val (.int r9), .unset, .unset, .unset, .unset, .unset] []))
    refine Go.step (fun t k => XS.iloadN X_47.here hx rfl (hb hby at_99) rfl  k) ?_
    show Go p.tables e below P (T_47.setTop (mkF m 100 #[.val (.int p1), .val (.int p2), .val (.int p3), .val (.ref arr), .val (.int (4 : Int32)), .val (.ref en4), .val (.int r6), .val (.int (0 : Int32)), .val (.int r8), .val (.int r9), .unset, .unset, .unset, .unset, .unset] [(.int p2)]))
    obtain ⟨d100, hd100⟩ : ∃ z : UInt64, FP.i2d p2 = z := ⟨_, rfl⟩
    refine Go.step (fun t k => XS.i2dS X_47.here hx rfl (hb hby at_100) rfl hd100 k) ?_
    show Go p.tables e below P (T_47.setTop (mkF m 101 #[.val (.int p1), .val (.int p2), .val (.int p3), .val (.ref arr), .val (.int (4 : Int32)), .val (.ref en4), .val (.int r6), .val (.int (0 : Int32)), .val (.int r8), .val (.int r9), .unset, .unset, .unset, .unset, .unset] [(.double d100)]))
    have q100 := i2d_e p2; rw [hd100] at q100
    refine Go.step (fun t k => XS.dstore X_47.here hx rfl (hb hby at_101) rfl (l' := #[.val (.int p1), .val (.int p2), .val (.int p3), .val (.ref arr), .val (.int (4 : Int32)), .val (.ref en4), .val (.int r6), .val (.int (0 : Int32)), .val (.int r8), .val (.int r9), .val (.double d100), .second, .unset, .unset, .unset]) rfl k) ?_
    show Go p.tables e below P (T_47.setTop (mkF m 103 #[.val (.int p1), .val (.int p2), .val (.int p3), .val (.ref arr), .val (.int (4 : Int32)), .val (.ref en4), .val (.int r6), .val (.int (0 : Int32)), .val (.int r8), .val (.int r9), .val (.double d100), .second, .unset, .unset, .unset] []))
    refine Go.step (fun t k => XS.iloadN X_47.here hx rfl (hb hby at_103) rfl  k) ?_
    show Go p.tables e below P (T_47.setTop (mkF m 104 #[.val (.int p1), .val (.int p2), .val (.int p3), .val (.ref arr), .val (.int (4 : Int32)), .val (.ref en4), .val (.int r6), .val (.int (0 : Int32)), .val (.int r8), .val (.int r9), .val (.double d100), .second, .unset, .unset, .unset] [(.int p3)]))
    obtain ⟨d104, hd104⟩ : ∃ z : UInt64, FP.i2d p3 = z := ⟨_, rfl⟩
    refine Go.step (fun t k => XS.i2dS X_47.here hx rfl (hb hby at_104) rfl hd104 k) ?_
    show Go p.tables e below P (T_47.setTop (mkF m 105 #[.val (.int p1), .val (.int p2), .val (.int p3), .val (.ref arr), .val (.int (4 : Int32)), .val (.ref en4), .val (.int r6), .val (.int (0 : Int32)), .val (.int r8), .val (.int r9), .val (.double d100), .second, .unset, .unset, .unset] [(.double d104)]))
    have q104 := i2d_e p3; rw [hd104] at q104
    refine Go.step (fun t k => XS.dstore X_47.here hx rfl (hb hby at_105) rfl (l' := #[.val (.int p1), .val (.int p2), .val (.int p3), .val (.ref arr), .val (.int (4 : Int32)), .val (.ref en4), .val (.int r6), .val (.int (0 : Int32)), .val (.int r8), .val (.int r9), .val (.double d100), .second, .val (.double d104), .second, .unset]) rfl k) ?_
    show Go p.tables e below P (T_47.setTop (mkF m 107 #[.val (.int p1), .val (.int p2), .val (.int p3), .val (.ref arr), .val (.int (4 : Int32)), .val (.ref en4), .val (.int r6), .val (.int (0 : Int32)), .val (.int r8), .val (.int r9), .val (.double d100), .second, .val (.double d104), .second, .unset] []))
    refine Go.step (fun t k => XS.aload X_47.here hx rfl (hb hby at_107) rfl rfl k) ?_
    show Go p.tables e below P (T_47.setTop (mkF m 109 #[.val (.int p1), .val (.int p2), .val (.int p3), .val (.ref arr), .val (.int (4 : Int32)), .val (.ref en4), .val (.int r6), .val (.int (0 : Int32)), .val (.int r8), .val (.int r9), .val (.double d100), .second, .val (.double d104), .second, .unset] [(.ref en4)]))
    refine Go.step (fun t k => XS.dload X_47.here hx rfl (hb hby at_109) rfl  k) ?_
    show Go p.tables e below P (T_47.setTop (mkF m 111 #[.val (.int p1), .val (.int p2), .val (.int p3), .val (.ref arr), .val (.int (4 : Int32)), .val (.ref en4), .val (.int r6), .val (.int (0 : Int32)), .val (.int r8), .val (.int r9), .val (.double d100), .second, .val (.double d104), .second, .unset] [(.double d100), (.ref en4)]))
    refine Go.step (fun t k => XS.dload X_47.here hx rfl (hb hby at_111) rfl  k) ?_
    show Go p.tables e below P (T_47.setTop (mkF m 113 #[.val (.int p1), .val (.int p2), .val (.int p3), .val (.ref arr), .val (.int (4 : Int32)), .val (.ref en4), .val (.int r6), .val (.int (0 : Int32)), .val (.int r8), .val (.int r9), .val (.double d100), .second, .val (.double d104), .second, .unset] [(.double d104), (.double d100), (.ref en4)]))
    obtain ⟨cq_48, kq_48, q_48a, q_48b, q_48c⟩ := isOf hZ eh_47 (((((((E_en4.ext E_1).wr W_4).wr W_7).wr W_10).wr W_13).wr W_16).wr W_19)
    obtain ⟨_, _, ⟨T_48, L_48, k_48, n_48⟩, -, X_48, ⟨Lc_48, hQ_48, l_48, y_48, z_48⟩, st_48⟩ := X_47.virtualBack hx (y := (⟨"com/example/geofence/geofence/Comparison", "holds", "(DD)Z"⟩ : MethodName)) (z := (⟨"com/example/geofence/geofence/Comparison", "holds", "(DD)Z"⟩ : MethodName)) hown (mvT hZ (hw _ (List.mem_of_getElem? (i := 24) rfl))) (mvT hZ (hw _ (List.mem_of_getElem? (i := 25) rfl))) (notFace_of_selects (args := #[]) (mvT hZ (hw _ (List.mem_of_getElem? (i := 27) rfl)))) (mvT hZ (hw _ (List.mem_of_getElem? (i := 27) rfl))) (mvT hZ (hw _ (List.mem_of_getElem? (i := 26) rfl))) (by decide) (backOf (W := 0) (holds4 l Z a0 hw [] en4 d100 d104 (p2.toInt) (p3.toInt) h_19 n0 Z_19 (((((((E_en4.ext E_1).wr W_4).wr W_7).wr W_10).wr W_13).wr W_16).wr W_19) (((((((O4.ext E_1).other W_4 (Or.inl ne_en4_arr)).other W_7 (Or.inl ne_en4_arr)).other W_10 (Or.inl ne_en4_arr)).other W_13 (Or.inl ne_en4_arr)).other W_16 (Or.inl ne_en4_arr)).other W_19 (Or.inl ne_en4_arr)) q100 q104) hZ (hw _ (List.mem_of_getElem? (i := 28) rfl)) (hw _ (List.mem_of_getElem? (i := 3) rfl)) (by decide) (by decide)) q_48a q_48c (g := (mkF m 113 #[.val (.int p1), .val (.int p2), .val (.int p3), .val (.ref arr), .val (.int (4 : Int32)), .val (.ref en4), .val (.int r6), .val (.int (0 : Int32)), .val (.int r8), .val (.int r9), .val (.double d100), .second, .val (.double d104), .second, .unset] [(.double d104), (.double d100), (.ref en4)])) rfl (by rw [hml]; rfl) (Steps.refl _) (argsL := [(.double d100), (.double d104)]) (rest := []) (lenOf pd_2 rfl) rfl (by show 2 * 0 + _ ≤ _; exact Nat.le_of_eq rfl) (hb hby at_113) (fun _ _ => ⟨rfl, eh_47, (by decide : 1 + 0 ≤ _), (by decide : 6 + 0 ≤ _)⟩)
    dsimp only [Pt.U, Pt.locs, Pt.cells, Pt.slots] at X_48 l_48 y_48 z_48 st_48 hQ_48
    subst l_48 y_48 z_48
    obtain ⟨ra, rfl, hra, N_48q, eh_48⟩ := hQ_48
    have N_48 := Fr.app N_47 N_48q
    refine Go.tr st_48 ?_
    show Go p.tables e below P (T_48.setTop (mkF m 116 #[.val (.int p1), .val (.int p2), .val (.int p3), .val (.ref arr), .val (.int (4 : Int32)), .val (.ref en4), .val (.int r6), .val (.int (0 : Int32)), .val (.int r8), .val (.int r9), .val (.double d100), .second, .val (.double d104), .second, .unset] [(.int ra)]))
    refine Go.step (fun t k => XS.aload X_48.here hx rfl (hb hby at_116) rfl rfl k) ?_
    show Go p.tables e below P (T_48.setTop (mkF m 118 #[.val (.int p1), .val (.int p2), .val (.int p3), .val (.ref arr), .val (.int (4 : Int32)), .val (.ref en4), .val (.int r6), .val (.int (0 : Int32)), .val (.int r8), .val (.int r9), .val (.double d100), .second, .val (.double d104), .second, .unset] [(.ref en4), (.int ra)]))
    refine Go.step (fun t k => XS.dload X_48.here hx rfl (hb hby at_118) rfl  k) ?_
    show Go p.tables e below P (T_48.setTop (mkF m 120 #[.val (.int p1), .val (.int p2), .val (.int p3), .val (.ref arr), .val (.int (4 : Int32)), .val (.ref en4), .val (.int r6), .val (.int (0 : Int32)), .val (.int r8), .val (.int r9), .val (.double d100), .second, .val (.double d104), .second, .unset] [(.double d104), (.ref en4), (.int ra)]))
    refine Go.step (fun t k => XS.dload X_48.here hx rfl (hb hby at_120) rfl  k) ?_
    show Go p.tables e below P (T_48.setTop (mkF m 122 #[.val (.int p1), .val (.int p2), .val (.int p3), .val (.ref arr), .val (.int (4 : Int32)), .val (.ref en4), .val (.int r6), .val (.int (0 : Int32)), .val (.int r8), .val (.int r9), .val (.double d100), .second, .val (.double d104), .second, .unset] [(.double d100), (.double d104), (.ref en4), (.int ra)]))
    obtain ⟨cq_49, kq_49, q_49a, q_49b, q_49c⟩ := isOf hZ eh_48 (((((((E_en4.ext E_1).wr W_4).wr W_7).wr W_10).wr W_13).wr W_16).wr W_19)
    obtain ⟨_, _, ⟨T_49, L_49, k_49, n_49⟩, -, X_49, ⟨Lc_49, hQ_49, l_49, y_49, z_49⟩, st_49⟩ := X_48.virtualBack hx (y := (⟨"com/example/geofence/geofence/Comparison", "holds", "(DD)Z"⟩ : MethodName)) (z := (⟨"com/example/geofence/geofence/Comparison", "holds", "(DD)Z"⟩ : MethodName)) hown (mvT hZ (hw _ (List.mem_of_getElem? (i := 24) rfl))) (mvT hZ (hw _ (List.mem_of_getElem? (i := 25) rfl))) (notFace_of_selects (args := #[]) (mvT hZ (hw _ (List.mem_of_getElem? (i := 27) rfl)))) (mvT hZ (hw _ (List.mem_of_getElem? (i := 27) rfl))) (mvT hZ (hw _ (List.mem_of_getElem? (i := 26) rfl))) (by decide) (backOf (W := 1) (holds4 l Z a0 hw [] en4 d104 d100 (p3.toInt) (p2.toInt) h_19 n0 Z_19 (((((((E_en4.ext E_1).wr W_4).wr W_7).wr W_10).wr W_13).wr W_16).wr W_19) (((((((O4.ext E_1).other W_4 (Or.inl ne_en4_arr)).other W_7 (Or.inl ne_en4_arr)).other W_10 (Or.inl ne_en4_arr)).other W_13 (Or.inl ne_en4_arr)).other W_16 (Or.inl ne_en4_arr)).other W_19 (Or.inl ne_en4_arr)) q104 q100) hZ (hw _ (List.mem_of_getElem? (i := 28) rfl)) (hw _ (List.mem_of_getElem? (i := 3) rfl)) (by decide) (by decide)) q_49a q_49c (g := (mkF m 122 #[.val (.int p1), .val (.int p2), .val (.int p3), .val (.ref arr), .val (.int (4 : Int32)), .val (.ref en4), .val (.int r6), .val (.int (0 : Int32)), .val (.int r8), .val (.int r9), .val (.double d100), .second, .val (.double d104), .second, .unset] [(.double d100), (.double d104), (.ref en4), (.int ra)])) rfl (by rw [hml]; rfl) (Steps.refl _) (argsL := [(.double d104), (.double d100)]) (rest := [(.int ra)]) (lenOf pd_2 rfl) rfl (by show 2 * 0 + _ ≤ _; exact Nat.le_of_eq rfl) (hb hby at_122) (fun _ _ => ⟨rfl, eh_48, (by decide : 1 + 0 ≤ _), (by decide : 6 + 0 ≤ _)⟩)
    dsimp only [Pt.U, Pt.locs, Pt.cells, Pt.slots] at X_49 l_49 y_49 z_49 st_49 hQ_49
    subst l_49 y_49 z_49
    obtain ⟨rb, rfl, hrb, N_49q, eh_49⟩ := hQ_49
    have N_49 := Fr.app N_48 N_49q
    refine Go.tr st_49 ?_
    show Go p.tables e below P (T_49.setTop (mkF m 125 #[.val (.int p1), .val (.int p2), .val (.int p3), .val (.ref arr), .val (.int (4 : Int32)), .val (.ref en4), .val (.int r6), .val (.int (0 : Int32)), .val (.int r8), .val (.int r9), .val (.double d100), .second, .val (.double d104), .second, .unset] [(.int rb), (.int ra)]))
    by_cases hc125 : ¬ ra.toInt = rb.toInt
    · refine Go.step (fun t k => XS.icmpYes X_49.here hx rfl (pc0 := 125) (pc' := 132) rfl (hb hby at_125) rfl (icY (cd := .ne) hc125) (by decide) (by decide) k) ?_
      show Go p.tables e below P (T_49.setTop (mkF m 132 #[.val (.int p1), .val (.int p2), .val (.int p3), .val (.ref arr), .val (.int (4 : Int32)), .val (.ref en4), .val (.int r6), .val (.int (0 : Int32)), .val (.int r8), .val (.int r9), .val (.double d100), .second, .val (.double d104), .second, .unset] []))
      refine Go.step (fun t k => XS.iconst X_49.here hx rfl (hb hby at_132) k) ?_
      show Go p.tables e below P (T_49.setTop (mkF m 133 #[.val (.int p1), .val (.int p2), .val (.int p3), .val (.ref arr), .val (.int (4 : Int32)), .val (.ref en4), .val (.int r6), .val (.int (0 : Int32)), .val (.int r8), .val (.int r9), .val (.double d100), .second, .val (.double d104), .second, .unset] [(.int (0 : Int32))]))
      refine Go.step (fun t k => XS.istore X_49.here hx rfl (hb hby at_133) rfl (l' := #[.val (.int p1), .val (.int p2), .val (.int p3), .val (.ref arr), .val (.int (4 : Int32)), .val (.ref en4), .val (.int r6), .val (.int (0 : Int32)), .val (.int r8), .val (.int r9), .val (.double d100), .second, .val (.double d104), .second, .val (.int (0 : Int32))]) rfl k) ?_
      show Go p.tables e below P (T_49.setTop (mkF m 135 #[.val (.int p1), .val (.int p2), .val (.int p3), .val (.ref arr), .val (.int (4 : Int32)), .val (.ref en4), .val (.int r6), .val (.int (0 : Int32)), .val (.int r8), .val (.int r9), .val (.double d100), .second, .val (.double d104), .second, .val (.int (0 : Int32))] []))
      refine Go.step (fun t k => XS.iload X_49.here hx rfl (hb hby at_135) rfl  k) ?_
      show Go p.tables e below P (T_49.setTop (mkF m 137 #[.val (.int p1), .val (.int p2), .val (.int p3), .val (.ref arr), .val (.int (4 : Int32)), .val (.ref en4), .val (.int r6), .val (.int (0 : Int32)), .val (.int r8), .val (.int r9), .val (.double d100), .second, .val (.double d104), .second, .val (.int (0 : Int32))] [(.int r6)]))
      refine Go.step (fun t k => XS.iload X_49.here hx rfl (hb hby at_137) rfl  k) ?_
      show Go p.tables e below P (T_49.setTop (mkF m 139 #[.val (.int p1), .val (.int p2), .val (.int p3), .val (.ref arr), .val (.int (4 : Int32)), .val (.ref en4), .val (.int r6), .val (.int (0 : Int32)), .val (.int r8), .val (.int r9), .val (.double d100), .second, .val (.double d104), .second, .val (.int (0 : Int32))] [(.int (0 : Int32)), (.int r6)]))
      refine Go.step (fun t k => XS.icmpNo X_49.here hx rfl (hb hby at_139) rfl (icN (cd := .ne) (by omega : ¬ (¬ r6.toInt = (0 : Int)))) k) ?_
      show Go p.tables e below P (T_49.setTop (mkF m 142 #[.val (.int p1), .val (.int p2), .val (.int p3), .val (.ref arr), .val (.int (4 : Int32)), .val (.ref en4), .val (.int r6), .val (.int (0 : Int32)), .val (.int r8), .val (.int r9), .val (.double d100), .second, .val (.double d104), .second, .val (.int (0 : Int32))] []))
      refine Go.step (fun t k => XS.iload X_49.here hx rfl (hb hby at_142) rfl  k) ?_
      show Go p.tables e below P (T_49.setTop (mkF m 144 #[.val (.int p1), .val (.int p2), .val (.int p3), .val (.ref arr), .val (.int (4 : Int32)), .val (.ref en4), .val (.int r6), .val (.int (0 : Int32)), .val (.int r8), .val (.int r9), .val (.double d100), .second, .val (.double d104), .second, .val (.int (0 : Int32))] [(.int r6)]))
      refine Go.step (fun t k => XS.iload X_49.here hx rfl (hb hby at_144) rfl  k) ?_
      show Go p.tables e below P (T_49.setTop (mkF m 146 #[.val (.int p1), .val (.int p2), .val (.int p3), .val (.ref arr), .val (.int (4 : Int32)), .val (.ref en4), .val (.int r6), .val (.int (0 : Int32)), .val (.int r8), .val (.int r9), .val (.double d100), .second, .val (.double d104), .second, .val (.int (0 : Int32))] [(.int r8), (.int r6)]))
      refine Go.step (fun t k => XS.iload X_49.here hx rfl (hb hby at_146) rfl  k) ?_
      show Go p.tables e below P (T_49.setTop (mkF m 148 #[.val (.int p1), .val (.int p2), .val (.int p3), .val (.ref arr), .val (.int (4 : Int32)), .val (.ref en4), .val (.int r6), .val (.int (0 : Int32)), .val (.int r8), .val (.int r9), .val (.double d100), .second, .val (.double d104), .second, .val (.int (0 : Int32))] [(.int r9), (.int r8), (.int r6)]))
      refine Go.step (fun t k => XS.icmpYes X_49.here hx rfl (pc0 := 148) (pc' := 155) rfl (hb hby at_148) rfl (icY (cd := .ne) (by omega : ¬ r8.toInt = r9.toInt)) (by decide) (by decide) k) ?_
      show Go p.tables e below P (T_49.setTop (mkF m 155 #[.val (.int p1), .val (.int p2), .val (.int p3), .val (.ref arr), .val (.int (4 : Int32)), .val (.ref en4), .val (.int r6), .val (.int (0 : Int32)), .val (.int r8), .val (.int r9), .val (.double d100), .second, .val (.double d104), .second, .val (.int (0 : Int32))] [(.int r6)]))
      refine Go.step (fun t k => XS.iconst X_49.here hx rfl (hb hby at_155) k) ?_
      show Go p.tables e below P (T_49.setTop (mkF m 156 #[.val (.int p1), .val (.int p2), .val (.int p3), .val (.ref arr), .val (.int (4 : Int32)), .val (.ref en4), .val (.int r6), .val (.int (0 : Int32)), .val (.int r8), .val (.int r9), .val (.double d100), .second, .val (.double d104), .second, .val (.int (0 : Int32))] [(.int (0 : Int32)), (.int r6)]))
      refine Go.step (fun t k => XS.icmpNo X_49.here hx rfl (hb hby at_156) rfl (icN (cd := .ne) (by omega : ¬ (¬ r6.toInt = (0 : Int)))) k) ?_
      show Go p.tables e below P (T_49.setTop (mkF m 159 #[.val (.int p1), .val (.int p2), .val (.int p3), .val (.ref arr), .val (.int (4 : Int32)), .val (.ref en4), .val (.int r6), .val (.int (0 : Int32)), .val (.int r8), .val (.int r9), .val (.double d100), .second, .val (.double d104), .second, .val (.int (0 : Int32))] []))
      refine Go.step (fun t k => XS.iload X_49.here hx rfl (hb hby at_159) rfl  k) ?_
      show Go p.tables e below P (T_49.setTop (mkF m 161 #[.val (.int p1), .val (.int p2), .val (.int p3), .val (.ref arr), .val (.int (4 : Int32)), .val (.ref en4), .val (.int r6), .val (.int (0 : Int32)), .val (.int r8), .val (.int r9), .val (.double d100), .second, .val (.double d104), .second, .val (.int (0 : Int32))] [(.int r6)]))
      refine Go.step (fun t k => XS.ifYes X_49.here hx rfl (pc0 := 161) (pc' := 169) rfl (hb hby at_161) rfl (ifY (cd := .eq) (by omega : r6.toInt = 0)) (by decide) (by decide) k) ?_
      show Go p.tables e below P (T_49.setTop (mkF m 169 #[.val (.int p1), .val (.int p2), .val (.int p3), .val (.ref arr), .val (.int (4 : Int32)), .val (.ref en4), .val (.int r6), .val (.int (0 : Int32)), .val (.int r8), .val (.int r9), .val (.double d100), .second, .val (.double d104), .second, .val (.int (0 : Int32))] []))
      refine Go.step (fun t k => XS.iconst X_49.here hx rfl (hb hby at_169) k) ?_
      show Go p.tables e below P (T_49.setTop (mkF m 170 #[.val (.int p1), .val (.int p2), .val (.int p3), .val (.ref arr), .val (.int (4 : Int32)), .val (.ref en4), .val (.int r6), .val (.int (0 : Int32)), .val (.int r8), .val (.int r9), .val (.double d100), .second, .val (.double d104), .second, .val (.int (0 : Int32))] [(.int (1 : Int32))]))
      refine Go.step (fun t k => XS.goto X_49.here hx rfl (pc0 := 170) (pc' := 174) rfl (hb hby at_170) (by decide) (by decide) k) ?_
      show Go p.tables e below P (T_49.setTop (mkF m 174 #[.val (.int p1), .val (.int p2), .val (.int p3), .val (.ref arr), .val (.int (4 : Int32)), .val (.ref en4), .val (.int r6), .val (.int (0 : Int32)), .val (.int r8), .val (.int r9), .val (.double d100), .second, .val (.double d104), .second, .val (.int (0 : Int32))] [(.int (1 : Int32))]))
      exact retGo X_49 hx hP Bd.returns hlk rfl (Or.inl ⟨rfl, Or.inr (Or.inl rfl), _, rfl⟩) (hb hby at_174) (by decide) (by decide) (by rw [eh_49]; exact ⟨rfl, N_49⟩)
    · refine Go.step (fun t k => XS.icmpNo X_49.here hx rfl (hb hby at_125) rfl (icN (cd := .ne) hc125) k) ?_
      show Go p.tables e below P (T_49.setTop (mkF m 128 #[.val (.int p1), .val (.int p2), .val (.int p3), .val (.ref arr), .val (.int (4 : Int32)), .val (.ref en4), .val (.int r6), .val (.int (0 : Int32)), .val (.int r8), .val (.int r9), .val (.double d100), .second, .val (.double d104), .second, .unset] []))
      refine Go.step (fun t k => XS.iconst X_49.here hx rfl (hb hby at_128) k) ?_
      show Go p.tables e below P (T_49.setTop (mkF m 129 #[.val (.int p1), .val (.int p2), .val (.int p3), .val (.ref arr), .val (.int (4 : Int32)), .val (.ref en4), .val (.int r6), .val (.int (0 : Int32)), .val (.int r8), .val (.int r9), .val (.double d100), .second, .val (.double d104), .second, .unset] [(.int (1 : Int32))]))
      refine Go.step (fun t k => XS.goto X_49.here hx rfl (pc0 := 129) (pc' := 133) rfl (hb hby at_129) (by decide) (by decide) k) ?_
      show Go p.tables e below P (T_49.setTop (mkF m 133 #[.val (.int p1), .val (.int p2), .val (.int p3), .val (.ref arr), .val (.int (4 : Int32)), .val (.ref en4), .val (.int r6), .val (.int (0 : Int32)), .val (.int r8), .val (.int r9), .val (.double d100), .second, .val (.double d104), .second, .unset] [(.int (1 : Int32))]))
      refine Go.step (fun t k => XS.istore X_49.here hx rfl (hb hby at_133) rfl (l' := #[.val (.int p1), .val (.int p2), .val (.int p3), .val (.ref arr), .val (.int (4 : Int32)), .val (.ref en4), .val (.int r6), .val (.int (0 : Int32)), .val (.int r8), .val (.int r9), .val (.double d100), .second, .val (.double d104), .second, .val (.int (1 : Int32))]) rfl k) ?_
      show Go p.tables e below P (T_49.setTop (mkF m 135 #[.val (.int p1), .val (.int p2), .val (.int p3), .val (.ref arr), .val (.int (4 : Int32)), .val (.ref en4), .val (.int r6), .val (.int (0 : Int32)), .val (.int r8), .val (.int r9), .val (.double d100), .second, .val (.double d104), .second, .val (.int (1 : Int32))] []))
      refine Go.step (fun t k => XS.iload X_49.here hx rfl (hb hby at_135) rfl  k) ?_
      show Go p.tables e below P (T_49.setTop (mkF m 137 #[.val (.int p1), .val (.int p2), .val (.int p3), .val (.ref arr), .val (.int (4 : Int32)), .val (.ref en4), .val (.int r6), .val (.int (0 : Int32)), .val (.int r8), .val (.int r9), .val (.double d100), .second, .val (.double d104), .second, .val (.int (1 : Int32))] [(.int r6)]))
      refine Go.step (fun t k => XS.iload X_49.here hx rfl (hb hby at_137) rfl  k) ?_
      show Go p.tables e below P (T_49.setTop (mkF m 139 #[.val (.int p1), .val (.int p2), .val (.int p3), .val (.ref arr), .val (.int (4 : Int32)), .val (.ref en4), .val (.int r6), .val (.int (0 : Int32)), .val (.int r8), .val (.int r9), .val (.double d100), .second, .val (.double d104), .second, .val (.int (1 : Int32))] [(.int (0 : Int32)), (.int r6)]))
      refine Go.step (fun t k => XS.icmpNo X_49.here hx rfl (hb hby at_139) rfl (icN (cd := .ne) (by omega : ¬ (¬ r6.toInt = (0 : Int)))) k) ?_
      show Go p.tables e below P (T_49.setTop (mkF m 142 #[.val (.int p1), .val (.int p2), .val (.int p3), .val (.ref arr), .val (.int (4 : Int32)), .val (.ref en4), .val (.int r6), .val (.int (0 : Int32)), .val (.int r8), .val (.int r9), .val (.double d100), .second, .val (.double d104), .second, .val (.int (1 : Int32))] []))
      refine Go.step (fun t k => XS.iload X_49.here hx rfl (hb hby at_142) rfl  k) ?_
      show Go p.tables e below P (T_49.setTop (mkF m 144 #[.val (.int p1), .val (.int p2), .val (.int p3), .val (.ref arr), .val (.int (4 : Int32)), .val (.ref en4), .val (.int r6), .val (.int (0 : Int32)), .val (.int r8), .val (.int r9), .val (.double d100), .second, .val (.double d104), .second, .val (.int (1 : Int32))] [(.int r6)]))
      refine Go.step (fun t k => XS.iload X_49.here hx rfl (hb hby at_144) rfl  k) ?_
      show Go p.tables e below P (T_49.setTop (mkF m 146 #[.val (.int p1), .val (.int p2), .val (.int p3), .val (.ref arr), .val (.int (4 : Int32)), .val (.ref en4), .val (.int r6), .val (.int (0 : Int32)), .val (.int r8), .val (.int r9), .val (.double d100), .second, .val (.double d104), .second, .val (.int (1 : Int32))] [(.int r8), (.int r6)]))
      refine Go.step (fun t k => XS.iload X_49.here hx rfl (hb hby at_146) rfl  k) ?_
      show Go p.tables e below P (T_49.setTop (mkF m 148 #[.val (.int p1), .val (.int p2), .val (.int p3), .val (.ref arr), .val (.int (4 : Int32)), .val (.ref en4), .val (.int r6), .val (.int (0 : Int32)), .val (.int r8), .val (.int r9), .val (.double d100), .second, .val (.double d104), .second, .val (.int (1 : Int32))] [(.int r9), (.int r8), (.int r6)]))
      refine Go.step (fun t k => XS.icmpYes X_49.here hx rfl (pc0 := 148) (pc' := 155) rfl (hb hby at_148) rfl (icY (cd := .ne) (by omega : ¬ r8.toInt = r9.toInt)) (by decide) (by decide) k) ?_
      show Go p.tables e below P (T_49.setTop (mkF m 155 #[.val (.int p1), .val (.int p2), .val (.int p3), .val (.ref arr), .val (.int (4 : Int32)), .val (.ref en4), .val (.int r6), .val (.int (0 : Int32)), .val (.int r8), .val (.int r9), .val (.double d100), .second, .val (.double d104), .second, .val (.int (1 : Int32))] [(.int r6)]))
      refine Go.step (fun t k => XS.iconst X_49.here hx rfl (hb hby at_155) k) ?_
      show Go p.tables e below P (T_49.setTop (mkF m 156 #[.val (.int p1), .val (.int p2), .val (.int p3), .val (.ref arr), .val (.int (4 : Int32)), .val (.ref en4), .val (.int r6), .val (.int (0 : Int32)), .val (.int r8), .val (.int r9), .val (.double d100), .second, .val (.double d104), .second, .val (.int (1 : Int32))] [(.int (0 : Int32)), (.int r6)]))
      refine Go.step (fun t k => XS.icmpNo X_49.here hx rfl (hb hby at_156) rfl (icN (cd := .ne) (by omega : ¬ (¬ r6.toInt = (0 : Int)))) k) ?_
      show Go p.tables e below P (T_49.setTop (mkF m 159 #[.val (.int p1), .val (.int p2), .val (.int p3), .val (.ref arr), .val (.int (4 : Int32)), .val (.ref en4), .val (.int r6), .val (.int (0 : Int32)), .val (.int r8), .val (.int r9), .val (.double d100), .second, .val (.double d104), .second, .val (.int (1 : Int32))] []))
      refine Go.step (fun t k => XS.iload X_49.here hx rfl (hb hby at_159) rfl  k) ?_
      show Go p.tables e below P (T_49.setTop (mkF m 161 #[.val (.int p1), .val (.int p2), .val (.int p3), .val (.ref arr), .val (.int (4 : Int32)), .val (.ref en4), .val (.int r6), .val (.int (0 : Int32)), .val (.int r8), .val (.int r9), .val (.double d100), .second, .val (.double d104), .second, .val (.int (1 : Int32))] [(.int r6)]))
      refine Go.step (fun t k => XS.ifYes X_49.here hx rfl (pc0 := 161) (pc' := 169) rfl (hb hby at_161) rfl (ifY (cd := .eq) (by omega : r6.toInt = 0)) (by decide) (by decide) k) ?_
      show Go p.tables e below P (T_49.setTop (mkF m 169 #[.val (.int p1), .val (.int p2), .val (.int p3), .val (.ref arr), .val (.int (4 : Int32)), .val (.ref en4), .val (.int r6), .val (.int (0 : Int32)), .val (.int r8), .val (.int r9), .val (.double d100), .second, .val (.double d104), .second, .val (.int (1 : Int32))] []))
      refine Go.step (fun t k => XS.iconst X_49.here hx rfl (hb hby at_169) k) ?_
      show Go p.tables e below P (T_49.setTop (mkF m 170 #[.val (.int p1), .val (.int p2), .val (.int p3), .val (.ref arr), .val (.int (4 : Int32)), .val (.ref en4), .val (.int r6), .val (.int (0 : Int32)), .val (.int r8), .val (.int r9), .val (.double d100), .second, .val (.double d104), .second, .val (.int (1 : Int32))] [(.int (1 : Int32))]))
      refine Go.step (fun t k => XS.goto X_49.here hx rfl (pc0 := 170) (pc' := 174) rfl (hb hby at_170) (by decide) (by decide) k) ?_
      show Go p.tables e below P (T_49.setTop (mkF m 174 #[.val (.int p1), .val (.int p2), .val (.int p3), .val (.ref arr), .val (.int (4 : Int32)), .val (.ref en4), .val (.int r6), .val (.int (0 : Int32)), .val (.int r8), .val (.int r9), .val (.double d100), .second, .val (.double d104), .second, .val (.int (1 : Int32))] [(.int (1 : Int32))]))
      exact retGo X_49 hx hP Bd.returns hlk rfl (Or.inl ⟨rfl, Or.inr (Or.inl rfl), _, rfl⟩) (hb hby at_174) (by decide) (by decide) (by rw [eh_49]; exact ⟨rfl, N_49⟩)
  · subst ej48
    show Go p.tables e below P (T_19.setTop (mkF m 54 #[.val (.int p1), .val (.int p2), .val (.int p3), .val (.ref arr), .val (.int (5 : Int32)), .unset, .unset, .unset, .unset, .unset, .unset, .unset, .unset, .unset, .unset] [(.int (5 : Int32)), (.ref arr)]))
    have vq_50 := V_19
    obtain ⟨cl_50, Ar_50, q_50, S_50, Nn_50, H_50, G_50⟩ := vq_50
    have hin_50 : ¬ ((5 : Int32) < 0 ∨ cl_50.slots.size ≤ ((5 : Int32)).toNatClampNeg) := inb_of S_50 ⟨by decide, by decide⟩
    have hat_50 : cl_50.slots[((5 : Int32)).toNatClampNeg]? = some (.ref en5) := Has.at H_50 hin_50 rfl
    refine Go.step (fun t k => X_19.aaload hx (j := (5 : Int32)) (v := (.ref en5)) (by rw [e_19]; exact Ar_50.1) (State.isArrayOf_alike hZ.alike Ar_50.2.1) rfl Ar_50.2.2 hin_50 hat_50 (g := (mkF m 54 #[.val (.int p1), .val (.int p2), .val (.int p3), .val (.ref arr), .val (.int (5 : Int32)), .unset, .unset, .unset, .unset, .unset, .unset, .unset, .unset, .unset, .unset] [(.int (5 : Int32)), (.ref arr)])) rfl rfl (hb hby at_54) t k) ?_
    show Go p.tables e below P (T_19.setTop (mkF m 55 #[.val (.int p1), .val (.int p2), .val (.int p3), .val (.ref arr), .val (.int (5 : Int32)), .unset, .unset, .unset, .unset, .unset, .unset, .unset, .unset, .unset, .unset] [(.ref en5)]))
    refine Go.step (fun t k => XS.astore X_19.here hx rfl (hb hby at_55) rfl rfl (l' := #[.val (.int p1), .val (.int p2), .val (.int p3), .val (.ref arr), .val (.int (5 : Int32)), .val (.ref en5), .unset, .unset, .unset, .unset, .unset, .unset, .unset, .unset, .unset]) rfl k) ?_
    show Go p.tables e below P (T_19.setTop (mkF m 57 #[.val (.int p1), .val (.int p2), .val (.int p3), .val (.ref arr), .val (.int (5 : Int32)), .val (.ref en5), .unset, .unset, .unset, .unset, .unset, .unset, .unset, .unset, .unset] []))
    refine Go.step (fun t k => XS.aload X_19.here hx rfl (hb hby at_57) rfl rfl k) ?_
    show Go p.tables e below P (T_19.setTop (mkF m 59 #[.val (.int p1), .val (.int p2), .val (.int p3), .val (.ref arr), .val (.int (5 : Int32)), .val (.ref en5), .unset, .unset, .unset, .unset, .unset, .unset, .unset, .unset, .unset] [(.ref en5)]))
    obtain ⟨cq_51, kq_51, q_51a, q_51b, q_51c⟩ := isOf hZ e_19 (((((((E_en5.ext E_1).wr W_4).wr W_7).wr W_10).wr W_13).wr W_16).wr W_19)
    obtain ⟨_, _, ⟨T_51, L_51, k_51, n_51⟩, -, X_51, ⟨Lc_51, hQ_51, l_51, y_51, z_51⟩, st_51⟩ := X_19.virtualBack hx (y := (⟨"com/example/geofence/geofence/Comparison", "isEquality", "()Z"⟩ : MethodName)) (z := (⟨"com/example/geofence/geofence/Comparison", "isEquality", "()Z"⟩ : MethodName)) hown (mvT hZ (hw _ (List.mem_of_getElem? (i := 17) rfl))) (mvT hZ (hw _ (List.mem_of_getElem? (i := 18) rfl))) (notFace_of_selects (args := #[]) (mvT hZ (hw _ (List.mem_of_getElem? (i := 20) rfl)))) (mvT hZ (hw _ (List.mem_of_getElem? (i := 20) rfl))) (mvT hZ (hw _ (List.mem_of_getElem? (i := 19) rfl))) (by decide) (backOf (W := 0) (rm2 l Z a0 hw [] en5 en0 en1 h_19 n0 Z_19 (Sta_keep0 S0 K_19) (Sta_keep0 S1 K_19)) hZ (hw _ (List.mem_of_getElem? (i := 21) rfl)) (hw _ (List.mem_of_getElem? (i := 3) rfl)) (by decide) (by decide)) q_51a q_51c (g := (mkF m 59 #[.val (.int p1), .val (.int p2), .val (.int p3), .val (.ref arr), .val (.int (5 : Int32)), .val (.ref en5), .unset, .unset, .unset, .unset, .unset, .unset, .unset, .unset, .unset] [(.ref en5)])) rfl (by rw [hml]; rfl) (Steps.refl _) (argsL := []) (rest := []) (lenOf pd_1 rfl) rfl (by show 2 * 0 + _ ≤ _; exact Nat.le_of_eq rfl) (hb hby at_59) (fun _ _ => ⟨rfl, e_19, (by decide : 1 + 0 ≤ _), (by decide : 6 + 0 ≤ _)⟩)
    dsimp only [Pt.U, Pt.locs, Pt.cells, Pt.slots] at X_51 l_51 y_51 z_51 st_51 hQ_51
    subst l_51 y_51 z_51
    obtain ⟨r6, rfl, hr6, N_51q, eh_51⟩ := hQ_51
    have N_51 := Fr.app N_19 N_51q
    refine Go.tr st_51 ?_
    show Go p.tables e below P (T_51.setTop (mkF m 62 #[.val (.int p1), .val (.int p2), .val (.int p3), .val (.ref arr), .val (.int (5 : Int32)), .val (.ref en5), .unset, .unset, .unset, .unset, .unset, .unset, .unset, .unset, .unset] [(.int r6)]))
    have v6 : r6.toInt = 0 := by rcases hr6 with ⟨h1, h2⟩ | ⟨h1, h2, h3⟩; (rcases h1 with h1 | h1; exact absurd h1 n0_5; exact absurd h1 n1_5); exact h3
    clear hr6
    refine Go.step (fun t k => XS.istore X_51.here hx rfl (hb hby at_62) rfl (l' := #[.val (.int p1), .val (.int p2), .val (.int p3), .val (.ref arr), .val (.int (5 : Int32)), .val (.ref en5), .val (.int r6), .unset, .unset, .unset, .unset, .unset, .unset, .unset, .unset]) rfl k) ?_
    show Go p.tables e below P (T_51.setTop (mkF m 64 #[.val (.int p1), .val (.int p2), .val (.int p3), .val (.ref arr), .val (.int (5 : Int32)), .val (.ref en5), .val (.int r6), .unset, .unset, .unset, .unset, .unset, .unset, .unset, .unset] []))
    refine Go.step (fun t k => XS.iload X_51.here hx rfl (hb hby at_64) rfl  k) ?_
    show Go p.tables e below P (T_51.setTop (mkF m 66 #[.val (.int p1), .val (.int p2), .val (.int p3), .val (.ref arr), .val (.int (5 : Int32)), .val (.ref en5), .val (.int r6), .unset, .unset, .unset, .unset, .unset, .unset, .unset, .unset] [(.int (5 : Int32))]))
    refine Go.step (fun t k => XS.iconst X_51.here hx rfl (hb hby at_66) k) ?_
    show Go p.tables e below P (T_51.setTop (mkF m 67 #[.val (.int p1), .val (.int p2), .val (.int p3), .val (.ref arr), .val (.int (5 : Int32)), .val (.ref en5), .val (.int r6), .unset, .unset, .unset, .unset, .unset, .unset, .unset, .unset] [(.int (2 : Int32)), (.int (5 : Int32))]))
    refine Go.step (fun t k => XS.icmpYes X_51.here hx rfl (pc0 := 67) (pc' := 74) rfl (hb hby at_67) rfl (icY (cd := .ge) (by decide : (2 : Int) ≤ (5 : Int))) (by decide) (by decide) k) ?_
    show Go p.tables e below P (T_51.setTop (mkF m 74 #[.val (.int p1), .val (.int p2), .val (.int p3), .val (.ref arr), .val (.int (5 : Int32)), .val (.ref en5), .val (.int r6), .unset, .unset, .unset, .unset, .unset, .unset, .unset, .unset] []))
    refine Go.step (fun t k => XS.iconst X_51.here hx rfl (hb hby at_74) k) ?_
    show Go p.tables e below P (T_51.setTop (mkF m 75 #[.val (.int p1), .val (.int p2), .val (.int p3), .val (.ref arr), .val (.int (5 : Int32)), .val (.ref en5), .val (.int r6), .unset, .unset, .unset, .unset, .unset, .unset, .unset, .unset] [(.int (0 : Int32))]))
    refine Go.step (fun t k => XS.istore X_51.here hx rfl (hb hby at_75) rfl (l' := #[.val (.int p1), .val (.int p2), .val (.int p3), .val (.ref arr), .val (.int (5 : Int32)), .val (.ref en5), .val (.int r6), .val (.int (0 : Int32)), .unset, .unset, .unset, .unset, .unset, .unset, .unset]) rfl k) ?_
    show Go p.tables e below P (T_51.setTop (mkF m 77 #[.val (.int p1), .val (.int p2), .val (.int p3), .val (.ref arr), .val (.int (5 : Int32)), .val (.ref en5), .val (.int r6), .val (.int (0 : Int32)), .unset, .unset, .unset, .unset, .unset, .unset, .unset] []))
    refine Go.step (fun t k => XS.aload X_51.here hx rfl (hb hby at_77) rfl rfl k) ?_
    show Go p.tables e below P (T_51.setTop (mkF m 79 #[.val (.int p1), .val (.int p2), .val (.int p3), .val (.ref arr), .val (.int (5 : Int32)), .val (.ref en5), .val (.int r6), .val (.int (0 : Int32)), .unset, .unset, .unset, .unset, .unset, .unset, .unset] [(.ref en5)]))
    refine Go.step (fun t k => XS.dconst1 X_51.here hx rfl (hb hby at_79) rfl k) ?_
    show Go p.tables e below P (T_51.setTop (mkF m 80 #[.val (.int p1), .val (.int p2), .val (.int p3), .val (.ref arr), .val (.int (5 : Int32)), .val (.ref en5), .val (.int r6), .val (.int (0 : Int32)), .unset, .unset, .unset, .unset, .unset, .unset, .unset] [(.double FP.dconst1), (.ref en5)]))
    refine Go.step (fun t k => X_51.ldc2DoubleC hx hown (mvT hZ (hw _ (List.mem_of_getElem? (i := 23) rfl))) (g := (mkF m 80 #[.val (.int p1), .val (.int p2), .val (.int p3), .val (.ref arr), .val (.int (5 : Int32)), .val (.ref en5), .val (.int r6), .val (.int (0 : Int32)), .unset, .unset, .unset, .unset, .unset, .unset, .unset] [(.double FP.dconst1), (.ref en5)])) rfl (hb hby at_80) t k) ?_
    show Go p.tables e below P (T_51.setTop (mkF m 83 #[.val (.int p1), .val (.int p2), .val (.int p3), .val (.ref arr), .val (.int (5 : Int32)), .val (.ref en5), .val (.int r6), .val (.int (0 : Int32)), .unset, .unset, .unset, .unset, .unset, .unset, .unset] [(.double (4611686018427387904 : UInt64)), (.double FP.dconst1), (.ref en5)]))
    obtain ⟨cq_52, kq_52, q_52a, q_52b, q_52c⟩ := isOf hZ eh_51 (((((((E_en5.ext E_1).wr W_4).wr W_7).wr W_10).wr W_13).wr W_16).wr W_19)
    obtain ⟨_, _, ⟨T_52, L_52, k_52, n_52⟩, -, X_52, ⟨Lc_52, hQ_52, l_52, y_52, z_52⟩, st_52⟩ := X_51.virtualBack hx (y := (⟨"com/example/geofence/geofence/Comparison", "holds", "(DD)Z"⟩ : MethodName)) (z := (⟨"com/example/geofence/geofence/Comparison", "holds", "(DD)Z"⟩ : MethodName)) hown (mvT hZ (hw _ (List.mem_of_getElem? (i := 24) rfl))) (mvT hZ (hw _ (List.mem_of_getElem? (i := 25) rfl))) (notFace_of_selects (args := #[]) (mvT hZ (hw _ (List.mem_of_getElem? (i := 27) rfl)))) (mvT hZ (hw _ (List.mem_of_getElem? (i := 27) rfl))) (mvT hZ (hw _ (List.mem_of_getElem? (i := 26) rfl))) (by decide) (backOf (W := 0) (holds5 l Z a0 hw [] en5 FP.dconst1 (4611686018427387904 : UInt64) (1) (2) h_19 n0 Z_19 (((((((E_en5.ext E_1).wr W_4).wr W_7).wr W_10).wr W_13).wr W_16).wr W_19) (((((((O5.ext E_1).other W_4 (Or.inl ne_en5_arr)).other W_7 (Or.inl ne_en5_arr)).other W_10 (Or.inl ne_en5_arr)).other W_13 (Or.inl ne_en5_arr)).other W_16 (Or.inl ne_en5_arr)).other W_19 (Or.inl ne_en5_arr)) one_e two_e) hZ (hw _ (List.mem_of_getElem? (i := 28) rfl)) (hw _ (List.mem_of_getElem? (i := 3) rfl)) (by decide) (by decide)) q_52a q_52c (g := (mkF m 83 #[.val (.int p1), .val (.int p2), .val (.int p3), .val (.ref arr), .val (.int (5 : Int32)), .val (.ref en5), .val (.int r6), .val (.int (0 : Int32)), .unset, .unset, .unset, .unset, .unset, .unset, .unset] [(.double (4611686018427387904 : UInt64)), (.double FP.dconst1), (.ref en5)])) rfl (by rw [hml]; rfl) (Steps.refl _) (argsL := [(.double FP.dconst1), (.double (4611686018427387904 : UInt64))]) (rest := []) (lenOf pd_2 rfl) rfl (by show 2 * 0 + _ ≤ _; exact Nat.le_of_eq rfl) (hb hby at_83) (fun _ _ => ⟨rfl, eh_51, (by decide : 1 + 0 ≤ _), (by decide : 6 + 0 ≤ _)⟩)
    dsimp only [Pt.U, Pt.locs, Pt.cells, Pt.slots] at X_52 l_52 y_52 z_52 st_52 hQ_52
    subst l_52 y_52 z_52
    obtain ⟨r8, rfl, hr8, N_52q, eh_52⟩ := hQ_52
    have N_52 := Fr.app N_51 N_52q
    refine Go.tr st_52 ?_
    show Go p.tables e below P (T_52.setTop (mkF m 86 #[.val (.int p1), .val (.int p2), .val (.int p3), .val (.ref arr), .val (.int (5 : Int32)), .val (.ref en5), .val (.int r6), .val (.int (0 : Int32)), .unset, .unset, .unset, .unset, .unset, .unset, .unset] [(.int r8)]))
    refine Go.step (fun t k => XS.istore X_52.here hx rfl (hb hby at_86) rfl (l' := #[.val (.int p1), .val (.int p2), .val (.int p3), .val (.ref arr), .val (.int (5 : Int32)), .val (.ref en5), .val (.int r6), .val (.int (0 : Int32)), .val (.int r8), .unset, .unset, .unset, .unset, .unset, .unset]) rfl k) ?_
    show Go p.tables e below P (T_52.setTop (mkF m 88 #[.val (.int p1), .val (.int p2), .val (.int p3), .val (.ref arr), .val (.int (5 : Int32)), .val (.ref en5), .val (.int r6), .val (.int (0 : Int32)), .val (.int r8), .unset, .unset, .unset, .unset, .unset, .unset] []))
    refine Go.step (fun t k => XS.aload X_52.here hx rfl (hb hby at_88) rfl rfl k) ?_
    show Go p.tables e below P (T_52.setTop (mkF m 90 #[.val (.int p1), .val (.int p2), .val (.int p3), .val (.ref arr), .val (.int (5 : Int32)), .val (.ref en5), .val (.int r6), .val (.int (0 : Int32)), .val (.int r8), .unset, .unset, .unset, .unset, .unset, .unset] [(.ref en5)]))
    refine Go.step (fun t k => X_52.ldc2DoubleC hx hown (mvT hZ (hw _ (List.mem_of_getElem? (i := 23) rfl))) (g := (mkF m 90 #[.val (.int p1), .val (.int p2), .val (.int p3), .val (.ref arr), .val (.int (5 : Int32)), .val (.ref en5), .val (.int r6), .val (.int (0 : Int32)), .val (.int r8), .unset, .unset, .unset, .unset, .unset, .unset] [(.ref en5)])) rfl (hb hby at_90) t k) ?_
    show Go p.tables e below P (T_52.setTop (mkF m 93 #[.val (.int p1), .val (.int p2), .val (.int p3), .val (.ref arr), .val (.int (5 : Int32)), .val (.ref en5), .val (.int r6), .val (.int (0 : Int32)), .val (.int r8), .unset, .unset, .unset, .unset, .unset, .unset] [(.double (4611686018427387904 : UInt64)), (.ref en5)]))
    refine Go.step (fun t k => XS.dconst1 X_52.here hx rfl (hb hby at_93) rfl k) ?_
    show Go p.tables e below P (T_52.setTop (mkF m 94 #[.val (.int p1), .val (.int p2), .val (.int p3), .val (.ref arr), .val (.int (5 : Int32)), .val (.ref en5), .val (.int r6), .val (.int (0 : Int32)), .val (.int r8), .unset, .unset, .unset, .unset, .unset, .unset] [(.double FP.dconst1), (.double (4611686018427387904 : UInt64)), (.ref en5)]))
    obtain ⟨cq_53, kq_53, q_53a, q_53b, q_53c⟩ := isOf hZ eh_52 (((((((E_en5.ext E_1).wr W_4).wr W_7).wr W_10).wr W_13).wr W_16).wr W_19)
    obtain ⟨_, _, ⟨T_53, L_53, k_53, n_53⟩, -, X_53, ⟨Lc_53, hQ_53, l_53, y_53, z_53⟩, st_53⟩ := X_52.virtualBack hx (y := (⟨"com/example/geofence/geofence/Comparison", "holds", "(DD)Z"⟩ : MethodName)) (z := (⟨"com/example/geofence/geofence/Comparison", "holds", "(DD)Z"⟩ : MethodName)) hown (mvT hZ (hw _ (List.mem_of_getElem? (i := 24) rfl))) (mvT hZ (hw _ (List.mem_of_getElem? (i := 25) rfl))) (notFace_of_selects (args := #[]) (mvT hZ (hw _ (List.mem_of_getElem? (i := 27) rfl)))) (mvT hZ (hw _ (List.mem_of_getElem? (i := 27) rfl))) (mvT hZ (hw _ (List.mem_of_getElem? (i := 26) rfl))) (by decide) (backOf (W := 0) (holds5 l Z a0 hw [] en5 (4611686018427387904 : UInt64) FP.dconst1 (2) (1) h_19 n0 Z_19 (((((((E_en5.ext E_1).wr W_4).wr W_7).wr W_10).wr W_13).wr W_16).wr W_19) (((((((O5.ext E_1).other W_4 (Or.inl ne_en5_arr)).other W_7 (Or.inl ne_en5_arr)).other W_10 (Or.inl ne_en5_arr)).other W_13 (Or.inl ne_en5_arr)).other W_16 (Or.inl ne_en5_arr)).other W_19 (Or.inl ne_en5_arr)) two_e one_e) hZ (hw _ (List.mem_of_getElem? (i := 28) rfl)) (hw _ (List.mem_of_getElem? (i := 3) rfl)) (by decide) (by decide)) q_53a q_53c (g := (mkF m 94 #[.val (.int p1), .val (.int p2), .val (.int p3), .val (.ref arr), .val (.int (5 : Int32)), .val (.ref en5), .val (.int r6), .val (.int (0 : Int32)), .val (.int r8), .unset, .unset, .unset, .unset, .unset, .unset] [(.double FP.dconst1), (.double (4611686018427387904 : UInt64)), (.ref en5)])) rfl (by rw [hml]; rfl) (Steps.refl _) (argsL := [(.double (4611686018427387904 : UInt64)), (.double FP.dconst1)]) (rest := []) (lenOf pd_2 rfl) rfl (by show 2 * 0 + _ ≤ _; exact Nat.le_of_eq rfl) (hb hby at_94) (fun _ _ => ⟨rfl, eh_52, (by decide : 1 + 0 ≤ _), (by decide : 6 + 0 ≤ _)⟩)
    dsimp only [Pt.U, Pt.locs, Pt.cells, Pt.slots] at X_53 l_53 y_53 z_53 st_53 hQ_53
    subst l_53 y_53 z_53
    obtain ⟨r9, rfl, hr9, N_53q, eh_53⟩ := hQ_53
    have N_53 := Fr.app N_52 N_53q
    refine Go.tr st_53 ?_
    show Go p.tables e below P (T_53.setTop (mkF m 97 #[.val (.int p1), .val (.int p2), .val (.int p3), .val (.ref arr), .val (.int (5 : Int32)), .val (.ref en5), .val (.int r6), .val (.int (0 : Int32)), .val (.int r8), .unset, .unset, .unset, .unset, .unset, .unset] [(.int r9)]))
    refine Go.step (fun t k => XS.istore X_53.here hx rfl (hb hby at_97) rfl (l' := #[.val (.int p1), .val (.int p2), .val (.int p3), .val (.ref arr), .val (.int (5 : Int32)), .val (.ref en5), .val (.int r6), .val (.int (0 : Int32)), .val (.int r8), .val (.int r9), .unset, .unset, .unset, .unset, .unset]) rfl k) ?_
    show Go p.tables e below P (T_53.setTop (mkF m 99 #[.val (.int p1), .val (.int p2), .val (.int p3), .val (.ref arr), .val (.int (5 : Int32)), .val (.ref en5), .val (.int r6), .val (.int (0 : Int32)), .val (.int r8), .val (.int r9), .unset, .unset, .unset, .unset, .unset] []))
    refine Go.step (fun t k => XS.iloadN X_53.here hx rfl (hb hby at_99) rfl  k) ?_
    show Go p.tables e below P (T_53.setTop (mkF m 100 #[.val (.int p1), .val (.int p2), .val (.int p3), .val (.ref arr), .val (.int (5 : Int32)), .val (.ref en5), .val (.int r6), .val (.int (0 : Int32)), .val (.int r8), .val (.int r9), .unset, .unset, .unset, .unset, .unset] [(.int p2)]))
    obtain ⟨d100, hd100⟩ : ∃ z : UInt64, FP.i2d p2 = z := ⟨_, rfl⟩
    refine Go.step (fun t k => XS.i2dS X_53.here hx rfl (hb hby at_100) rfl hd100 k) ?_
    show Go p.tables e below P (T_53.setTop (mkF m 101 #[.val (.int p1), .val (.int p2), .val (.int p3), .val (.ref arr), .val (.int (5 : Int32)), .val (.ref en5), .val (.int r6), .val (.int (0 : Int32)), .val (.int r8), .val (.int r9), .unset, .unset, .unset, .unset, .unset] [(.double d100)]))
    have q100 := i2d_e p2; rw [hd100] at q100
    refine Go.step (fun t k => XS.dstore X_53.here hx rfl (hb hby at_101) rfl (l' := #[.val (.int p1), .val (.int p2), .val (.int p3), .val (.ref arr), .val (.int (5 : Int32)), .val (.ref en5), .val (.int r6), .val (.int (0 : Int32)), .val (.int r8), .val (.int r9), .val (.double d100), .second, .unset, .unset, .unset]) rfl k) ?_
    show Go p.tables e below P (T_53.setTop (mkF m 103 #[.val (.int p1), .val (.int p2), .val (.int p3), .val (.ref arr), .val (.int (5 : Int32)), .val (.ref en5), .val (.int r6), .val (.int (0 : Int32)), .val (.int r8), .val (.int r9), .val (.double d100), .second, .unset, .unset, .unset] []))
    refine Go.step (fun t k => XS.iloadN X_53.here hx rfl (hb hby at_103) rfl  k) ?_
    show Go p.tables e below P (T_53.setTop (mkF m 104 #[.val (.int p1), .val (.int p2), .val (.int p3), .val (.ref arr), .val (.int (5 : Int32)), .val (.ref en5), .val (.int r6), .val (.int (0 : Int32)), .val (.int r8), .val (.int r9), .val (.double d100), .second, .unset, .unset, .unset] [(.int p3)]))
    obtain ⟨d104, hd104⟩ : ∃ z : UInt64, FP.i2d p3 = z := ⟨_, rfl⟩
    refine Go.step (fun t k => XS.i2dS X_53.here hx rfl (hb hby at_104) rfl hd104 k) ?_
    show Go p.tables e below P (T_53.setTop (mkF m 105 #[.val (.int p1), .val (.int p2), .val (.int p3), .val (.ref arr), .val (.int (5 : Int32)), .val (.ref en5), .val (.int r6), .val (.int (0 : Int32)), .val (.int r8), .val (.int r9), .val (.double d100), .second, .unset, .unset, .unset] [(.double d104)]))
    have q104 := i2d_e p3; rw [hd104] at q104
    refine Go.step (fun t k => XS.dstore X_53.here hx rfl (hb hby at_105) rfl (l' := #[.val (.int p1), .val (.int p2), .val (.int p3), .val (.ref arr), .val (.int (5 : Int32)), .val (.ref en5), .val (.int r6), .val (.int (0 : Int32)), .val (.int r8), .val (.int r9), .val (.double d100), .second, .val (.double d104), .second, .unset]) rfl k) ?_
    show Go p.tables e below P (T_53.setTop (mkF m 107 #[.val (.int p1), .val (.int p2), .val (.int p3), .val (.ref arr), .val (.int (5 : Int32)), .val (.ref en5), .val (.int r6), .val (.int (0 : Int32)), .val (.int r8), .val (.int r9), .val (.double d100), .second, .val (.double d104), .second, .unset] []))
    refine Go.step (fun t k => XS.aload X_53.here hx rfl (hb hby at_107) rfl rfl k) ?_
    show Go p.tables e below P (T_53.setTop (mkF m 109 #[.val (.int p1), .val (.int p2), .val (.int p3), .val (.ref arr), .val (.int (5 : Int32)), .val (.ref en5), .val (.int r6), .val (.int (0 : Int32)), .val (.int r8), .val (.int r9), .val (.double d100), .second, .val (.double d104), .second, .unset] [(.ref en5)]))
    refine Go.step (fun t k => XS.dload X_53.here hx rfl (hb hby at_109) rfl  k) ?_
    show Go p.tables e below P (T_53.setTop (mkF m 111 #[.val (.int p1), .val (.int p2), .val (.int p3), .val (.ref arr), .val (.int (5 : Int32)), .val (.ref en5), .val (.int r6), .val (.int (0 : Int32)), .val (.int r8), .val (.int r9), .val (.double d100), .second, .val (.double d104), .second, .unset] [(.double d100), (.ref en5)]))
    refine Go.step (fun t k => XS.dload X_53.here hx rfl (hb hby at_111) rfl  k) ?_
    show Go p.tables e below P (T_53.setTop (mkF m 113 #[.val (.int p1), .val (.int p2), .val (.int p3), .val (.ref arr), .val (.int (5 : Int32)), .val (.ref en5), .val (.int r6), .val (.int (0 : Int32)), .val (.int r8), .val (.int r9), .val (.double d100), .second, .val (.double d104), .second, .unset] [(.double d104), (.double d100), (.ref en5)]))
    obtain ⟨cq_54, kq_54, q_54a, q_54b, q_54c⟩ := isOf hZ eh_53 (((((((E_en5.ext E_1).wr W_4).wr W_7).wr W_10).wr W_13).wr W_16).wr W_19)
    obtain ⟨_, _, ⟨T_54, L_54, k_54, n_54⟩, -, X_54, ⟨Lc_54, hQ_54, l_54, y_54, z_54⟩, st_54⟩ := X_53.virtualBack hx (y := (⟨"com/example/geofence/geofence/Comparison", "holds", "(DD)Z"⟩ : MethodName)) (z := (⟨"com/example/geofence/geofence/Comparison", "holds", "(DD)Z"⟩ : MethodName)) hown (mvT hZ (hw _ (List.mem_of_getElem? (i := 24) rfl))) (mvT hZ (hw _ (List.mem_of_getElem? (i := 25) rfl))) (notFace_of_selects (args := #[]) (mvT hZ (hw _ (List.mem_of_getElem? (i := 27) rfl)))) (mvT hZ (hw _ (List.mem_of_getElem? (i := 27) rfl))) (mvT hZ (hw _ (List.mem_of_getElem? (i := 26) rfl))) (by decide) (backOf (W := 0) (holds5 l Z a0 hw [] en5 d100 d104 (p2.toInt) (p3.toInt) h_19 n0 Z_19 (((((((E_en5.ext E_1).wr W_4).wr W_7).wr W_10).wr W_13).wr W_16).wr W_19) (((((((O5.ext E_1).other W_4 (Or.inl ne_en5_arr)).other W_7 (Or.inl ne_en5_arr)).other W_10 (Or.inl ne_en5_arr)).other W_13 (Or.inl ne_en5_arr)).other W_16 (Or.inl ne_en5_arr)).other W_19 (Or.inl ne_en5_arr)) q100 q104) hZ (hw _ (List.mem_of_getElem? (i := 28) rfl)) (hw _ (List.mem_of_getElem? (i := 3) rfl)) (by decide) (by decide)) q_54a q_54c (g := (mkF m 113 #[.val (.int p1), .val (.int p2), .val (.int p3), .val (.ref arr), .val (.int (5 : Int32)), .val (.ref en5), .val (.int r6), .val (.int (0 : Int32)), .val (.int r8), .val (.int r9), .val (.double d100), .second, .val (.double d104), .second, .unset] [(.double d104), (.double d100), (.ref en5)])) rfl (by rw [hml]; rfl) (Steps.refl _) (argsL := [(.double d100), (.double d104)]) (rest := []) (lenOf pd_2 rfl) rfl (by show 2 * 0 + _ ≤ _; exact Nat.le_of_eq rfl) (hb hby at_113) (fun _ _ => ⟨rfl, eh_53, (by decide : 1 + 0 ≤ _), (by decide : 6 + 0 ≤ _)⟩)
    dsimp only [Pt.U, Pt.locs, Pt.cells, Pt.slots] at X_54 l_54 y_54 z_54 st_54 hQ_54
    subst l_54 y_54 z_54
    obtain ⟨ra, rfl, hra, N_54q, eh_54⟩ := hQ_54
    have N_54 := Fr.app N_53 N_54q
    refine Go.tr st_54 ?_
    show Go p.tables e below P (T_54.setTop (mkF m 116 #[.val (.int p1), .val (.int p2), .val (.int p3), .val (.ref arr), .val (.int (5 : Int32)), .val (.ref en5), .val (.int r6), .val (.int (0 : Int32)), .val (.int r8), .val (.int r9), .val (.double d100), .second, .val (.double d104), .second, .unset] [(.int ra)]))
    refine Go.step (fun t k => XS.aload X_54.here hx rfl (hb hby at_116) rfl rfl k) ?_
    show Go p.tables e below P (T_54.setTop (mkF m 118 #[.val (.int p1), .val (.int p2), .val (.int p3), .val (.ref arr), .val (.int (5 : Int32)), .val (.ref en5), .val (.int r6), .val (.int (0 : Int32)), .val (.int r8), .val (.int r9), .val (.double d100), .second, .val (.double d104), .second, .unset] [(.ref en5), (.int ra)]))
    refine Go.step (fun t k => XS.dload X_54.here hx rfl (hb hby at_118) rfl  k) ?_
    show Go p.tables e below P (T_54.setTop (mkF m 120 #[.val (.int p1), .val (.int p2), .val (.int p3), .val (.ref arr), .val (.int (5 : Int32)), .val (.ref en5), .val (.int r6), .val (.int (0 : Int32)), .val (.int r8), .val (.int r9), .val (.double d100), .second, .val (.double d104), .second, .unset] [(.double d104), (.ref en5), (.int ra)]))
    refine Go.step (fun t k => XS.dload X_54.here hx rfl (hb hby at_120) rfl  k) ?_
    show Go p.tables e below P (T_54.setTop (mkF m 122 #[.val (.int p1), .val (.int p2), .val (.int p3), .val (.ref arr), .val (.int (5 : Int32)), .val (.ref en5), .val (.int r6), .val (.int (0 : Int32)), .val (.int r8), .val (.int r9), .val (.double d100), .second, .val (.double d104), .second, .unset] [(.double d100), (.double d104), (.ref en5), (.int ra)]))
    obtain ⟨cq_55, kq_55, q_55a, q_55b, q_55c⟩ := isOf hZ eh_54 (((((((E_en5.ext E_1).wr W_4).wr W_7).wr W_10).wr W_13).wr W_16).wr W_19)
    obtain ⟨_, _, ⟨T_55, L_55, k_55, n_55⟩, -, X_55, ⟨Lc_55, hQ_55, l_55, y_55, z_55⟩, st_55⟩ := X_54.virtualBack hx (y := (⟨"com/example/geofence/geofence/Comparison", "holds", "(DD)Z"⟩ : MethodName)) (z := (⟨"com/example/geofence/geofence/Comparison", "holds", "(DD)Z"⟩ : MethodName)) hown (mvT hZ (hw _ (List.mem_of_getElem? (i := 24) rfl))) (mvT hZ (hw _ (List.mem_of_getElem? (i := 25) rfl))) (notFace_of_selects (args := #[]) (mvT hZ (hw _ (List.mem_of_getElem? (i := 27) rfl)))) (mvT hZ (hw _ (List.mem_of_getElem? (i := 27) rfl))) (mvT hZ (hw _ (List.mem_of_getElem? (i := 26) rfl))) (by decide) (backOf (W := 1) (holds5 l Z a0 hw [] en5 d104 d100 (p3.toInt) (p2.toInt) h_19 n0 Z_19 (((((((E_en5.ext E_1).wr W_4).wr W_7).wr W_10).wr W_13).wr W_16).wr W_19) (((((((O5.ext E_1).other W_4 (Or.inl ne_en5_arr)).other W_7 (Or.inl ne_en5_arr)).other W_10 (Or.inl ne_en5_arr)).other W_13 (Or.inl ne_en5_arr)).other W_16 (Or.inl ne_en5_arr)).other W_19 (Or.inl ne_en5_arr)) q104 q100) hZ (hw _ (List.mem_of_getElem? (i := 28) rfl)) (hw _ (List.mem_of_getElem? (i := 3) rfl)) (by decide) (by decide)) q_55a q_55c (g := (mkF m 122 #[.val (.int p1), .val (.int p2), .val (.int p3), .val (.ref arr), .val (.int (5 : Int32)), .val (.ref en5), .val (.int r6), .val (.int (0 : Int32)), .val (.int r8), .val (.int r9), .val (.double d100), .second, .val (.double d104), .second, .unset] [(.double d100), (.double d104), (.ref en5), (.int ra)])) rfl (by rw [hml]; rfl) (Steps.refl _) (argsL := [(.double d104), (.double d100)]) (rest := [(.int ra)]) (lenOf pd_2 rfl) rfl (by show 2 * 0 + _ ≤ _; exact Nat.le_of_eq rfl) (hb hby at_122) (fun _ _ => ⟨rfl, eh_54, (by decide : 1 + 0 ≤ _), (by decide : 6 + 0 ≤ _)⟩)
    dsimp only [Pt.U, Pt.locs, Pt.cells, Pt.slots] at X_55 l_55 y_55 z_55 st_55 hQ_55
    subst l_55 y_55 z_55
    obtain ⟨rb, rfl, hrb, N_55q, eh_55⟩ := hQ_55
    have N_55 := Fr.app N_54 N_55q
    refine Go.tr st_55 ?_
    show Go p.tables e below P (T_55.setTop (mkF m 125 #[.val (.int p1), .val (.int p2), .val (.int p3), .val (.ref arr), .val (.int (5 : Int32)), .val (.ref en5), .val (.int r6), .val (.int (0 : Int32)), .val (.int r8), .val (.int r9), .val (.double d100), .second, .val (.double d104), .second, .unset] [(.int rb), (.int ra)]))
    by_cases hc125 : ¬ ra.toInt = rb.toInt
    · refine Go.step (fun t k => XS.icmpYes X_55.here hx rfl (pc0 := 125) (pc' := 132) rfl (hb hby at_125) rfl (icY (cd := .ne) hc125) (by decide) (by decide) k) ?_
      show Go p.tables e below P (T_55.setTop (mkF m 132 #[.val (.int p1), .val (.int p2), .val (.int p3), .val (.ref arr), .val (.int (5 : Int32)), .val (.ref en5), .val (.int r6), .val (.int (0 : Int32)), .val (.int r8), .val (.int r9), .val (.double d100), .second, .val (.double d104), .second, .unset] []))
      refine Go.step (fun t k => XS.iconst X_55.here hx rfl (hb hby at_132) k) ?_
      show Go p.tables e below P (T_55.setTop (mkF m 133 #[.val (.int p1), .val (.int p2), .val (.int p3), .val (.ref arr), .val (.int (5 : Int32)), .val (.ref en5), .val (.int r6), .val (.int (0 : Int32)), .val (.int r8), .val (.int r9), .val (.double d100), .second, .val (.double d104), .second, .unset] [(.int (0 : Int32))]))
      refine Go.step (fun t k => XS.istore X_55.here hx rfl (hb hby at_133) rfl (l' := #[.val (.int p1), .val (.int p2), .val (.int p3), .val (.ref arr), .val (.int (5 : Int32)), .val (.ref en5), .val (.int r6), .val (.int (0 : Int32)), .val (.int r8), .val (.int r9), .val (.double d100), .second, .val (.double d104), .second, .val (.int (0 : Int32))]) rfl k) ?_
      show Go p.tables e below P (T_55.setTop (mkF m 135 #[.val (.int p1), .val (.int p2), .val (.int p3), .val (.ref arr), .val (.int (5 : Int32)), .val (.ref en5), .val (.int r6), .val (.int (0 : Int32)), .val (.int r8), .val (.int r9), .val (.double d100), .second, .val (.double d104), .second, .val (.int (0 : Int32))] []))
      refine Go.step (fun t k => XS.iload X_55.here hx rfl (hb hby at_135) rfl  k) ?_
      show Go p.tables e below P (T_55.setTop (mkF m 137 #[.val (.int p1), .val (.int p2), .val (.int p3), .val (.ref arr), .val (.int (5 : Int32)), .val (.ref en5), .val (.int r6), .val (.int (0 : Int32)), .val (.int r8), .val (.int r9), .val (.double d100), .second, .val (.double d104), .second, .val (.int (0 : Int32))] [(.int r6)]))
      refine Go.step (fun t k => XS.iload X_55.here hx rfl (hb hby at_137) rfl  k) ?_
      show Go p.tables e below P (T_55.setTop (mkF m 139 #[.val (.int p1), .val (.int p2), .val (.int p3), .val (.ref arr), .val (.int (5 : Int32)), .val (.ref en5), .val (.int r6), .val (.int (0 : Int32)), .val (.int r8), .val (.int r9), .val (.double d100), .second, .val (.double d104), .second, .val (.int (0 : Int32))] [(.int (0 : Int32)), (.int r6)]))
      refine Go.step (fun t k => XS.icmpNo X_55.here hx rfl (hb hby at_139) rfl (icN (cd := .ne) (by omega : ¬ (¬ r6.toInt = (0 : Int)))) k) ?_
      show Go p.tables e below P (T_55.setTop (mkF m 142 #[.val (.int p1), .val (.int p2), .val (.int p3), .val (.ref arr), .val (.int (5 : Int32)), .val (.ref en5), .val (.int r6), .val (.int (0 : Int32)), .val (.int r8), .val (.int r9), .val (.double d100), .second, .val (.double d104), .second, .val (.int (0 : Int32))] []))
      refine Go.step (fun t k => XS.iload X_55.here hx rfl (hb hby at_142) rfl  k) ?_
      show Go p.tables e below P (T_55.setTop (mkF m 144 #[.val (.int p1), .val (.int p2), .val (.int p3), .val (.ref arr), .val (.int (5 : Int32)), .val (.ref en5), .val (.int r6), .val (.int (0 : Int32)), .val (.int r8), .val (.int r9), .val (.double d100), .second, .val (.double d104), .second, .val (.int (0 : Int32))] [(.int r6)]))
      refine Go.step (fun t k => XS.iload X_55.here hx rfl (hb hby at_144) rfl  k) ?_
      show Go p.tables e below P (T_55.setTop (mkF m 146 #[.val (.int p1), .val (.int p2), .val (.int p3), .val (.ref arr), .val (.int (5 : Int32)), .val (.ref en5), .val (.int r6), .val (.int (0 : Int32)), .val (.int r8), .val (.int r9), .val (.double d100), .second, .val (.double d104), .second, .val (.int (0 : Int32))] [(.int r8), (.int r6)]))
      refine Go.step (fun t k => XS.iload X_55.here hx rfl (hb hby at_146) rfl  k) ?_
      show Go p.tables e below P (T_55.setTop (mkF m 148 #[.val (.int p1), .val (.int p2), .val (.int p3), .val (.ref arr), .val (.int (5 : Int32)), .val (.ref en5), .val (.int r6), .val (.int (0 : Int32)), .val (.int r8), .val (.int r9), .val (.double d100), .second, .val (.double d104), .second, .val (.int (0 : Int32))] [(.int r9), (.int r8), (.int r6)]))
      refine Go.step (fun t k => XS.icmpYes X_55.here hx rfl (pc0 := 148) (pc' := 155) rfl (hb hby at_148) rfl (icY (cd := .ne) (by omega : ¬ r8.toInt = r9.toInt)) (by decide) (by decide) k) ?_
      show Go p.tables e below P (T_55.setTop (mkF m 155 #[.val (.int p1), .val (.int p2), .val (.int p3), .val (.ref arr), .val (.int (5 : Int32)), .val (.ref en5), .val (.int r6), .val (.int (0 : Int32)), .val (.int r8), .val (.int r9), .val (.double d100), .second, .val (.double d104), .second, .val (.int (0 : Int32))] [(.int r6)]))
      refine Go.step (fun t k => XS.iconst X_55.here hx rfl (hb hby at_155) k) ?_
      show Go p.tables e below P (T_55.setTop (mkF m 156 #[.val (.int p1), .val (.int p2), .val (.int p3), .val (.ref arr), .val (.int (5 : Int32)), .val (.ref en5), .val (.int r6), .val (.int (0 : Int32)), .val (.int r8), .val (.int r9), .val (.double d100), .second, .val (.double d104), .second, .val (.int (0 : Int32))] [(.int (0 : Int32)), (.int r6)]))
      refine Go.step (fun t k => XS.icmpNo X_55.here hx rfl (hb hby at_156) rfl (icN (cd := .ne) (by omega : ¬ (¬ r6.toInt = (0 : Int)))) k) ?_
      show Go p.tables e below P (T_55.setTop (mkF m 159 #[.val (.int p1), .val (.int p2), .val (.int p3), .val (.ref arr), .val (.int (5 : Int32)), .val (.ref en5), .val (.int r6), .val (.int (0 : Int32)), .val (.int r8), .val (.int r9), .val (.double d100), .second, .val (.double d104), .second, .val (.int (0 : Int32))] []))
      refine Go.step (fun t k => XS.iload X_55.here hx rfl (hb hby at_159) rfl  k) ?_
      show Go p.tables e below P (T_55.setTop (mkF m 161 #[.val (.int p1), .val (.int p2), .val (.int p3), .val (.ref arr), .val (.int (5 : Int32)), .val (.ref en5), .val (.int r6), .val (.int (0 : Int32)), .val (.int r8), .val (.int r9), .val (.double d100), .second, .val (.double d104), .second, .val (.int (0 : Int32))] [(.int r6)]))
      refine Go.step (fun t k => XS.ifYes X_55.here hx rfl (pc0 := 161) (pc' := 169) rfl (hb hby at_161) rfl (ifY (cd := .eq) (by omega : r6.toInt = 0)) (by decide) (by decide) k) ?_
      show Go p.tables e below P (T_55.setTop (mkF m 169 #[.val (.int p1), .val (.int p2), .val (.int p3), .val (.ref arr), .val (.int (5 : Int32)), .val (.ref en5), .val (.int r6), .val (.int (0 : Int32)), .val (.int r8), .val (.int r9), .val (.double d100), .second, .val (.double d104), .second, .val (.int (0 : Int32))] []))
      refine Go.step (fun t k => XS.iconst X_55.here hx rfl (hb hby at_169) k) ?_
      show Go p.tables e below P (T_55.setTop (mkF m 170 #[.val (.int p1), .val (.int p2), .val (.int p3), .val (.ref arr), .val (.int (5 : Int32)), .val (.ref en5), .val (.int r6), .val (.int (0 : Int32)), .val (.int r8), .val (.int r9), .val (.double d100), .second, .val (.double d104), .second, .val (.int (0 : Int32))] [(.int (1 : Int32))]))
      refine Go.step (fun t k => XS.goto X_55.here hx rfl (pc0 := 170) (pc' := 174) rfl (hb hby at_170) (by decide) (by decide) k) ?_
      show Go p.tables e below P (T_55.setTop (mkF m 174 #[.val (.int p1), .val (.int p2), .val (.int p3), .val (.ref arr), .val (.int (5 : Int32)), .val (.ref en5), .val (.int r6), .val (.int (0 : Int32)), .val (.int r8), .val (.int r9), .val (.double d100), .second, .val (.double d104), .second, .val (.int (0 : Int32))] [(.int (1 : Int32))]))
      exact retGo X_55 hx hP Bd.returns hlk rfl (Or.inl ⟨rfl, Or.inr (Or.inl rfl), _, rfl⟩) (hb hby at_174) (by decide) (by decide) (by rw [eh_55]; exact ⟨rfl, N_55⟩)
    · refine Go.step (fun t k => XS.icmpNo X_55.here hx rfl (hb hby at_125) rfl (icN (cd := .ne) hc125) k) ?_
      show Go p.tables e below P (T_55.setTop (mkF m 128 #[.val (.int p1), .val (.int p2), .val (.int p3), .val (.ref arr), .val (.int (5 : Int32)), .val (.ref en5), .val (.int r6), .val (.int (0 : Int32)), .val (.int r8), .val (.int r9), .val (.double d100), .second, .val (.double d104), .second, .unset] []))
      refine Go.step (fun t k => XS.iconst X_55.here hx rfl (hb hby at_128) k) ?_
      show Go p.tables e below P (T_55.setTop (mkF m 129 #[.val (.int p1), .val (.int p2), .val (.int p3), .val (.ref arr), .val (.int (5 : Int32)), .val (.ref en5), .val (.int r6), .val (.int (0 : Int32)), .val (.int r8), .val (.int r9), .val (.double d100), .second, .val (.double d104), .second, .unset] [(.int (1 : Int32))]))
      refine Go.step (fun t k => XS.goto X_55.here hx rfl (pc0 := 129) (pc' := 133) rfl (hb hby at_129) (by decide) (by decide) k) ?_
      show Go p.tables e below P (T_55.setTop (mkF m 133 #[.val (.int p1), .val (.int p2), .val (.int p3), .val (.ref arr), .val (.int (5 : Int32)), .val (.ref en5), .val (.int r6), .val (.int (0 : Int32)), .val (.int r8), .val (.int r9), .val (.double d100), .second, .val (.double d104), .second, .unset] [(.int (1 : Int32))]))
      refine Go.step (fun t k => XS.istore X_55.here hx rfl (hb hby at_133) rfl (l' := #[.val (.int p1), .val (.int p2), .val (.int p3), .val (.ref arr), .val (.int (5 : Int32)), .val (.ref en5), .val (.int r6), .val (.int (0 : Int32)), .val (.int r8), .val (.int r9), .val (.double d100), .second, .val (.double d104), .second, .val (.int (1 : Int32))]) rfl k) ?_
      show Go p.tables e below P (T_55.setTop (mkF m 135 #[.val (.int p1), .val (.int p2), .val (.int p3), .val (.ref arr), .val (.int (5 : Int32)), .val (.ref en5), .val (.int r6), .val (.int (0 : Int32)), .val (.int r8), .val (.int r9), .val (.double d100), .second, .val (.double d104), .second, .val (.int (1 : Int32))] []))
      refine Go.step (fun t k => XS.iload X_55.here hx rfl (hb hby at_135) rfl  k) ?_
      show Go p.tables e below P (T_55.setTop (mkF m 137 #[.val (.int p1), .val (.int p2), .val (.int p3), .val (.ref arr), .val (.int (5 : Int32)), .val (.ref en5), .val (.int r6), .val (.int (0 : Int32)), .val (.int r8), .val (.int r9), .val (.double d100), .second, .val (.double d104), .second, .val (.int (1 : Int32))] [(.int r6)]))
      refine Go.step (fun t k => XS.iload X_55.here hx rfl (hb hby at_137) rfl  k) ?_
      show Go p.tables e below P (T_55.setTop (mkF m 139 #[.val (.int p1), .val (.int p2), .val (.int p3), .val (.ref arr), .val (.int (5 : Int32)), .val (.ref en5), .val (.int r6), .val (.int (0 : Int32)), .val (.int r8), .val (.int r9), .val (.double d100), .second, .val (.double d104), .second, .val (.int (1 : Int32))] [(.int (0 : Int32)), (.int r6)]))
      refine Go.step (fun t k => XS.icmpNo X_55.here hx rfl (hb hby at_139) rfl (icN (cd := .ne) (by omega : ¬ (¬ r6.toInt = (0 : Int)))) k) ?_
      show Go p.tables e below P (T_55.setTop (mkF m 142 #[.val (.int p1), .val (.int p2), .val (.int p3), .val (.ref arr), .val (.int (5 : Int32)), .val (.ref en5), .val (.int r6), .val (.int (0 : Int32)), .val (.int r8), .val (.int r9), .val (.double d100), .second, .val (.double d104), .second, .val (.int (1 : Int32))] []))
      refine Go.step (fun t k => XS.iload X_55.here hx rfl (hb hby at_142) rfl  k) ?_
      show Go p.tables e below P (T_55.setTop (mkF m 144 #[.val (.int p1), .val (.int p2), .val (.int p3), .val (.ref arr), .val (.int (5 : Int32)), .val (.ref en5), .val (.int r6), .val (.int (0 : Int32)), .val (.int r8), .val (.int r9), .val (.double d100), .second, .val (.double d104), .second, .val (.int (1 : Int32))] [(.int r6)]))
      refine Go.step (fun t k => XS.iload X_55.here hx rfl (hb hby at_144) rfl  k) ?_
      show Go p.tables e below P (T_55.setTop (mkF m 146 #[.val (.int p1), .val (.int p2), .val (.int p3), .val (.ref arr), .val (.int (5 : Int32)), .val (.ref en5), .val (.int r6), .val (.int (0 : Int32)), .val (.int r8), .val (.int r9), .val (.double d100), .second, .val (.double d104), .second, .val (.int (1 : Int32))] [(.int r8), (.int r6)]))
      refine Go.step (fun t k => XS.iload X_55.here hx rfl (hb hby at_146) rfl  k) ?_
      show Go p.tables e below P (T_55.setTop (mkF m 148 #[.val (.int p1), .val (.int p2), .val (.int p3), .val (.ref arr), .val (.int (5 : Int32)), .val (.ref en5), .val (.int r6), .val (.int (0 : Int32)), .val (.int r8), .val (.int r9), .val (.double d100), .second, .val (.double d104), .second, .val (.int (1 : Int32))] [(.int r9), (.int r8), (.int r6)]))
      refine Go.step (fun t k => XS.icmpYes X_55.here hx rfl (pc0 := 148) (pc' := 155) rfl (hb hby at_148) rfl (icY (cd := .ne) (by omega : ¬ r8.toInt = r9.toInt)) (by decide) (by decide) k) ?_
      show Go p.tables e below P (T_55.setTop (mkF m 155 #[.val (.int p1), .val (.int p2), .val (.int p3), .val (.ref arr), .val (.int (5 : Int32)), .val (.ref en5), .val (.int r6), .val (.int (0 : Int32)), .val (.int r8), .val (.int r9), .val (.double d100), .second, .val (.double d104), .second, .val (.int (1 : Int32))] [(.int r6)]))
      refine Go.step (fun t k => XS.iconst X_55.here hx rfl (hb hby at_155) k) ?_
      show Go p.tables e below P (T_55.setTop (mkF m 156 #[.val (.int p1), .val (.int p2), .val (.int p3), .val (.ref arr), .val (.int (5 : Int32)), .val (.ref en5), .val (.int r6), .val (.int (0 : Int32)), .val (.int r8), .val (.int r9), .val (.double d100), .second, .val (.double d104), .second, .val (.int (1 : Int32))] [(.int (0 : Int32)), (.int r6)]))
      refine Go.step (fun t k => XS.icmpNo X_55.here hx rfl (hb hby at_156) rfl (icN (cd := .ne) (by omega : ¬ (¬ r6.toInt = (0 : Int)))) k) ?_
      show Go p.tables e below P (T_55.setTop (mkF m 159 #[.val (.int p1), .val (.int p2), .val (.int p3), .val (.ref arr), .val (.int (5 : Int32)), .val (.ref en5), .val (.int r6), .val (.int (0 : Int32)), .val (.int r8), .val (.int r9), .val (.double d100), .second, .val (.double d104), .second, .val (.int (1 : Int32))] []))
      refine Go.step (fun t k => XS.iload X_55.here hx rfl (hb hby at_159) rfl  k) ?_
      show Go p.tables e below P (T_55.setTop (mkF m 161 #[.val (.int p1), .val (.int p2), .val (.int p3), .val (.ref arr), .val (.int (5 : Int32)), .val (.ref en5), .val (.int r6), .val (.int (0 : Int32)), .val (.int r8), .val (.int r9), .val (.double d100), .second, .val (.double d104), .second, .val (.int (1 : Int32))] [(.int r6)]))
      refine Go.step (fun t k => XS.ifYes X_55.here hx rfl (pc0 := 161) (pc' := 169) rfl (hb hby at_161) rfl (ifY (cd := .eq) (by omega : r6.toInt = 0)) (by decide) (by decide) k) ?_
      show Go p.tables e below P (T_55.setTop (mkF m 169 #[.val (.int p1), .val (.int p2), .val (.int p3), .val (.ref arr), .val (.int (5 : Int32)), .val (.ref en5), .val (.int r6), .val (.int (0 : Int32)), .val (.int r8), .val (.int r9), .val (.double d100), .second, .val (.double d104), .second, .val (.int (1 : Int32))] []))
      refine Go.step (fun t k => XS.iconst X_55.here hx rfl (hb hby at_169) k) ?_
      show Go p.tables e below P (T_55.setTop (mkF m 170 #[.val (.int p1), .val (.int p2), .val (.int p3), .val (.ref arr), .val (.int (5 : Int32)), .val (.ref en5), .val (.int r6), .val (.int (0 : Int32)), .val (.int r8), .val (.int r9), .val (.double d100), .second, .val (.double d104), .second, .val (.int (1 : Int32))] [(.int (1 : Int32))]))
      refine Go.step (fun t k => XS.goto X_55.here hx rfl (pc0 := 170) (pc' := 174) rfl (hb hby at_170) (by decide) (by decide) k) ?_
      show Go p.tables e below P (T_55.setTop (mkF m 174 #[.val (.int p1), .val (.int p2), .val (.int p3), .val (.ref arr), .val (.int (5 : Int32)), .val (.ref en5), .val (.int r6), .val (.int (0 : Int32)), .val (.int r8), .val (.int r9), .val (.double d100), .second, .val (.double d104), .second, .val (.int (1 : Int32))] [(.int (1 : Int32))]))
      exact retGo X_55 hx hP Bd.returns hlk rfl (Or.inl ⟨rfl, Or.inr (Or.inl rfl), _, rfl⟩) (hb hby at_174) (by decide) (by decide) (by rw [eh_55]; exact ⟨rfl, N_55⟩)
set_option maxRecDepth 65536 in
set_option maxHeartbeats 40000000 in
theorem comes_1 {Post : Tables → Env → Array Value → State → Outcome → State → Prop} (hpost : ∀ tb e args s v u, (limb_1_1.after args s (.returned v) u = true ∧ limb_1_2.after args s (.returned v) u = true ∧ True) → FrameEnd s (.returned v) u (Jvm.fieldLocs frame_1_writes args s ++ Jvm.arrayLocs frame_1_arrays args s ++ Jvm.staticLocs frame_1_statics s) 16 128 → Post tb e args s (.returned v) u) :
    ArmFor flags0 classFile x code maxLocals ret World_1 tables_1 room_1 Calls_1 rest_1 Pre_1 Post := by
  intro l hfl _ _ p e ha hc hk s m args below hf hA hF happ hP
  obtain ⟨hcalls, hrest, hpre⟩ := hP
  obtain ⟨-, -, -, hnamed, -, -, -, hat⟩ := (Spec.applies_iff hf).mp happ
  obtain ⟨hg, hn⟩ := and_e (Cond.before_iff.mp (show (Jvm.Cond.and given_1 narrow_1).before args s = true from hpre))
  obtain ⟨gc, hg0⟩ := and_e hg
  obtain ⟨ga0, hg1⟩ := and_e hg0
  obtain ⟨ga1, hg2⟩ := and_e hg1
  have ga2 := hg2
  obtain ⟨w0, w1, w2, rfl⟩ : ∃ w0 w1 w2 : Value, args = #[w0, w1, w2] := by
    have hs : args.size = 3 := by simpa [Cond.value, given_1] using gc
    obtain ⟨L⟩ := args
    match L, hs with
    | [w0, w1, w2], _ => exact ⟨w0, w1, w2, rfl⟩
  have hw := fun d (hd : d ∈ tables_1) => atoms_spec (ws := Jvm.Cond.code x code maxLocals ret :: tables_1) hat d (List.mem_cons_of_mem _ hd)
  obtain ⟨i0, ei0⟩ := is_v ga0
  obtain rfl : w0 = (.int i0) := Option.some.inj ei0
  obtain ⟨i1, ei1⟩ := is_v ga1
  obtain rfl : w1 = (.int i1) := Option.some.inj ei1
  obtain ⟨i2, ei2⟩ := is_v ga2
  obtain rfl : w2 = (.int i2) := Option.some.inj ei2
  obtain ⟨hn0, hm0⟩ := and_e hn
  obtain ⟨hn1, hm1⟩ := and_e hm0
  obtain ⟨hn2, hm2⟩ := and_e hm1
  obtain ⟨hn3, hm3⟩ := and_e hm2
  obtain ⟨hn4, hm4⟩ := and_e hm3
  obtain ⟨hn5, hm5⟩ := and_e hm4
  obtain ⟨ho0, hx0⟩ := and_e hm5
  obtain ⟨ho1, hx1⟩ := and_e hx0
  obtain ⟨ho2, hx2⟩ := and_e hx1
  obtain ⟨ho5, hx3⟩ := and_e hx2
  obtain ⟨ho3, hx4⟩ := and_e hx3
  have ho4 := hx4
  obtain ⟨en0, een0⟩ := exa_v hn0
  have Een0 := Exa.start een0 hn0
  have Sen0 := Sta.start een0 (Or.inr ⟨(hw _ (List.mem_of_getElem? (i := 3) rfl)), (hw _ (List.mem_of_getElem? (i := 4) rfl))⟩)
  have fo0 := (fld_at een0).symm.trans (eqv_i (Term.int_eval _) ho0)
  have Oen0 := Fld.start fo0
  obtain ⟨en1, een1⟩ := exa_v hn1
  have Een1 := Exa.start een1 hn1
  have Sen1 := Sta.start een1 (Or.inr ⟨(hw _ (List.mem_of_getElem? (i := 3) rfl)), (hw _ (List.mem_of_getElem? (i := 7) rfl))⟩)
  have fo1 := (fld_at een1).symm.trans (eqv_i (Term.int_eval _) ho1)
  have Oen1 := Fld.start fo1
  obtain ⟨en2, een2⟩ := exa_v hn2
  have Een2 := Exa.start een2 hn2
  have Sen2 := Sta.start een2 (Or.inr ⟨(hw _ (List.mem_of_getElem? (i := 3) rfl)), (hw _ (List.mem_of_getElem? (i := 9) rfl))⟩)
  have fo2 := (fld_at een2).symm.trans (eqv_i (Term.int_eval _) ho2)
  have Oen2 := Fld.start fo2
  obtain ⟨en3, een3⟩ := exa_v hn3
  have Een3 := Exa.start een3 hn3
  have Sen3 := Sta.start een3 (Or.inr ⟨(hw _ (List.mem_of_getElem? (i := 3) rfl)), (hw _ (List.mem_of_getElem? (i := 11) rfl))⟩)
  have fo3 := (fld_at een3).symm.trans (eqv_i (Term.int_eval _) ho3)
  have Oen3 := Fld.start fo3
  obtain ⟨en4, een4⟩ := exa_v hn4
  have Een4 := Exa.start een4 hn4
  have Sen4 := Sta.start een4 (Or.inr ⟨(hw _ (List.mem_of_getElem? (i := 3) rfl)), (hw _ (List.mem_of_getElem? (i := 13) rfl))⟩)
  have fo4 := (fld_at een4).symm.trans (eqv_i (Term.int_eval _) ho4)
  have Oen4 := Fld.start fo4
  obtain ⟨en5, een5⟩ := exa_v hn5
  have Een5 := Exa.start een5 hn5
  have Sen5 := Sta.start een5 (Or.inr ⟨(hw _ (List.mem_of_getElem? (i := 3) rfl)), (hw _ (List.mem_of_getElem? (i := 15) rfl))⟩)
  have fo5 := (fld_at een5).symm.trans (eqv_i (Term.int_eval _) ho5)
  have Oen5 := Fld.start fo5
  obtain ⟨n, o, h1, h2, h3, _, L, rfl, ⟨rfl, N⟩, hq⟩ := rm0 l s _ hw tables_1 i0 i1 i2 en0 en1 en2 en3 en4 en5 s.heap s.heap.size (Nat.le_refl _) Een0 Een1 Een2 Een3 Een4 Een5 Sen0 Sen1 Sen2 Sen3 Sen4 Sen5 Oen0 Oen1 Oen2 Oen3 Oen4 Oen5 (ord_ne fo1 fo0 (by decide)) (ord_ne fo2 fo0 (by decide)) (ord_ne fo3 fo0 (by decide)) (ord_ne fo4 fo0 (by decide)) (ord_ne fo5 fo0 (by decide)) (ord_ne fo2 fo1 (by decide)) (ord_ne fo3 fo1 (by decide)) (ord_ne fo4 fo1 (by decide)) (ord_ne fo5 fo1 (by decide)) p e ha hc hk s m _ below hf ((Spec.applies_iff_loose hf).mp happ).1 ⟨rfl, State.Warmed39.refl s, rfl⟩ trivial
  refine ⟨n, _, h1, h2, h3, hpost _ _ _ _ _ _ ⟨Cond.after_iff.mpr rfl, Cond.after_iff.mpr (eq_i res_at (Term.int_eval (1)) rfl), trivial⟩ ⟨hq.1, hq.2.1, (hq.2.2.sift fun y hy => Or.inr (N y hy)).mono (by decide) (by decide)⟩⟩
theorem main_1_1 : Claimed_1_1 := comes_1 fun _ _ _ _ _ _ h hF => ⟨h.1, hF⟩
theorem main_1_2 : Claimed_1_2 := comes_1 fun _ _ _ _ _ _ h hF => ⟨h.2.1, hF⟩
end Jvm.Pilot.@@N@@
namespace Jvm.Pilot.@@N@@
open Jvm Jvm.ClassFile Sem Op Lib Jvm.Free Jvm.Stand Jvm.Pilot.@@N@@.Jvm.D
/-! MADE BY PROGRAM (witnessworld.py) out of the Statement's table words and the real class files: 13 classes; the members and pool entries that the words name. The judged class is class 1, her method 1. -/
namespace start1
open Jvm.ClassFile
def u (s : String) : CpInfo := .utf8 (stringToUtf16 s)
/-- a pool by its gaps: so many unusable entries, then the entry; so many at the end -/
def gap : Nat → List CpInfo → List CpInfo
  | 0, r => r
  | n + 1, r => .unusable :: gap n r
def poolList (es : List (Nat × CpInfo)) (last : Nat) : List CpInfo := es.foldr (fun e r => gap e.1 (e.2 :: r)) (gap last [])
def pool (es : List (Nat × CpInfo)) (last : Nat) : Array CpInfo := ⟨poolList es last⟩
def fileOf (pool : Array CpInfo) (this : Nat) (attrs : Array Attribute := #[]) (ms : Array MethodInfo := #[]) (fl : Nat := 33) (sup : Nat := 0) (ifs : Array Nat := #[]) (fds : Array FieldInfo := #[]) : ClassFile where
  minorVersion := 0
  majorVersion := 65
  constantPool := pool
  accessFlags := fl
  thisClass := this
  superClass := sup
  interfaces := ifs
  fields := fds
  methods := ms
  attributes := attrs
def plain (name : String) (sup : Option ClassId) : Class where
  name := name
  kind := .ordinary
  loader := none
  accessFlags := 33
  super := sup
  interfaces := #[]
  cf := none
  fields := #[]
  methods := #[]
  instanceTypes := #[]
  staticTypes := #[]
  resolved := #[]
  callSites := []
  init := .initialized
  statics := none
  mirror := none

def pool0 : Array CpInfo := pool [(5, u "<init>"), (0, u "()V"), (1, .class_ 10), (1, u "java/lang/Object")] 113

def k0m0 : Method := { name := "<init>", desc := "()V", sig := { parameters := [], returnType := none }, accessFlags := 1, code := none }
/-- java/lang/Object -/
def k0 : Class := { plain "java/lang/Object" none with
  accessFlags := 33
  interfaces := #[]
  cf := some (fileOf pool0 8 #[] #[{ accessFlags := 1, nameIndex := 5, descriptorIndex := 6, attributes := #[] }] 33 0 #[] #[])
  fields := #[]
  methods := #[k0m0]
  instanceTypes := #[]
  staticTypes := #[]
  resolved := Array.replicate 124 none
  statics := none }

def pool1 : Array CpInfo := pool [(2, .class_ 4), (1, u "java/lang/Object"), (0, u "<init>"), (0, u "()V"), (0, .class_ 8), (0, u "com/example/geofence/geofence/Comparison"), (0, .fieldref 7 10), (0, .nameAndType 11 12), (0, u "EQUAL"), (0, u "Lcom/example/geofence/geofence/Comparison;"), (0, .fieldref 7 14), (0, .nameAndType 15 12), (0, u "NOT_EQUAL"), (0, .fieldref 7 17), (0, .nameAndType 18 12), (0, u "LESS"), (0, .fieldref 7 20), (0, .nameAndType 21 12), (0, u "LESS_OR_EQUAL"), (0, .fieldref 7 23), (0, .nameAndType 24 12), (0, u "GREATER"), (0, .fieldref 7 26), (0, .nameAndType 27 12), (0, u "GREATER_OR_EQUAL"), (0, .integer 2147483647), (0, .methodref 7 30), (0, .nameAndType 31 32), (0, u "isEquality"), (0, u "()Z"), (0, .double 4611686018427387904), (1, .methodref 7 36), (0, .nameAndType 37 38), (0, u "holds"), (0, u "(DD)Z"), (0, .class_ 40), (0, u "com/example/geofence/geofence/ComparisonIsEqualityPinLaw"), (2, u "law"), (0, u "(III)Z")] 5

def k1m0 : Method := { name := "<init>", desc := "()V", sig := { parameters := [], returnType := none }, accessFlags := 2, code := none }
def k1c1 : Code := { maxStack := 6, maxLocals := 15, code := code, exceptionTable := #[], attributes := #[] }
def k1m1 : Method := { name := "law", desc := "(III)Z", sig := { parameters := [.int, .int, .int], returnType := some .boolean }, accessFlags := 9, code := some k1c1 }
/-- com/example/geofence/geofence/ComparisonIsEqualityPinLaw -/
def k1 : Class := { plain "com/example/geofence/geofence/ComparisonIsEqualityPinLaw" (some 0) with
  accessFlags := 49
  interfaces := #[]
  cf := some (fileOf pool1 39 #[] #[{ accessFlags := 2, nameIndex := 5, descriptorIndex := 6, attributes := #[] }, { accessFlags := 9, nameIndex := 43, descriptorIndex := 44, attributes := #[] }] 49 2 #[] #[])
  fields := #[]
  methods := #[k1m0, k1m1]
  instanceTypes := #[]
  staticTypes := #[]
  resolved := Array.replicate 50 none
  statics := none }

def pool2 : Array CpInfo := pool [(1, .class_ 2), (0, u "java/lang/constant/Constable"), (0, .class_ 4), (0, u "java/lang/Object")] 6

/-- java/lang/constant/Constable -/
def k2 : Class := { plain "java/lang/constant/Constable" (some 0) with
  accessFlags := 1537
  interfaces := #[]
  cf := some (fileOf pool2 1 #[] #[] 1537 3 #[] #[])
  fields := #[]
  methods := #[]
  instanceTypes := #[]
  staticTypes := #[]
  resolved := Array.replicate 11 none
  statics := none }

def pool3 : Array CpInfo := pool [(1, .class_ 2), (0, u "java/lang/Comparable"), (0, .class_ 4), (0, u "java/lang/Object")] 7

/-- java/lang/Comparable -/
def k3 : Class := { plain "java/lang/Comparable" (some 0) with
  accessFlags := 1537
  interfaces := #[]
  cf := some (fileOf pool3 1 #[] #[] 1537 3 #[] #[])
  fields := #[]
  methods := #[]
  instanceTypes := #[]
  staticTypes := #[]
  resolved := Array.replicate 12 none
  statics := none }

def pool4 : Array CpInfo := pool [(1, .class_ 2), (0, u "java/io/Serializable"), (0, .class_ 4), (0, u "java/lang/Object")] 2

/-- java/io/Serializable -/
def k4 : Class := { plain "java/io/Serializable" (some 0) with
  accessFlags := 1537
  interfaces := #[]
  cf := some (fileOf pool4 1 #[] #[] 1537 3 #[] #[])
  fields := #[]
  methods := #[]
  instanceTypes := #[]
  staticTypes := #[]
  resolved := Array.replicate 7 none
  statics := none }

def pool5 : Array CpInfo := pool [(2, .class_ 4), (1, u "java/lang/Enum"), (0, u "name"), (0, u "Ljava/lang/String;"), (0, .fieldref 2 8), (0, .nameAndType 9 10), (0, u "ordinal"), (0, u "I"), (1, .class_ 14), (1, u "java/lang/Object"), (4, u "hash"), (86, .class_ 108), (1, u "java/lang/Enum$EnumDesc"), (2, .class_ 112), (0, u "java/lang/constant/Constable"), (0, .class_ 114), (0, u "java/lang/Comparable"), (0, .class_ 116), (0, u "java/io/Serializable"), (9, u "()I")] 77

def k5c0 : Code := { maxStack := 1, maxLocals := 1, code := jdk_37_method_2_code, exceptionTable := #[], attributes := #[] }
def k5m0 : Method := { name := "ordinal", desc := "()I", sig := { parameters := [], returnType := some .int }, accessFlags := 17, code := some k5c0 }
/-- java/lang/Enum -/
def k5 : Class := { plain "java/lang/Enum" (some 0) with
  accessFlags := 1057
  interfaces := #[2, 3, 4]
  cf := some (fileOf pool5 2 #[.nestMembers #[106]] #[{ accessFlags := 17, nameIndex := 9, descriptorIndex := 126, attributes := #[] }] 1057 12 #[111, 113, 115] #[{ accessFlags := 18, nameIndex := 5, descriptorIndex := 6, attributes := #[] }, { accessFlags := 18, nameIndex := 9, descriptorIndex := 10, attributes := #[] }, { accessFlags := 2, nameIndex := 19, descriptorIndex := 10, attributes := #[] }])
  fields := #[{ name := "name", type := (.object "java/lang/String"), accessFlags := 18, slot := 0, constantValue := 0 }, { name := "ordinal", type := .int, accessFlags := 18, slot := 1, constantValue := 0 }, { name := "hash", type := .int, accessFlags := 2, slot := 2, constantValue := 0 }]
  methods := #[k5m0]
  instanceTypes := #[(.object "java/lang/String"), .int, .int]
  staticTypes := #[]
  resolved := Array.replicate 204 none
  statics := none }

def pool6 : Array CpInfo := pool [(1, .class_ 2), (0, u "com/example/geofence/geofence/Comparison"), (0, .fieldref 1 4), (0, .nameAndType 5 6), (0, u "EQUAL"), (0, u "Lcom/example/geofence/geofence/Comparison;"), (0, .fieldref 1 8), (0, .nameAndType 9 6), (0, u "NOT_EQUAL"), (2, u "LESS"), (2, u "LESS_OR_EQUAL"), (2, u "GREATER"), (2, u "GREATER_OR_EQUAL"), (2, u "$VALUES"), (0, u "[Lcom/example/geofence/geofence/Comparison;"), (6, .class_ 34), (1, u "java/lang/Enum"), (8, u "symbol"), (0, u "Ljava/lang/String;"), (0, .methodref 1 46), (0, .nameAndType 47 48), (0, u "ordinal"), (0, u "()I"), (13, u "holds"), (0, u "(DD)Z"), (33, u "isEquality"), (0, u "()Z")] 7

def k6c0 : Code := { maxStack := 2, maxLocals := 1, code := prog_1_method_5_code, exceptionTable := #[], attributes := #[] }
def k6m0 : Method := { name := "isEquality", desc := "()Z", sig := { parameters := [], returnType := some .boolean }, accessFlags := 0, code := some k6c0 }
def k6c1 : Code := { maxStack := 4, maxLocals := 5, code := prog_1_method_6_code, exceptionTable := #[], attributes := #[] }
def k6m1 : Method := { name := "holds", desc := "(DD)Z", sig := { parameters := [.double, .double], returnType := some .boolean }, accessFlags := 0, code := some k6c1 }
/-- com/example/geofence/geofence/Comparison -/
def k6 : Class := { plain "com/example/geofence/geofence/Comparison" (some 5) with
  accessFlags := 16432
  interfaces := #[]
  cf := some (fileOf pool6 1 #[] #[{ accessFlags := 0, nameIndex := 97, descriptorIndex := 98, attributes := #[] }, { accessFlags := 0, nameIndex := 62, descriptorIndex := 63, attributes := #[] }] 16432 32 #[] #[{ accessFlags := 16409, nameIndex := 5, descriptorIndex := 6, attributes := #[] }, { accessFlags := 16409, nameIndex := 9, descriptorIndex := 6, attributes := #[] }, { accessFlags := 16409, nameIndex := 12, descriptorIndex := 6, attributes := #[] }, { accessFlags := 16409, nameIndex := 15, descriptorIndex := 6, attributes := #[] }, { accessFlags := 16409, nameIndex := 18, descriptorIndex := 6, attributes := #[] }, { accessFlags := 16409, nameIndex := 21, descriptorIndex := 6, attributes := #[] }, { accessFlags := 18, nameIndex := 43, descriptorIndex := 44, attributes := #[] }, { accessFlags := 4122, nameIndex := 24, descriptorIndex := 25, attributes := #[] }])
  fields := #[{ name := "EQUAL", type := (.object "com/example/geofence/geofence/Comparison"), accessFlags := 16409, slot := 0, constantValue := 0 }, { name := "NOT_EQUAL", type := (.object "com/example/geofence/geofence/Comparison"), accessFlags := 16409, slot := 1, constantValue := 0 }, { name := "LESS", type := (.object "com/example/geofence/geofence/Comparison"), accessFlags := 16409, slot := 2, constantValue := 0 }, { name := "LESS_OR_EQUAL", type := (.object "com/example/geofence/geofence/Comparison"), accessFlags := 16409, slot := 3, constantValue := 0 }, { name := "GREATER", type := (.object "com/example/geofence/geofence/Comparison"), accessFlags := 16409, slot := 4, constantValue := 0 }, { name := "GREATER_OR_EQUAL", type := (.object "com/example/geofence/geofence/Comparison"), accessFlags := 16409, slot := 5, constantValue := 0 }, { name := "symbol", type := (.object "java/lang/String"), accessFlags := 18, slot := 3, constantValue := 0 }, { name := "$VALUES", type := (.array (.object "com/example/geofence/geofence/Comparison")), accessFlags := 4122, slot := 6, constantValue := 0 }]
  methods := #[k6m0, k6m1]
  instanceTypes := #[(.object "java/lang/String"), .int, .int, (.object "java/lang/String")]
  staticTypes := #[(.object "com/example/geofence/geofence/Comparison"), (.object "com/example/geofence/geofence/Comparison"), (.object "com/example/geofence/geofence/Comparison"), (.object "com/example/geofence/geofence/Comparison"), (.object "com/example/geofence/geofence/Comparison"), (.object "com/example/geofence/geofence/Comparison"), (.array (.object "com/example/geofence/geofence/Comparison"))]
  resolved := Array.replicate 106 none
  statics := some 0 }

def pool7 : Array CpInfo := pool [(1, u "java/lang/Cloneable"), (0, .class_ 1), (0, u "java/lang/Object"), (0, .class_ 3)] 3

/-- java/lang/Cloneable -/
def k7 : Class := { plain "java/lang/Cloneable" (some 0) with
  accessFlags := 1537
  interfaces := #[]
  cf := some (fileOf pool7 2 #[] #[] 1537 4 #[] #[])
  fields := #[]
  methods := #[]
  instanceTypes := #[]
  staticTypes := #[]
  resolved := Array.replicate 8 none
  statics := none }

/-- the primitive byte -/
def k8 : Class := { plain "byte" none with kind := .primitive 'B', accessFlags := 0x411 }
/-- [B -/
def k9 : Class := { plain "[B" (some 0) with kind := .array 8 .byte, interfaces := #[7, 4], accessFlags := 1041 }

/-- the primitive int -/
def k10 : Class := { plain "int" none with kind := .primitive 'I', accessFlags := 0x411 }
/-- [I -/
def k11 : Class := { plain "[I" (some 0) with kind := .array 10 .int, interfaces := #[7, 4], accessFlags := 1041 }

/-- [Lcom/example/geofence/geofence/Comparison; -/
def k12 : Class := { plain "[Lcom/example/geofence/geofence/Comparison;" (some 0) with kind := .array 6 (.object "com/example/geofence/geofence/Comparison"), interfaces := #[7, 4], accessFlags := 1041 }

def heap : Heap := #[{ cls := 6, slots := #[.ref 1, .ref 2, .ref 3, .ref 4, .ref 5, .ref 6, .null], vm := .statics 6 },
  { cls := 6, slots := #[.null, .int 0, .int 0, .null], vm := .none },
  { cls := 6, slots := #[.null, .int 1, .int 0, .null], vm := .none },
  { cls := 6, slots := #[.null, .int 2, .int 0, .null], vm := .none },
  { cls := 6, slots := #[.null, .int 3, .int 0, .null], vm := .none },
  { cls := 6, slots := #[.null, .int 4, .int 0, .null], vm := .none },
  { cls := 6, slots := #[.null, .int 5, .int 0, .null], vm := .none }]
def classes : Array Class := #[k0, k1, k2, k3, k4, k5, k6, k7, k8, k9, k10, k11, k12]
def interned : List (Array UInt16 × Addr) := []
def slotsUsed : Nat := 31
def theMethod : MethodId := ⟨1, 1⟩
def args0 : Array Value := #[.int 4, .int 8, .int 5]
def aboutOver (below : List Frame) : State where
  vm := { classes := classes, interned := interned.toArray }
  heap := heap
  slotsUsed := slotsUsed
  threads := #[{ frames := .invoking theMethod args0 :: below }]
def below0 : List Frame := [.native { method := ⟨0, 0⟩, args := #[] }]
def about1 : State := aboutOver below0
def p0 : Program := .bare "" "" ""
def e0 : Env := launch0.env 0 0 0
theorem w_frames : about1.frames = Frame.invoking theMethod args0 :: below0 := rfl
set_option maxRecDepth 65536 in
theorem w_args : argsFit about1.vm theMethod args0 = true := by decide +kernel
set_option maxRecDepth 65536 in
theorem w_heap : heapFits about1 = true := by decide +kernel
set_option maxRecDepth 65536 in
theorem w_runnable : about1.curStatus? = some .runnable := by decide +kernel
set_option maxRecDepth 65536 in
theorem w_alone : about1.alone = true := by decide +kernel
set_option maxRecDepth 65536 in
theorem w_named : about1.methodNamed? x = some theMethod := by decide +kernel
set_option maxRecDepth 65536 in
theorem w_hears : about1.hears theMethod below0 = true := by decide +kernel
set_option maxRecDepth 65536 in
theorem w_ripe : about1.ripe theMethod args0 below0 = true := by decide +kernel
theorem w_running : about1.status = .running := rfl
set_option maxRecDepth 65536 in
theorem w_room : about1.hasRoom e0.platform room_1 = true :=
  launch0.hasRoom_least _ room_1 (by decide +kernel) (by decide +kernel) (by decide +kernel) (by decide +kernel) (by decide +kernel) (by decide +kernel)
theorem allAtoms_all (ts : List Jvm.Cond) (a : Array Jvm.Value) (st : Jvm.State) : (allAtoms ts).before a st = ts.all (fun c => c.before a st) := by
  induction ts with
  | nil => rfl
  | cons c t ih =>
    show (Jvm.Cond.and c (allAtoms t)).before a st = _
    rw [Jvm.Cond.before_and, ih, List.all_cons]
def words1 : List Jvm.Cond := Jvm.Cond.code x code maxLocals ret :: tables_1
/-- a 'code' word, met by the world's own term for the bytes: nothing is compared byte by byte -/
theorem code_word {y : MethodName} {bytes : ByteArray} {mx : Nat} {rt : Option FieldType} {a : Array Value} {s : State} {m : MethodId} {meth : Method} {c : Code} (h1 : s.methodNamed? y = some m) (h2 : s.vm.method? m = some meth) (h3 : meth.code = some c) (h4 : c.code = bytes)
    (h5 : (c.maxLocals == mx && c.exceptionTable.isEmpty && decide (c.maxStack ≤ mostOperands) && decide (meth.sig.returnType = rt) && !meth.locks && decide (parseMethodDescriptor y.desc = some meth.sig)) = true) : (Jvm.Cond.code y bytes mx rt).before a s = true := by
  simp only [Bool.and_eq_true, beq_iff_eq, Bool.not_eq_true', decide_eq_true_eq] at h5
  obtain ⟨⟨⟨⟨⟨g1, g2⟩, g3⟩, g4⟩, g5⟩, g6⟩ := h5
  simp [Cond.before, Cond.holds, Cond.value, h1, h2, h3, h4, g1, g2, g3, g4, g5, g6]
def isCode : Jvm.Cond → Bool
  | .code _ _ _ _ => true
  | _ => false
theorem all_split {L : List Jvm.Cond} {P : Jvm.Cond → Bool} (h1 : L.all (fun c => isCode c || P c) = true) (h2 : ∀ c ∈ L.filter isCode, P c = true) : L.all P = true := by
  refine List.all_eq_true.mpr fun c hc => ?_
  have h := List.all_eq_true.mp h1 c hc
  rcases Bool.eq_false_or_eq_true (isCode c) with hi | hi
  · exact h2 c (List.mem_filter.mpr ⟨hc, hi⟩)
  · simpa [hi] using h
set_option maxRecDepth 65536 in
theorem w_c0 : (Jvm.Cond.code x code maxLocals ret).before args0 about1 = true := code_word (m := ⟨1, 1⟩) (meth := k1m1) (c := k1c1) (by decide +kernel) rfl rfl rfl (by decide +kernel)
set_option maxRecDepth 65536 in
theorem w_c1 : (Jvm.Cond.code ({ cls := "com/example/geofence/geofence/Comparison", name := "isEquality", desc := "()Z" } : Jvm.MethodName) prog_1_method_5_code (1 : Nat) (Option.some Jvm.ClassFile.FieldType.boolean)).before args0 about1 = true := code_word (m := ⟨6, 0⟩) (meth := k6m0) (c := k6c0) (by decide +kernel) rfl rfl rfl (by decide +kernel)
set_option maxRecDepth 65536 in
theorem w_c2 : (Jvm.Cond.code ({ cls := "com/example/geofence/geofence/Comparison", name := "holds", desc := "(DD)Z" } : Jvm.MethodName) prog_1_method_6_code (5 : Nat) (Option.some Jvm.ClassFile.FieldType.boolean)).before args0 about1 = true := code_word (m := ⟨6, 1⟩) (meth := k6m1) (c := k6c1) (by decide +kernel) rfl rfl rfl (by decide +kernel)
set_option maxRecDepth 65536 in
theorem w_c3 : (Jvm.Cond.code ({ cls := "java/lang/Enum", name := "ordinal", desc := "()I" } : Jvm.MethodName) jdk_37_method_2_code (1 : Nat) (Option.some Jvm.ClassFile.FieldType.int)).before args0 about1 = true := code_word (m := ⟨5, 0⟩) (meth := k5m0) (c := k5c0) (by decide +kernel) rfl rfl rfl (by decide +kernel)
def codes1 : List Jvm.Cond := [Jvm.Cond.code x code maxLocals ret, Jvm.Cond.code ({ cls := "com/example/geofence/geofence/Comparison", name := "isEquality", desc := "()Z" } : Jvm.MethodName) prog_1_method_5_code (1 : Nat) (Option.some Jvm.ClassFile.FieldType.boolean), Jvm.Cond.code ({ cls := "com/example/geofence/geofence/Comparison", name := "holds", desc := "(DD)Z" } : Jvm.MethodName) prog_1_method_6_code (5 : Nat) (Option.some Jvm.ClassFile.FieldType.boolean), Jvm.Cond.code ({ cls := "java/lang/Enum", name := "ordinal", desc := "()I" } : Jvm.MethodName) jdk_37_method_2_code (1 : Nat) (Option.some Jvm.ClassFile.FieldType.int)]
set_option maxRecDepth 65536 in
theorem codes_eq : words1.filter isCode = codes1 := rfl
theorem w_codes : ∀ c ∈ words1.filter isCode, c.before args0 about1 = true := by
  rw [codes_eq]
  intro c hc
  simp only [codes1, List.mem_cons, List.not_mem_nil, or_false] at hc
  rcases hc with rfl | rfl | rfl | rfl
  · exact w_c0
  · exact w_c1
  · exact w_c2
  · exact w_c3
set_option maxRecDepth 65536 in
theorem w_t1 : (words1.take 24).all (fun c => isCode c || c.before args0 about1) = true := by decide +kernel
set_option maxRecDepth 65536 in
theorem w_t2 : (words1.drop 24).all (fun c => isCode c || c.before args0 about1) = true := by decide +kernel
theorem w_tables : (allAtoms (Jvm.Cond.code x code maxLocals ret :: tables_1)).before args0 about1 = true := by
  rw [allAtoms_all]
  show words1.all (fun c => c.before args0 about1) = true
  refine all_split ?_ w_codes
  rw [← List.take_append_drop 24 words1, List.all_append, w_t1, w_t2]
  rfl
set_option maxRecDepth 65536 in
theorem w_case : (Jvm.Cond.and given_1 narrow_1).before args0 about1 = true := by decide +kernel
theorem w_applies : (headSpec (Jvm.Cond.code x code maxLocals ret :: tables_1) room_1).applies x e0.platform about1 = true :=
  (Spec.applies_iff w_frames).mpr ⟨w_running, w_runnable, w_alone, w_named, w_hears, w_ripe, w_room, w_tables⟩
theorem atStart : AtStart classFile x code maxLocals ret World_1 tables_1 room_1 Calls_1 rest_1 Pre_1 launch0 p0 e0 about1 theMethod args0 below0 :=
  ⟨lists_1, trivial, launch0.admits_env _ _ _, launch0.least_env, fairChoices_fair.cas, fairChoices_fair.clock, w_frames, w_args, w_heap, w_applies, trivial, trivial, w_case⟩
end start1
theorem witness_1 : WitnessClaimed_1 := ⟨start1.p0, start1.e0, start1.about1, start1.theMethod, start1.args0, start1.below0, start1.atStart⟩
end Jvm.Pilot.@@N@@
